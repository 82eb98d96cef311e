/- Targets: the walk of levelTargets. impl.Targets: the walk. Targets: the plain law. Running, isLastLevel, ParseKey. Ranges of keys: isEmpty, infRange. Ranges of keys: overlapsWith. Ranges of keys: equals, infRange. Ranges of keys: infRange. numTables, delSize. numbers: the tables' numbers as a row. Ranges of keys as elements of a row; the range of tables. getKeyRange: the range of tables. extend: a range grown by another one. The order of keys, plain. LevelsOk: what it says of levels; the walk. Floats: whole numbers, quotients of them, and how words compare. Rows of priorities in memory, and of what is told of them. -/
import Derived.Test.YtnineoajmgneiaaGreatZb
import Derived.Test.YtnineoajmgneiaaGreatZc
import Derived.Laws.FloatArith
namespace Go.Proofs.YtnineoajmgneiaaGreat.Tg
open Go.RowKit YtnineoajmgneiaaGreatW.PrintWords YtnineoajmgneiaaGreatW.PrintLast YtnineoajmgneiaaGreatW.PrintMore Fr L Ky Tm Lm Sr Ls It Nw
set_option linter.unusedVariables false
set_option linter.unusedSimpArgs false
theorem info2 : (Tryz.prog.info? 2).map (fun i => (i.zero, i.size, i.bytes)) = some (some (.int .i64 0), 1, 8) := by kernel_rfl
/-- Levels as the planner reads them: their sizes. -/
structure Lv (w : World) (sb ob blk c : Nat) (o : Lm.Op) (sz : List Int) : Prop where
 s0 : w.cell? ⟨sb, 0, none⟩ = some (.slice (some ⟨blk, 0, none⟩) sz.length c)
 s1 : w.cell? ⟨sb, 1, none⟩ = some (ptr ob)
 op : w.heap[ob]? = some (.cells (optC o) 100 (0, 0))
 at_ : ∀ i, i < sz.length → ∃ hp, w.cell? ⟨blk, i, none⟩ = some (ptr hp) ∧ w.cell? ⟨hp, 1, none⟩ = some (.int .i64 (sz.getD i 0))
theorem Lv.below {w w1 : World} {sb ob blk c : Nat} {o : Lm.Op} {sz : List Int} (h : Lv w sb ob blk c o sz) (hb : Below w.heap.size w w1) : Lv w1 sb ob blk c o sz := by
 have mv : ∀ {a : Addr} {v : Value}, w.cell? a = some v → w1.cell? a = some v := fun hc => (hb.cell (World.block_lt_of_cell? w _ hc)).trans hc
 refine ⟨mv h.s0, mv h.s1, (hb.block _ (blk_lt h.op)).trans h.op, fun i hi => ?_⟩
 obtain ⟨hp, h1, h2⟩ := h.at_ i hi
 exact ⟨hp, mv h1, mv h2⟩
theorem tot_calls {w : World} {hp : Nat} {v : Value} (h : w.cell? ⟨hp, 1, none⟩ = some v) : Calls Tryz.prog 83 #[.pointer (some ⟨hp, 0, none⟩)] w fun e w' => e = .returned v ∧ w = w' := by
 go_enter Tryz.func83, Tryz.ntmps83
 go_wp2
 go_ret
 exact ⟨rfl, rfl⟩
set_option maxHeartbeats 2000000 in
theorem last_calls {w : World} {sb blk c k hp : Nat} (hk : k ≤ 100) (h0 : w.cell? ⟨sb, 0, none⟩ = some (.slice (some ⟨blk, 0, none⟩) (k + 1) c)) (h1 : w.cell? ⟨blk, k, none⟩ = some (ptr hp)) :
  Calls Tryz.prog 82 #[.pointer (some ⟨sb, 0, none⟩)] w fun e w' => e = .returned (ptr hp) ∧ ∃ q, w' = w.drewN q := by
 unfold ptr at *
 have s1 : IntKind.i64.wrap ((k : Int) + 1 - 1) = (k : Int) := by rw [IntWalk.i64_in _ (by omega)]; omega
 have s2 : IntKind.i64.wrap (k : Int) = (k : Int) := by rw [IntWalk.i64_in _ (by omega)]
 have s3 : ((k + 1 : Nat) : Int) = (k : Int) + 1 := rfl
 go_enter Tryz.func82, Tryz.ntmps82
 go_wp2_with fail
 go_quiet (fail)
 go_wp2
 go_ret
 exact ⟨rfl, nq, rfl⟩
def adj (o : Lm.Op) (x : Int) : Int := if x < o.base then o.base else x
set_option maxHeartbeats 2000000 in
theorem adj_calls {w : World} {b1 sb ob : Nat} {o : Lm.Op} {x : Int} (h0 : w.cell? ⟨b1, 0, none⟩ = some (ptr sb)) (h1 : w.cell? ⟨sb, 1, none⟩ = some (ptr ob)) (h2 : w.heap[ob]? = some (.cells (optC o) 100 (0, 0))) :
  Calls Tryz.prog 81 #[.int .i64 x, .pointer (some ⟨b1, 0, none⟩)] w fun e w' => e = .returned (.int .i64 (adj o x)) ∧ w = w' := by
 have h3 : w.cell? ⟨ob, 4, none⟩ = some (.int .i64 o.base) := blk_cell h2 4
 unfold ptr at *
 clear h2
 unfold adj
 by_cases hx : x < o.base
 ·rw [if_pos hx]
  have d := decide_eq_true hx
  clear hx
  go_enter Tryz.func81, Tryz.ntmps81
  go_wp2
  go_ret
  exact ⟨rfl, rfl⟩
 ·rw [if_neg hx]
  have d := decide_eq_false hx
  clear hx
  go_enter Tryz.func81, Tryz.ntmps81
  go_wp2
  go_ret
  exact ⟨rfl, rfl⟩
/-! ### what it computes -/
def lp1 (o : Lm.Op) : Nat → Int → List Int → Int → Int × List Int
 | 0, bl, T, _ => (bl, T)
 | i + 1, bl, T, db => lp1 o i (if bl = 0 ∧ adj o db ≤ o.base then ((i + 1 : Nat) : Int) else bl) (T.set (i + 1) (adj o db)) (db / o.mult)
def lp2 (sz : List Int) : Nat → Nat → Int → Int
 | 0, _, bl => bl
 | k + 1, i, bl => if i + 1 < sz.length then (if sz.getD i 0 > 0 then bl else lp2 sz k (i + 1) (i : Int)) else bl
def lp3 (sz : List Int) : Nat → Nat → Int → Int
 | 0, _, bl => bl
 | k + 1, i, bl => if (i : Int) < bl then (if sz.getD i 0 > 0 then (i : Int) else lp3 sz k (i + 1) bl) else bl
def lp4 (o : Lm.Op) (bl : Int) : Nat → Nat → Int → List Int → List Int
 | 0, _, _, F => F
 | k + 1, i, t, F => if i = 0 then lp4 o bl k (i + 1) t (F.set i o.mem) else (if (i : Int) ≤ bl then lp4 o bl k (i + 1) t (F.set i t) else lp4 o bl k (i + 1) (wrap64 (t * o.tmul)) (F.set i (wrap64 (t * o.tmul))))
def blT (o : Lm.Op) (sz : List Int) : Int × List Int := lp1 o (sz.length - 1) 0 (List.replicate sz.length 0) (sz.getD (sz.length - 1) 0)
def bl2 (o : Lm.Op) (sz : List Int) : Int := lp2 sz sz.length (if (blT o sz).1 = 0 then 1 else (blT o sz).1).toNat (if (blT o sz).1 = 0 then 1 else (blT o sz).1)
def up (o : Lm.Op) (sz T : List Int) (bl : Int) : Prop := bl + 1 < sz.length ∧ sz.getD bl.toNat 0 = 0 ∧ sz.getD (bl.toNat + 1) 0 < T.getD (bl.toNat + 1) 0 ∧ sz.getD (bl.toNat + 1) 0 < o.base
open Classical in
noncomputable def bl3 (o : Lm.Op) (sz : List Int) : Int := if up o sz (blT o sz).2 (bl2 o sz) then bl2 o sz + 1 else bl2 o sz
noncomputable def bl4 (o : Lm.Op) (sz : List Int) : Int := lp3 sz sz.length 1 (bl3 o sz)
noncomputable def files (o : Lm.Op) (sz : List Int) : List Int := lp4 o (bl4 o sz) sz.length 0 o.tab (List.replicate sz.length 0)
/-! ### the planner's own memory -/
structure TS (w0 : World) (n b4 tb fb cT cF : Nat) (bl : Int) (T F : List Int) (w : World) : Prop where
 blk : w.heap[b4]? = some (.cells #[.int .i64 bl, .slice (some ⟨tb, 0, none⟩) n cT, .slice (some ⟨fb, 0, none⟩) n cF] 103 (0, 0))
 t : Kd.R (Kd.int .i64) 2 w w0.heap.size (fun _ => True) (.slice (some ⟨tb, 0, none⟩) n cT) T
 f : Kd.R (Kd.int .i64) 2 w w0.heap.size (fun _ => True) (.slice (some ⟨fb, 0, none⟩) n cF) F
 ne : tb ≠ fb
 bel : Below w0.heap.size w0 w
 low : w0.heap.size ≤ b4
theorem ri_typed {w : World} {base g n c : Nat} {xs : List Int} (h : Kd.R (Kd.int .i64) 2 w base (fun _ => True) (.slice (some ⟨g, 0, none⟩) n c) xs) : ∃ cells, w.heap[g]? = some (.cells cells 2 (0, 0)) := Kd.R_typed h g (by simp [Value.ownBlock])
theorem ri_low {w : World} {base g n c : Nat} {xs : List Int} (h : Kd.R (Kd.int .i64) 2 w base (fun _ => True) (.slice (some ⟨g, 0, none⟩) n c) xs) : base ≤ g := Kd.R_base h g (by simp [Value.ownBlock])
theorem TS.setB {w0 w : World} {n b4 tb fb cT cF : Nat} {bl : Int} {T F : List Int} (h : TS w0 n b4 tb fb cT cF bl T F w) (b : Int) : TS w0 n b4 tb fb cT cF b T F (w.setCell ⟨b4, 0, none⟩ (.int .i64 b)) := by
 refine ⟨by have := blk_set h.blk 0 (.int .i64 b); simpa using this, Kd.R_set h.t h.blk (fun q hq => ?_) _ _, Kd.R_set h.f h.blk (fun q hq => ?_) _ _, h.ne, below_set h.bel h.low, h.low⟩
 all_goals
  have : q ∈ [2] := hq
  rw [List.mem_singleton.1 this]
  decide
theorem ri_ok {w : World} {base g n c : Nat} {xs : List Int} (h : Kd.R (Kd.int .i64) 2 w base (fun _ => True) (.slice (some ⟨g, 0, none⟩) n c) xs) : Kd.R (Kd.int .i64) 2 w base (fun k => k = g) (.slice (some ⟨g, 0, none⟩) n c) xs :=
 Kd.R_of_own (Kd.own_of_R h) (fun k hk => by simpa [Value.ownBlock] using hk.symm)
theorem TS.setT {w0 w : World} {n b4 tb fb cT cF : Nat} {bl : Int} {T F : List Int} (h : TS w0 n b4 tb fb cT cF bl T F w) (i : Nat) (x : Int) : TS w0 n b4 tb fb cT cF bl (T.set i x) F (w.setCell ⟨tb, i, none⟩ (.int .i64 x)) := by
 obtain ⟨ct, hct⟩ := ri_typed h.t
 refine ⟨blk_far h.blk (fun e => blk_ne h.blk hct (by decide) e) _, ?_, Kd.R_mono (Kd.R_far (ri_ok h.f) (fun k hk e => h.ne (e.symm.trans hk)) _) (fun _ _ => trivial), h.ne, below_set h.bel (ri_low h.t), h.low⟩
 have q := Kd.R_putn h.t (i : Int) x
 rwa [Int.toNat_natCast] at q
theorem TS.setF {w0 w : World} {n b4 tb fb cT cF : Nat} {bl : Int} {T F : List Int} (h : TS w0 n b4 tb fb cT cF bl T F w) (i : Nat) (x : Int) : TS w0 n b4 tb fb cT cF bl T (F.set i x) (w.setCell ⟨fb, i, none⟩ (.int .i64 x)) := by
 obtain ⟨ct, hct⟩ := ri_typed h.f
 refine ⟨blk_far h.blk (fun e => blk_ne h.blk hct (by decide) e) _, Kd.R_mono (Kd.R_far (ri_ok h.t) (fun k hk e => h.ne (hk.symm.trans e)) _) (fun _ _ => trivial), ?_, h.ne, below_set h.bel (ri_low h.f), h.low⟩
 have q := Kd.R_putn h.f (i : Int) x
 rwa [Int.toNat_natCast] at q
theorem TS.drewN {w0 w : World} {n b4 tb fb cT cF : Nat} {bl : Int} {T F : List Int} (h : TS w0 n b4 tb fb cT cF bl T F w) (q : Nat) : TS w0 n b4 tb fb cT cF bl T F (w.drewN q) := ⟨h.blk, Kd.R_drewN h.t q, Kd.R_drewN h.f q, h.ne, pw_below_drewN h.bel q, h.low⟩
theorem TS.cellT {w0 w : World} {n b4 tb fb cT cF : Nat} {bl : Int} {T F : List Int} (h : TS w0 n b4 tb fb cT cF bl T F w) {i : Nat} (hi : i < n) : w.cell? ⟨tb, i, none⟩ = some (.int .i64 (T.getD i 0)) ∧ w.frozen? ⟨tb, i, none⟩ = false := by
 have q := Kd.R_celln (0 : Int) h.t (i : Int) (by omega) (by omega)
 rw [Int.toNat_natCast] at q
 refine ⟨q.1.trans ?_, q.2⟩
 simp [rdOf]
theorem TS.cellF {w0 w : World} {n b4 tb fb cT cF : Nat} {bl : Int} {T F : List Int} (h : TS w0 n b4 tb fb cT cF bl T F w) {i : Nat} (hi : i < n) : w.cell? ⟨fb, i, none⟩ = some (.int .i64 (F.getD i 0)) ∧ w.frozen? ⟨fb, i, none⟩ = false := by
 have q := Kd.R_celln (0 : Int) h.f (i : Int) (by omega) (by omega)
 rw [Int.toNat_natCast] at q
 refine ⟨q.1.trans ?_, q.2⟩
 simp [rdOf]
theorem ts_made {w1 W W2 : World} {n b4 tb fb cT cF : Nat} (hy : W2 = ((W.setCell ⟨b4, 0, none⟩ (.int .i64 0)).setCell ⟨b4, 1, none⟩ (.slice (some ⟨tb, 0, none⟩) n cT)).setCell ⟨b4, 2, none⟩ (.slice (some ⟨fb, 0, none⟩) n cF)) {x0 x1 x2 : Value} (hb : W.heap[b4]? = some (.cells #[x0, x1, x2] 103 (0, 0)))
  (ht : Kd.R (Kd.int .i64) 2 W w1.heap.size (fun _ => True) (.slice (some ⟨tb, 0, none⟩) n cT) (List.replicate n 0)) (hf : Kd.R (Kd.int .i64) 2 W w1.heap.size (fun _ => True) (.slice (some ⟨fb, 0, none⟩) n cF) (List.replicate n 0)) (ne : tb ≠ fb) (hB : Below w1.heap.size w1 W) (hl : w1.heap.size ≤ b4) :
  TS w1 n b4 tb fb cT cF 0 (List.replicate n 0) (List.replicate n 0) W2 := by
 subst hy
 have k0 := blk_set hb 0 (.int .i64 0)
 have k1 := blk_set k0 1 (.slice (some ⟨tb, 0, none⟩) n cT)
 have k2 := blk_set k1 2 (.slice (some ⟨fb, 0, none⟩) n cF)
 have hq : ∀ q, q ∈ 2 :: (Kd.int .i64).E → q ≠ 103 := fun q hq => by
  have : q ∈ [2] := hq
  rw [List.mem_singleton.1 this]
  decide
 exact ⟨by simpa using k2, Kd.R_set (Kd.R_set (Kd.R_set ht hb hq _ _) k0 hq _ _) k1 hq _ _, Kd.R_set (Kd.R_set (Kd.R_set hf hb hq _ _) k0 hq _ _) k1 hq _ _, ne, below_set (below_set (below_set hB hl) hl) hl, hl⟩
theorem grown_none {w1 W W2 : World} (hB : Below w1.heap.size w1 W) (hb : Below w1.heap.size w1 W2) (hg : W.grownBy W2 none) : Below W.heap.size W W2 :=
 ⟨hb.os.trans hB.os.symm, hb.tape.trans hB.tape.symm, hb.output.trans hB.output.symm, hg.size, fun i hi => hg.block i hi (by simp)⟩
theorem made_ne {W : World} {base g c n : Nat} {xs : List Int} {v : Value} {g2 c2 n2 : Nat} (h : Kd.R (Kd.int .i64) 2 W base (fun _ => True) (.slice (some ⟨g, 0, none⟩) n c) xs) (hv : v = .slice (some ⟨g2, 0, none⟩) n2 c2) (hat : ∃ b, v.ownBlock = some b ∧ W.heap.size ≤ b) : g ≠ g2 := by
 obtain ⟨b, h1, h2⟩ := hat
 subst hv
 have h1 : g2 = b := by simpa [Value.ownBlock] using h1
 have := Kd.R_lt h g (by simp [Value.ownBlock])
 omega
theorem rd {w1 W : World} {sb ob blk c b1 n : Nat} {o : Lm.Op} {sz : List Int} (hn : n = sz.length) (hL : Lv w1 sb ob blk c o sz) (h1 : w1.cell? ⟨b1, 0, none⟩ = some (.pointer (some ⟨sb, 0, none⟩))) (hB : Below w1.heap.size w1 W) :
  W.cell? ⟨b1, 0, none⟩ = some (.pointer (some ⟨sb, 0, none⟩)) ∧ W.cell? ⟨sb, 0, none⟩ = some (.slice (some ⟨blk, 0, none⟩) n c) ∧ W.cell? ⟨sb, 1, none⟩ = some (.pointer (some ⟨ob, 0, none⟩)) ∧ W.cell? ⟨ob, 1, none⟩ = some (.int .i64 o.mult) ∧ W.cell? ⟨ob, 2, none⟩ = some (.int .i64 o.tmul) ∧ W.cell? ⟨ob, 4, none⟩ = some (.int .i64 o.base) ∧ W.cell? ⟨ob, 5, none⟩ = some (.int .i64 o.tab) ∧ W.cell? ⟨ob, 6, none⟩ = some (.int .i64 o.mem) := by
 subst hn
 have h := hL.below hB
 exact ⟨(hB.cell (World.block_lt_of_cell? w1 _ h1)).trans h1, h.s0, h.s1, blk_cell h.op 1, blk_cell h.op 2, blk_cell h.op 4, blk_cell h.op 5, blk_cell h.op 6⟩
theorem adj_rd {W : World} {b1 sb ob : Nat} {o : Lm.Op} {x : Int} (h0 : W.cell? ⟨b1, 0, none⟩ = some (.pointer (some ⟨sb, 0, none⟩))) (h1 : W.cell? ⟨sb, 1, none⟩ = some (.pointer (some ⟨ob, 0, none⟩))) (h2 : W.heap[ob]? = some (.cells (optC o) 100 (0, 0))) :
  Calls Tryz.prog 81 #[.int .i64 x, .pointer (some ⟨b1, 0, none⟩)] W fun e w' => e = .returned (.int .i64 (adj o x)) ∧ W = w' := adj_calls h0 h1 h2
theorem tdiv_in {a b : Int} (h : 0 ≤ a) (hb : 2 ≤ b) : 0 ≤ a / b ∧ a / b ≤ a := ⟨Int.ediv_nonneg h (by omega), Int.ediv_le_self _ h⟩
theorem lp1_step {o : Lm.Op} {m : Nat} {bl : Int} {T : List Int} {db : Int} : lp1 o (m + 1) bl T db = lp1 o m (if bl = 0 ∧ adj o db ≤ o.base then ((m + 1 : Nat) : Int) else bl) (T.set (m + 1) (adj o db)) (db / o.mult) := rfl
theorem lp1_range (o : Lm.Op) : ∀ (i : Nat) (bl : Int) (T : List Int) (db : Int) (k : Nat), i ≤ k → 0 ≤ bl → bl ≤ k → 0 ≤ (lp1 o i bl T db).1 ∧ (lp1 o i bl T db).1 ≤ k
 | 0, bl, T, db, k, _, h0, h1 => ⟨h0, h1⟩
 | i + 1, bl, T, db, k, hi, h0, h1 => by
  rw [lp1_step]
  split
  ·exact lp1_range o i _ _ _ k (by omega) (by omega) (by omega)
  ·exact lp1_range o i _ _ _ k (by omega) h0 h1
theorem blT_range (o : Lm.Op) (sz : List Int) (h : 2 ≤ sz.length) : 0 ≤ (blT o sz).1 ∧ (blT o sz).1 ≤ (sz.length - 1 : Nat) := lp1_range o _ _ _ _ _ (Nat.le_refl _) (Int.le_refl _) (by omega)
theorem lp2_range (sz : List Int) : ∀ (k i : Nat) (bl : Int), 1 ≤ i → 1 ≤ bl → bl ≤ (sz.length - 1 : Nat) → 1 ≤ lp2 sz k i bl ∧ lp2 sz k i bl ≤ (sz.length - 1 : Nat)
 | 0, i, bl, _, h0, h1 => ⟨h0, h1⟩
 | k + 1, i, bl, hi, h0, h1 => by
  rw [lp2]
  split
  ·split
   ·exact ⟨h0, h1⟩
   ·exact lp2_range sz k (i + 1) _ (by omega) (by omega) (by omega)
  ·exact ⟨h0, h1⟩
theorem bl2_range (o : Lm.Op) (sz : List Int) (h : 2 ≤ sz.length) : 1 ≤ bl2 o sz ∧ bl2 o sz ≤ (sz.length - 1 : Nat) := by
 have h1 := blT_range o sz h
 unfold bl2
 split
 ·exact lp2_range sz _ _ _ (by simp) (by omega) (by omega)
 ·exact lp2_range sz _ _ _ (by omega) (by omega) (by omega)
theorem bl3_range (o : Lm.Op) (sz : List Int) (h : 2 ≤ sz.length) : 1 ≤ bl3 o sz ∧ bl3 o sz ≤ (sz.length - 1 : Nat) := by
 have h1 := bl2_range o sz h
 unfold bl3
 split
 ·rename_i hu
  have := hu.1
  omega
 ·exact h1
theorem lp3_range (sz : List Int) : ∀ (k i : Nat) (bl : Int) (m : Int), 1 ≤ i → 1 ≤ bl → bl ≤ m → 1 ≤ lp3 sz k i bl ∧ lp3 sz k i bl ≤ m
 | 0, i, bl, m, _, h0, h1 => ⟨h0, h1⟩
 | k + 1, i, bl, m, hi, h0, h1 => by
  rw [lp3]
  split
  ·split
   ·omega
   ·exact lp3_range sz k (i + 1) _ _ (by omega) h0 h1
  ·exact ⟨h0, h1⟩
theorem bl4_range (o : Lm.Op) (sz : List Int) (h : 2 ≤ sz.length) : 1 ≤ bl4 o sz ∧ bl4 o sz ≤ (sz.length - 1 : Nat) := by
 have h1 := bl3_range o sz h
 exact lp3_range sz _ _ _ _ (by omega) h1.1 h1.2
theorem ts_end {w w1 wr wz : World} {n b4 tb fb cT cF b2 : Nat} {bl E : Int} {T F : List Int} {x0 x1 x2 : Value} (hz : wz = ((wr.setCell ⟨b2, 0, none⟩ (.int .i64 E)).setCell ⟨b2, 1, none⟩ (.slice (some ⟨tb, 0, none⟩) n cT)).setCell ⟨b2, 2, none⟩ (.slice (some ⟨fb, 0, none⟩) n cF)) (h : TS w1 n b4 tb fb cT cF bl T F wr) (h2 : wr.heap[b2]? = some (.cells #[x0, x1, x2] 103 (0, 0))) (hb : Below w.heap.size w w1) (hl : w.heap.size ≤ b2) :
  wz.heap[b2]? = some (.cells #[.int .i64 E, .slice (some ⟨tb, 0, none⟩) n cT, .slice (some ⟨fb, 0, none⟩) n cF] 103 (0, 0)) ∧ Kd.R (Kd.int .i64) 2 wz w1.heap.size (fun _ => True) (.slice (some ⟨tb, 0, none⟩) n cT) T ∧ Kd.R (Kd.int .i64) 2 wz w1.heap.size (fun _ => True) (.slice (some ⟨fb, 0, none⟩) n cF) F ∧ Below w.heap.size w wz := by
 subst hz
 have k0 := blk_set h2 0 (.int .i64 E)
 have k1 := blk_set k0 1 (.slice (some ⟨tb, 0, none⟩) n cT)
 have k2 := blk_set k1 2 (.slice (some ⟨fb, 0, none⟩) n cF)
 have hq : ∀ q, q ∈ 2 :: (Kd.int .i64).E → q ≠ 103 := fun q hq => by
  have : q ∈ [2] := hq
  rw [List.mem_singleton.1 this]
  decide
 have hB : Below w.heap.size w wr := hb.trans (h.bel.mono hb.size)
 exact ⟨by simpa using k2, Kd.R_set (Kd.R_set (Kd.R_set h.t h2 hq _ _) k0 hq _ _) k1 hq _ _, Kd.R_set (Kd.R_set (Kd.R_set h.f h2 hq _ _) k0 hq _ _) k1 hq _ _, below_set (below_set (below_set hB hl) hl) hl⟩
def TargetsPost (w : World) (o : Lm.Op) (sz : List Int) (e : Ending) (w' : World) : Prop :=
 ∃ A c B d, e = .returned (.agg #[.int .i64 (bl4 o sz), .slice A sz.length c, .slice B sz.length d]) ∧ Kd.C (Kd.int .i64) w' A sz.length (blT o sz).2 ∧ Kd.C (Kd.int .i64) w' B sz.length (files o sz) ∧ sz.length ≤ c ∧ sz.length ≤ d ∧ Below w.heap.size w w'
theorem targets_end {w w1 wz : World} {o : Lm.Op} {sz T F : List Int} {n tb fb cT cF : Nat} {E : Int} (hn : n = sz.length) (hE : E = bl4 o sz) (hT : T = (blT o sz).2) (hF : F = files o sz) (t : Kd.R (Kd.int .i64) 2 wz w1.heap.size (fun _ => True) (.slice (some ⟨tb, 0, none⟩) n cT) T) (f : Kd.R (Kd.int .i64) 2 wz w1.heap.size (fun _ => True) (.slice (some ⟨fb, 0, none⟩) n cF) F) (hb : Below w.heap.size w wz) :
  TargetsPost w o sz (.returned (.agg #[.int .i64 E, .slice (some ⟨tb, 0, none⟩) n cT, .slice (some ⟨fb, 0, none⟩) n cF])) wz := by
 subst hE
 have h1 := Kd.R_reads' t
 have h2 := Kd.R_reads' f
 subst hn
 refine ⟨_, _, _, _, rfl, ?_, ?_, h1.2.1, h2.2.1, hb⟩
 ·rw [← hT, h1.1]; exact h1.2.2
 ·rw [← hF, h2.1]; exact h2.2.2
set_option maxRecDepth 100000 in
set_option maxHeartbeats 8000000 in
theorem levelTargets_calls {w : World} {sb ob blk c : Nat} {o : Lm.Op} {sz : List Int} (hL : Lv w sb ob blk c o sz) (hn : 2 ≤ sz.length) (hx : sz.length ≤ 100) (hz : ∀ i, 0 ≤ sz.getD i 0 ∧ sz.getD i 0 ≤ 1000000000000000) (hmul : 2 ≤ o.mult) (hbase : 0 ≤ o.base) :
  Calls Tryz.prog 70 #[.pointer (some ⟨sb, 0, none⟩)] w (TargetsPost w o sz) := by
 have HL0 := Lib.hid hL
 have HZ := Lib.hid hz
 clear hL hz
 obtain ⟨n, hnn⟩ : ∃ n, n = sz.length := ⟨_, rfl⟩
 rw [← hnn] at hn hx
 have HN := Lib.hid hnn
 clear hnn
 have hs0 := HL0.out.s0
 rw [← HN.out] at hs0
 have HS0 := Lib.hid hs0
 clear hs0
 go_enter Tryz.func70, Tryz.ntmps70
 go_upto_region 2 with (fail)
 obtain ⟨w1, hw1⟩ : ∃ w1, w1 = (w.alloc (.cells #[.pointer (some ⟨sb, 0, none⟩)] 104)).alloc (.cells #[.int .i64 0, .slice none 0 0, .slice none 0 0] 103) := ⟨_, rfl⟩
 rw [← hw1]
 obtain ⟨b1, hb1⟩ : ∃ b1, b1 = w.heap.size := ⟨_, rfl⟩
 obtain ⟨b2, hb2⟩ : ∃ b2, b2 = b1 + 1 := ⟨_, rfl⟩
 rw [← hb1, ← hb2]
 have HB1 := Lib.hid (show Below w.heap.size w w1 by rw [hw1]; exact below_alloc (below_alloc (Below.refl _ _) _) _)
 have HX2 := Lib.hid (show w1.heap[b2]? = some (.cells #[.int .i64 0, .slice none 0 0, .slice none 0 0] 103 (0, 0)) by
  rw [hw1, hb2, hb1, ← szA w (.cells #[.pointer (some ⟨sb, 0, none⟩)] 104)]; exact blk_new _ _)
 have HX0 := Lib.hid (show w1.heap[b1]? = some (.cells #[.pointer (some ⟨sb, 0, none⟩)] 104 (0, 0)) by rw [hw1, hb1]; exact up1 (blk_new w _))
 have HX1 := Lib.hid (blk_cell HX0.out 0)
 have HLV := Lib.hid (HL0.out.below HB1.out)
 have HB2 := Lib.hid (show w.heap.size ≤ b2 by omega)
 clear hw1 hb1 hb2
 have s0 : w1.cell? ⟨sb, 0, none⟩ = some (.slice (some ⟨blk, 0, none⟩) n c) := by rw [HN.out]; exact HLV.out.s0
 go_cut [4] from 17 to 29 (fun v4 wc => ∃ b4 tb fb cT cF, v4 = .pointer (some ⟨b4, 0, none⟩) ∧ TS w1 n b4 tb fb cT cF 0 (List.replicate n 0) (List.replicate n 0) wc)
 case first =>
  have HK := Lib.hid (fun (x : World) (hx : Below w1.heap.size w1 x) => (show x.cell? ⟨b1, 0, none⟩ = some (.pointer (some ⟨sb, 0, none⟩)) ∧ x.cell? ⟨sb, 0, none⟩ = some (.slice (some ⟨blk, 0, none⟩) n c) from ⟨(hx.cell (World.block_lt_of_cell? w1 _ HX1.out)).trans HX1.out, (hx.cell (World.block_lt_of_cell? w1 _ s0)).trans s0⟩))
  refine wp_region_held_drew (S := (fun x => x.cell? ⟨b1, 0, none⟩ = some (.pointer (some ⟨sb, 0, none⟩)) ∧ x.cell? ⟨sb, 0, none⟩ = some (.slice (some ⟨blk, 0, none⟩) n c))) (by kernel_rfl) ?_ (fun hHeld => ?_)
  ·exact HK.out _ (below_drew (Below.refl _ _))
  obtain ⟨wz, hwz⟩ : ∃ x, x = w1.drew := ⟨_, rfl⟩
  rw [← hwz]
  rw [← hwz] at hHeld
  have HZW := Lib.hid (show Below w1.heap.size w1 wz by rw [hwz]; exact below_drew (Below.refl w1.heap.size w1))
  clear hwz
  refine wpAnyH_take (i := 0) (v := ?_) rfl (by kernel_rfl) (by kernel_rfl) (by kernel_rfl) (fun _ _ _ h => h) (Or.inl ⟨by rfl, ?_⟩) (by assumption) ?_
  rotate_left
  ·intro w hSw
   try dsimp only at hSw
   go_simp
   try with_reducible rfl
  simp only [Act.put, List.getElem_toArray, List.getElem_cons_succ, List.getElem_cons_zero, List.setIfInBounds_toArray, List.set_cons_zero, List.set_cons_succ]
  refine wpAnyH_take (i := 1) (v := ?_) rfl (by kernel_rfl) (by kernel_rfl) (by kernel_rfl) (fun _ _ _ h => h) (Or.inl ⟨by rfl, ?_⟩) (by assumption) ?_
  rotate_left
  ·intro w hSw
   try dsimp only at hSw
   go_simp
   try with_reducible rfl
  simp only [Act.put, List.getElem_toArray, List.getElem_cons_succ, List.getElem_cons_zero, List.setIfInBounds_toArray, List.set_cons_zero, List.set_cons_succ]
  refine wpAnyH_take (i := 2) (v := ?_) rfl (by kernel_rfl) (by kernel_rfl) (by kernel_rfl) (fun _ _ _ h => h) (Or.inl ⟨by rfl, ?_⟩) (by assumption) ?_
  rotate_left
  ·intro w hSw
   try dsimp only at hSw
   go_simp
   try with_reducible rfl
  simp only [Act.put, List.getElem_toArray, List.getElem_cons_succ, List.getElem_cons_zero, List.setIfInBounds_toArray, List.set_cons_zero, List.set_cons_succ]
  refine wpAnyH_take (i := 3) (v := ?_) rfl (by kernel_rfl) (by kernel_rfl) (by kernel_rfl) (fun _ _ _ h => h) (Or.inl ⟨by rfl, ?_⟩) (by assumption) ?_
  rotate_left
  ·intro w hSw
   try dsimp only at hSw
   go_simp
   try with_reducible rfl
  simp only [Act.put, List.getElem_toArray, List.getElem_cons_succ, List.getElem_cons_zero, List.setIfInBounds_toArray, List.set_cons_zero, List.set_cons_succ]
  refine wpAnyH_take (i := 4) (v := ?_) rfl (by kernel_rfl) (by kernel_rfl) (by kernel_rfl) (fun _ _ _ h => h) (Or.inl ⟨by rfl, ?_⟩) (by assumption) ?_
  rotate_left
  ·intro w hSw
   try dsimp only at hSw
   go_simp
   try with_reducible rfl
  simp only [Act.put, List.getElem_toArray, List.getElem_cons_succ, List.getElem_cons_zero, List.setIfInBounds_toArray, List.set_cons_zero, List.set_cons_succ]
  refine wpAnyH_take (i := 6) (v := ?_) rfl (by kernel_rfl) (by kernel_rfl) (by kernel_rfl) (fun _ _ _ h => h) (Or.inl ⟨by rfl, ?_⟩) (by assumption) ?_
  rotate_left
  ·intro w hSw
   try dsimp only at hSw
   go_simp
   try with_reducible rfl
  simp only [Act.put, List.getElem_toArray, List.getElem_cons_succ, List.getElem_cons_zero, List.setIfInBounds_toArray, List.set_cons_zero, List.set_cons_succ]
  refine wpAnyH_take (i := 7) (v := ?_) rfl (by kernel_rfl) (by kernel_rfl) (by kernel_rfl) (fun _ _ _ h => h) (Or.inl ⟨by rfl, ?_⟩) (by assumption) ?_
  rotate_left
  ·intro w hSw
   try dsimp only at hSw
   go_simp
   try with_reducible rfl
  simp only [Act.put, List.getElem_toArray, List.getElem_cons_succ, List.getElem_cons_zero, List.setIfInBounds_toArray, List.set_cons_zero, List.set_cons_succ]
  refine wpAnyH_take (i := 8) (v := ?_) rfl (by kernel_rfl) (by kernel_rfl) (by kernel_rfl) (fun _ _ _ h => h) (Or.inl ⟨by rfl, ?_⟩) (by assumption) ?_
  rotate_left
  ·intro w hSw
   try dsimp only at hSw
   go_simp
   try with_reducible rfl
  simp only [Act.put, List.getElem_toArray, List.getElem_cons_succ, List.getElem_cons_zero, List.setIfInBounds_toArray, List.set_cons_zero, List.set_cons_succ]
  refine wpAnyH_take (i := 9) (v := ?_) rfl (by kernel_rfl) (by kernel_rfl) (by kernel_rfl) (fun _ _ _ h => h) (Or.inl ⟨by rfl, ?_⟩) (by assumption) ?_
  rotate_left
  ·intro w hSw
   try dsimp only at hSw
   go_simp
   try with_reducible rfl
  simp only [Act.put, List.getElem_toArray, List.getElem_cons_succ, List.getElem_cons_zero, List.setIfInBounds_toArray, List.set_cons_zero, List.set_cons_succ]
  refine wpAnyH_take (i := 10) (v := ?_) rfl (by kernel_rfl) (by kernel_rfl) (by kernel_rfl) (fun _ _ _ h => h) (Or.inl ⟨by rfl, ?_⟩) (by assumption) ?_
  rotate_left
  ·intro w hSw
   try dsimp only at hSw
   go_simp
   try with_reducible rfl
  simp only [Act.put, List.getElem_toArray, List.getElem_cons_succ, List.getElem_cons_zero, List.setIfInBounds_toArray, List.set_cons_zero, List.set_cons_succ]
  refine wpAnyH_ready (rs := [5, 11, 13]) (by kernel_rfl) (by simp) ?_
  refine AllReadyH.cons rfl (fun K hK => ?_) ?_
  ·refine Kd.R_make_step (Kd.int .i64) (w0 := w1) w1.heap.size 2 (by first | rfl | simp [Region.wanted]) (N := 22) rfl 71 (.tmp 21) (.tmp 21) rfl (n : Int) rfl rfl Tryz.underlying71 (.int .i64 0) 8 info2 rfl (by decide) (by omega) (0 : Int) (ok := fun _ => True) (okp := fun _ => True) rfl (fun _ hk => hk) trivial (by omega) (by rw [Int.toNat_natCast]; omega) HZW.out (HZW.out).size ?_
   intro v22 x1 hn hb hg_ hat_
   rw [Int.toNat_natCast] at hn
   obtain ⟨g22, cap22, e22, hge22, hlt22, _⟩ := Kd.R_form hn (by rw [List.length_replicate]; omega)
   rw [List.length_replicate] at e22
   have hbz : Below (wz).heap.size (wz) x1 := grown_none HZW.out hb hg_
   have hb1 := Lib.hid hb
   have HT1 := Lib.hid (show Kd.R (Kd.int .i64) 2 x1 w1.heap.size (fun _ => True) (.slice (some ⟨g22, 0, none⟩) n cap22) (List.replicate n 0) by rw [← e22]; exact hn)
   subst e22
   clear hn hb hg_ hat_ hbz hge22 hlt22
   refine hK.out _ _ ?_ (fun hHeld => ?_)
   ·exact HK.out _ hb1.out
   ·clear hK K
    try simp only [Act.put, List.getElem_toArray, List.getElem_cons_succ, List.getElem_cons_zero, List.setIfInBounds_toArray, List.set_cons_zero, List.set_cons_succ]
    refine wpAnyH_ready (rs := [11, 13]) (by kernel_rfl) (by simp) ?_
    refine AllReadyH.cons rfl (fun K hK => ?_) ?_
    ·refine Kd.R_make_step (Kd.int .i64) (w0 := w1) w1.heap.size 2 (by first | rfl | simp [Region.wanted]) (N := 28) rfl 71 (.tmp 27) (.tmp 27) rfl (n : Int) rfl rfl Tryz.underlying71 (.int .i64 0) 8 info2 rfl (by decide) (by omega) (0 : Int) (ok := fun _ => True) (okp := fun _ => True) rfl (fun _ hk => hk) trivial (by omega) (by rw [Int.toNat_natCast]; omega) hb1.out (hb1.out).size ?_
     intro v28 x2 hn hb hg_ hat_
     rw [Int.toNat_natCast] at hn
     obtain ⟨g28, cap28, e28, hge28, hlt28, _⟩ := Kd.R_form hn (by rw [List.length_replicate]; omega)
     rw [List.length_replicate] at e28
     have hbz : Below (x1).heap.size (x1) x2 := grown_none hb1.out hb hg_
     have hb2 := Lib.hid hb
     have HNE := Lib.hid (made_ne HT1.out e28 hat_)
     have HT2 := Lib.hid (Kd.R_grown HT1.out hg_ (fun _ _ => by simp))
     have HF2 := Lib.hid (show Kd.R (Kd.int .i64) 2 x2 w1.heap.size (fun _ => True) (.slice (some ⟨g28, 0, none⟩) n cap28) (List.replicate n 0) by rw [← e28]; exact hn)
     subst e28
     clear hn hb hg_ hat_ hbz hge28 hlt28
     refine hK.out _ _ ?_ (fun hHeld => ?_)
     ·exact HK.out _ hb2.out
     ·clear hK K
      try simp only [Act.put, List.getElem_toArray, List.getElem_cons_succ, List.getElem_cons_zero, List.setIfInBounds_toArray, List.set_cons_zero, List.set_cons_succ]
      refine wpAnyH_take (i := 12) (v := ?_) rfl (by kernel_rfl) (by kernel_rfl) (by kernel_rfl) (fun _ _ _ h => h) (Or.inl ⟨by rfl, ?_⟩) (by assumption) ?_
      rotate_left
      ·intro w hSw
       try dsimp only at hSw
       go_simp
       try with_reducible rfl
      simp only [Act.put, List.getElem_toArray, List.getElem_cons_succ, List.getElem_cons_zero, List.setIfInBounds_toArray, List.set_cons_zero, List.set_cons_succ]
      refine wpAnyH_ready (rs := [13]) (by kernel_rfl) (by simp) ?_
      refine AllReadyH.cons rfl (fun K hK => ?_) ?_
      ·go_simp
       obtain ⟨x3, hy⟩ : ∃ y, y = (x2).alloc (.cells #[.int .i64 0, .slice none 0 0, .slice none 0 0] 103) := ⟨_, rfl⟩
       rw [← hy]
       have hbz : Below (x2).heap.size (x2) x3 := by rw [hy]; exact below_alloc (Below.refl _ _) _
       have hbx : x3.heap[(x2).heap.size]? = some (.cells #[.int .i64 0, .slice none 0 0, .slice none 0 0] 103 (0, 0)) := by rw [hy]; exact blk_new _ _
       have hg_ : (x2).grownBy x3 none := by rw [hy]; exact World.grownBy_alloc _ _ none
       obtain ⟨b4, hb4⟩ : ∃ b, b = (x2).heap.size := ⟨_, rfl⟩
       rw [← hb4] at hbx
       rw [← hb4]
       have HLO := Lib.hid (show w1.heap.size ≤ b4 by rw [hb4]; exact below_size (hb2.out))
       clear hy hb4
       have hb3 := Lib.hid (below_step (hb2.out) hbz)
       have HT3 := Lib.hid (Kd.R_grown HT2.out hg_ (fun _ _ => by simp))
       have HF3 := Lib.hid (Kd.R_grown HF2.out hg_ (fun _ _ => by simp))
       have HX3 := Lib.hid hbx
       clear hbx hbz hg_
       refine hK.out _ _ ?_ (fun hHeld => ?_)
       ·exact HK.out _ hb3.out
       ·clear hK K
        try simp only [Act.put, List.getElem_toArray, List.getElem_cons_succ, List.getElem_cons_zero, List.setIfInBounds_toArray, List.set_cons_zero, List.set_cons_succ]
        refine wpAnyH_ready (rs := [14]) (by kernel_rfl) (by simp) ?_
        refine AllReadyH.cons rfl (fun K hK => ?_) ?_
        ·have m0 := blk_cell HX3.out 0
         have m1 := blk_cell HX3.out 1
         have m2 := blk_cell HX3.out 2
         have f0 := blk_frozen HX3.out 0
         have f1 := blk_frozen HX3.out 1
         have f2 := blk_frozen HX3.out 2
         go_simp
         obtain ⟨x4, hy⟩ : ∃ y, y = (((x3).setCell ⟨b4, 0, none⟩ (.int .i64 0)).setCell ⟨b4, 1, none⟩ (.slice (some ⟨g22, 0, none⟩) n cap22)).setCell ⟨b4, 2, none⟩ (.slice (some ⟨g28, 0, none⟩) n cap28) := ⟨_, rfl⟩
         rw [← hy]
         clear m0 m1 m2 f0 f1 f2
         have HTS := Lib.hid (ts_made hy HX3.out HT3.out HF3.out HNE.out hb3.out HLO.out)
         clear hy
         have hb4 := Lib.hid HTS.out.bel
         refine hK.out _ _ ?_ (fun hHeld => ?_)
         ·exact HK.out _ hb4.out
         ·clear hK K
          try simp only [Act.put, List.getElem_toArray, List.getElem_cons_succ, List.getElem_cons_zero, List.setIfInBounds_toArray, List.set_cons_zero, List.set_cons_succ]
          refine wpAnyH_done (by kernel_rfl) ?_ _
          go_wp2_with fail
          go_meet
          case rel => exact ⟨b4, g22, g28, cap22, cap28, rfl, HTS.out⟩
        exact AllReadyH.nil
      exact AllReadyH.nil
    refine AllReadyH.cons rfl (fun K hK => ?_) ?_
    ·go_simp
     obtain ⟨x5, hy⟩ : ∃ y, y = (x1).alloc (.cells #[.int .i64 0, .slice none 0 0, .slice none 0 0] 103) := ⟨_, rfl⟩
     rw [← hy]
     have hbz : Below (x1).heap.size (x1) x5 := by rw [hy]; exact below_alloc (Below.refl _ _) _
     have hbx : x5.heap[(x1).heap.size]? = some (.cells #[.int .i64 0, .slice none 0 0, .slice none 0 0] 103 (0, 0)) := by rw [hy]; exact blk_new _ _
     have hg_ : (x1).grownBy x5 none := by rw [hy]; exact World.grownBy_alloc _ _ none
     obtain ⟨b4, hb4⟩ : ∃ b, b = (x1).heap.size := ⟨_, rfl⟩
     rw [← hb4] at hbx
     rw [← hb4]
     have HLO := Lib.hid (show w1.heap.size ≤ b4 by rw [hb4]; exact below_size (hb1.out))
     clear hy hb4
     have hb5 := Lib.hid (below_step (hb1.out) hbz)
     have HT5 := Lib.hid (Kd.R_grown HT1.out hg_ (fun _ _ => by simp))
     have HX5 := Lib.hid hbx
     clear hbx hbz hg_
     refine hK.out _ _ ?_ (fun hHeld => ?_)
     ·exact HK.out _ hb5.out
     ·clear hK K
      try simp only [Act.put, List.getElem_toArray, List.getElem_cons_succ, List.getElem_cons_zero, List.setIfInBounds_toArray, List.set_cons_zero, List.set_cons_succ]
      refine wpAnyH_ready (rs := [11]) (by kernel_rfl) (by simp) ?_
      refine AllReadyH.cons rfl (fun K hK => ?_) ?_
      ·refine Kd.R_make_step (Kd.int .i64) (w0 := w1) w1.heap.size 2 (by first | rfl | simp [Region.wanted]) (N := 28) rfl 71 (.tmp 27) (.tmp 27) rfl (n : Int) rfl rfl Tryz.underlying71 (.int .i64 0) 8 info2 rfl (by decide) (by omega) (0 : Int) (ok := fun _ => True) (okp := fun _ => True) rfl (fun _ hk => hk) trivial (by omega) (by rw [Int.toNat_natCast]; omega) hb5.out (hb5.out).size ?_
       intro v28 x6 hn hb hg_ hat_
       rw [Int.toNat_natCast] at hn
       obtain ⟨g28, cap28, e28, hge28, hlt28, _⟩ := Kd.R_form hn (by rw [List.length_replicate]; omega)
       rw [List.length_replicate] at e28
       have hbz : Below (x5).heap.size (x5) x6 := grown_none hb5.out hb hg_
       have hb6 := Lib.hid hb
       have HNE := Lib.hid (made_ne HT5.out e28 hat_)
       have HT6 := Lib.hid (Kd.R_grown HT5.out hg_ (fun _ _ => by simp))
       have HX6 := Lib.hid ((hbz.block _ (blk_lt HX5.out)).trans HX5.out)
       have HF6 := Lib.hid (show Kd.R (Kd.int .i64) 2 x6 w1.heap.size (fun _ => True) (.slice (some ⟨g28, 0, none⟩) n cap28) (List.replicate n 0) by rw [← e28]; exact hn)
       subst e28
       clear hn hb hg_ hat_ hbz hge28 hlt28
       refine hK.out _ _ ?_ (fun hHeld => ?_)
       ·exact HK.out _ hb6.out
       ·clear hK K
        try simp only [Act.put, List.getElem_toArray, List.getElem_cons_succ, List.getElem_cons_zero, List.setIfInBounds_toArray, List.set_cons_zero, List.set_cons_succ]
        refine wpAnyH_take (i := 12) (v := ?_) rfl (by kernel_rfl) (by kernel_rfl) (by kernel_rfl) (fun _ _ _ h => h) (Or.inl ⟨by rfl, ?_⟩) (by assumption) ?_
        rotate_left
        ·intro w hSw
         try dsimp only at hSw
         go_simp
         try with_reducible rfl
        simp only [Act.put, List.getElem_toArray, List.getElem_cons_succ, List.getElem_cons_zero, List.setIfInBounds_toArray, List.set_cons_zero, List.set_cons_succ]
        refine wpAnyH_ready (rs := [14]) (by kernel_rfl) (by simp) ?_
        refine AllReadyH.cons rfl (fun K hK => ?_) ?_
        ·have m0 := blk_cell HX6.out 0
         have m1 := blk_cell HX6.out 1
         have m2 := blk_cell HX6.out 2
         have f0 := blk_frozen HX6.out 0
         have f1 := blk_frozen HX6.out 1
         have f2 := blk_frozen HX6.out 2
         go_simp
         obtain ⟨x7, hy⟩ : ∃ y, y = (((x6).setCell ⟨b4, 0, none⟩ (.int .i64 0)).setCell ⟨b4, 1, none⟩ (.slice (some ⟨g22, 0, none⟩) n cap22)).setCell ⟨b4, 2, none⟩ (.slice (some ⟨g28, 0, none⟩) n cap28) := ⟨_, rfl⟩
         rw [← hy]
         clear m0 m1 m2 f0 f1 f2
         have HTS := Lib.hid (ts_made hy HX6.out HT6.out HF6.out HNE.out hb6.out HLO.out)
         clear hy
         have hb7 := Lib.hid HTS.out.bel
         refine hK.out _ _ ?_ (fun hHeld => ?_)
         ·exact HK.out _ hb7.out
         ·clear hK K
          try simp only [Act.put, List.getElem_toArray, List.getElem_cons_succ, List.getElem_cons_zero, List.setIfInBounds_toArray, List.set_cons_zero, List.set_cons_succ]
          refine wpAnyH_done (by kernel_rfl) ?_ _
          go_wp2_with fail
          go_meet
          case rel => exact ⟨b4, g22, g28, cap22, cap28, rfl, HTS.out⟩
        exact AllReadyH.nil
      exact AllReadyH.nil
    exact AllReadyH.nil
  refine AllReadyH.cons rfl (fun K hK => ?_) ?_
  ·refine Kd.R_make_step (Kd.int .i64) (w0 := w1) w1.heap.size 2 (by first | rfl | simp [Region.wanted]) (N := 28) rfl 71 (.tmp 27) (.tmp 27) rfl (n : Int) rfl rfl Tryz.underlying71 (.int .i64 0) 8 info2 rfl (by decide) (by omega) (0 : Int) (ok := fun _ => True) (okp := fun _ => True) rfl (fun _ hk => hk) trivial (by omega) (by rw [Int.toNat_natCast]; omega) HZW.out (HZW.out).size ?_
   intro v28 x8 hn hb hg_ hat_
   rw [Int.toNat_natCast] at hn
   obtain ⟨g28, cap28, e28, hge28, hlt28, _⟩ := Kd.R_form hn (by rw [List.length_replicate]; omega)
   rw [List.length_replicate] at e28
   have hbz : Below (wz).heap.size (wz) x8 := grown_none HZW.out hb hg_
   have hb8 := Lib.hid hb
   have HF8 := Lib.hid (show Kd.R (Kd.int .i64) 2 x8 w1.heap.size (fun _ => True) (.slice (some ⟨g28, 0, none⟩) n cap28) (List.replicate n 0) by rw [← e28]; exact hn)
   subst e28
   clear hn hb hg_ hat_ hbz hge28 hlt28
   refine hK.out _ _ ?_ (fun hHeld => ?_)
   ·exact HK.out _ hb8.out
   ·clear hK K
    try simp only [Act.put, List.getElem_toArray, List.getElem_cons_succ, List.getElem_cons_zero, List.setIfInBounds_toArray, List.set_cons_zero, List.set_cons_succ]
    refine wpAnyH_ready (rs := [5, 13]) (by kernel_rfl) (by simp) ?_
    refine AllReadyH.cons rfl (fun K hK => ?_) ?_
    ·refine Kd.R_make_step (Kd.int .i64) (w0 := w1) w1.heap.size 2 (by first | rfl | simp [Region.wanted]) (N := 22) rfl 71 (.tmp 21) (.tmp 21) rfl (n : Int) rfl rfl Tryz.underlying71 (.int .i64 0) 8 info2 rfl (by decide) (by omega) (0 : Int) (ok := fun _ => True) (okp := fun _ => True) rfl (fun _ hk => hk) trivial (by omega) (by rw [Int.toNat_natCast]; omega) hb8.out (hb8.out).size ?_
     intro v22 x9 hn hb hg_ hat_
     rw [Int.toNat_natCast] at hn
     obtain ⟨g22, cap22, e22, hge22, hlt22, _⟩ := Kd.R_form hn (by rw [List.length_replicate]; omega)
     rw [List.length_replicate] at e22
     have hbz : Below (x8).heap.size (x8) x9 := grown_none hb8.out hb hg_
     have hb9 := Lib.hid hb
     have HNE := Lib.hid (made_ne HF8.out e22 hat_)
     have HF9 := Lib.hid (Kd.R_grown HF8.out hg_ (fun _ _ => by simp))
     have HT9 := Lib.hid (show Kd.R (Kd.int .i64) 2 x9 w1.heap.size (fun _ => True) (.slice (some ⟨g22, 0, none⟩) n cap22) (List.replicate n 0) by rw [← e22]; exact hn)
     subst e22
     clear hn hb hg_ hat_ hbz hge22 hlt22
     refine hK.out _ _ ?_ (fun hHeld => ?_)
     ·exact HK.out _ hb9.out
     ·clear hK K
      try simp only [Act.put, List.getElem_toArray, List.getElem_cons_succ, List.getElem_cons_zero, List.setIfInBounds_toArray, List.set_cons_zero, List.set_cons_succ]
      refine wpAnyH_take (i := 12) (v := ?_) rfl (by kernel_rfl) (by kernel_rfl) (by kernel_rfl) (fun _ _ _ h => h) (Or.inl ⟨by rfl, ?_⟩) (by assumption) ?_
      rotate_left
      ·intro w hSw
       try dsimp only at hSw
       go_simp
       try with_reducible rfl
      simp only [Act.put, List.getElem_toArray, List.getElem_cons_succ, List.getElem_cons_zero, List.setIfInBounds_toArray, List.set_cons_zero, List.set_cons_succ]
      refine wpAnyH_ready (rs := [13]) (by kernel_rfl) (by simp) ?_
      refine AllReadyH.cons rfl (fun K hK => ?_) ?_
      ·go_simp
       obtain ⟨x10, hy⟩ : ∃ y, y = (x9).alloc (.cells #[.int .i64 0, .slice none 0 0, .slice none 0 0] 103) := ⟨_, rfl⟩
       rw [← hy]
       have hbz : Below (x9).heap.size (x9) x10 := by rw [hy]; exact below_alloc (Below.refl _ _) _
       have hbx : x10.heap[(x9).heap.size]? = some (.cells #[.int .i64 0, .slice none 0 0, .slice none 0 0] 103 (0, 0)) := by rw [hy]; exact blk_new _ _
       have hg_ : (x9).grownBy x10 none := by rw [hy]; exact World.grownBy_alloc _ _ none
       obtain ⟨b4, hb4⟩ : ∃ b, b = (x9).heap.size := ⟨_, rfl⟩
       rw [← hb4] at hbx
       rw [← hb4]
       have HLO := Lib.hid (show w1.heap.size ≤ b4 by rw [hb4]; exact below_size (hb9.out))
       clear hy hb4
       have hb10 := Lib.hid (below_step (hb9.out) hbz)
       have HT10 := Lib.hid (Kd.R_grown HT9.out hg_ (fun _ _ => by simp))
       have HF10 := Lib.hid (Kd.R_grown HF9.out hg_ (fun _ _ => by simp))
       have HX10 := Lib.hid hbx
       clear hbx hbz hg_
       refine hK.out _ _ ?_ (fun hHeld => ?_)
       ·exact HK.out _ hb10.out
       ·clear hK K
        try simp only [Act.put, List.getElem_toArray, List.getElem_cons_succ, List.getElem_cons_zero, List.setIfInBounds_toArray, List.set_cons_zero, List.set_cons_succ]
        refine wpAnyH_ready (rs := [14]) (by kernel_rfl) (by simp) ?_
        refine AllReadyH.cons rfl (fun K hK => ?_) ?_
        ·have m0 := blk_cell HX10.out 0
         have m1 := blk_cell HX10.out 1
         have m2 := blk_cell HX10.out 2
         have f0 := blk_frozen HX10.out 0
         have f1 := blk_frozen HX10.out 1
         have f2 := blk_frozen HX10.out 2
         go_simp
         obtain ⟨x11, hy⟩ : ∃ y, y = (((x10).setCell ⟨b4, 0, none⟩ (.int .i64 0)).setCell ⟨b4, 1, none⟩ (.slice (some ⟨g22, 0, none⟩) n cap22)).setCell ⟨b4, 2, none⟩ (.slice (some ⟨g28, 0, none⟩) n cap28) := ⟨_, rfl⟩
         rw [← hy]
         clear m0 m1 m2 f0 f1 f2
         have HTS := Lib.hid (ts_made hy HX10.out HT10.out HF10.out (fun e => HNE.out e.symm) hb10.out HLO.out)
         clear hy
         have hb11 := Lib.hid HTS.out.bel
         refine hK.out _ _ ?_ (fun hHeld => ?_)
         ·exact HK.out _ hb11.out
         ·clear hK K
          try simp only [Act.put, List.getElem_toArray, List.getElem_cons_succ, List.getElem_cons_zero, List.setIfInBounds_toArray, List.set_cons_zero, List.set_cons_succ]
          refine wpAnyH_done (by kernel_rfl) ?_ _
          go_wp2_with fail
          go_meet
          case rel => exact ⟨b4, g22, g28, cap22, cap28, rfl, HTS.out⟩
        exact AllReadyH.nil
      exact AllReadyH.nil
    refine AllReadyH.cons rfl (fun K hK => ?_) ?_
    ·go_simp
     obtain ⟨x12, hy⟩ : ∃ y, y = (x8).alloc (.cells #[.int .i64 0, .slice none 0 0, .slice none 0 0] 103) := ⟨_, rfl⟩
     rw [← hy]
     have hbz : Below (x8).heap.size (x8) x12 := by rw [hy]; exact below_alloc (Below.refl _ _) _
     have hbx : x12.heap[(x8).heap.size]? = some (.cells #[.int .i64 0, .slice none 0 0, .slice none 0 0] 103 (0, 0)) := by rw [hy]; exact blk_new _ _
     have hg_ : (x8).grownBy x12 none := by rw [hy]; exact World.grownBy_alloc _ _ none
     obtain ⟨b4, hb4⟩ : ∃ b, b = (x8).heap.size := ⟨_, rfl⟩
     rw [← hb4] at hbx
     rw [← hb4]
     have HLO := Lib.hid (show w1.heap.size ≤ b4 by rw [hb4]; exact below_size (hb8.out))
     clear hy hb4
     have hb12 := Lib.hid (below_step (hb8.out) hbz)
     have HF12 := Lib.hid (Kd.R_grown HF8.out hg_ (fun _ _ => by simp))
     have HX12 := Lib.hid hbx
     clear hbx hbz hg_
     refine hK.out _ _ ?_ (fun hHeld => ?_)
     ·exact HK.out _ hb12.out
     ·clear hK K
      try simp only [Act.put, List.getElem_toArray, List.getElem_cons_succ, List.getElem_cons_zero, List.setIfInBounds_toArray, List.set_cons_zero, List.set_cons_succ]
      refine wpAnyH_ready (rs := [5]) (by kernel_rfl) (by simp) ?_
      refine AllReadyH.cons rfl (fun K hK => ?_) ?_
      ·refine Kd.R_make_step (Kd.int .i64) (w0 := w1) w1.heap.size 2 (by first | rfl | simp [Region.wanted]) (N := 22) rfl 71 (.tmp 21) (.tmp 21) rfl (n : Int) rfl rfl Tryz.underlying71 (.int .i64 0) 8 info2 rfl (by decide) (by omega) (0 : Int) (ok := fun _ => True) (okp := fun _ => True) rfl (fun _ hk => hk) trivial (by omega) (by rw [Int.toNat_natCast]; omega) hb12.out (hb12.out).size ?_
       intro v22 x13 hn hb hg_ hat_
       rw [Int.toNat_natCast] at hn
       obtain ⟨g22, cap22, e22, hge22, hlt22, _⟩ := Kd.R_form hn (by rw [List.length_replicate]; omega)
       rw [List.length_replicate] at e22
       have hbz : Below (x12).heap.size (x12) x13 := grown_none hb12.out hb hg_
       have hb13 := Lib.hid hb
       have HNE := Lib.hid (made_ne HF12.out e22 hat_)
       have HF13 := Lib.hid (Kd.R_grown HF12.out hg_ (fun _ _ => by simp))
       have HX13 := Lib.hid ((hbz.block _ (blk_lt HX12.out)).trans HX12.out)
       have HT13 := Lib.hid (show Kd.R (Kd.int .i64) 2 x13 w1.heap.size (fun _ => True) (.slice (some ⟨g22, 0, none⟩) n cap22) (List.replicate n 0) by rw [← e22]; exact hn)
       subst e22
       clear hn hb hg_ hat_ hbz hge22 hlt22
       refine hK.out _ _ ?_ (fun hHeld => ?_)
       ·exact HK.out _ hb13.out
       ·clear hK K
        try simp only [Act.put, List.getElem_toArray, List.getElem_cons_succ, List.getElem_cons_zero, List.setIfInBounds_toArray, List.set_cons_zero, List.set_cons_succ]
        refine wpAnyH_take (i := 12) (v := ?_) rfl (by kernel_rfl) (by kernel_rfl) (by kernel_rfl) (fun _ _ _ h => h) (Or.inl ⟨by rfl, ?_⟩) (by assumption) ?_
        rotate_left
        ·intro w hSw
         try dsimp only at hSw
         go_simp
         try with_reducible rfl
        simp only [Act.put, List.getElem_toArray, List.getElem_cons_succ, List.getElem_cons_zero, List.setIfInBounds_toArray, List.set_cons_zero, List.set_cons_succ]
        refine wpAnyH_ready (rs := [14]) (by kernel_rfl) (by simp) ?_
        refine AllReadyH.cons rfl (fun K hK => ?_) ?_
        ·have m0 := blk_cell HX13.out 0
         have m1 := blk_cell HX13.out 1
         have m2 := blk_cell HX13.out 2
         have f0 := blk_frozen HX13.out 0
         have f1 := blk_frozen HX13.out 1
         have f2 := blk_frozen HX13.out 2
         go_simp
         obtain ⟨x14, hy⟩ : ∃ y, y = (((x13).setCell ⟨b4, 0, none⟩ (.int .i64 0)).setCell ⟨b4, 1, none⟩ (.slice (some ⟨g22, 0, none⟩) n cap22)).setCell ⟨b4, 2, none⟩ (.slice (some ⟨g28, 0, none⟩) n cap28) := ⟨_, rfl⟩
         rw [← hy]
         clear m0 m1 m2 f0 f1 f2
         have HTS := Lib.hid (ts_made hy HX13.out HT13.out HF13.out (fun e => HNE.out e.symm) hb13.out HLO.out)
         clear hy
         have hb14 := Lib.hid HTS.out.bel
         refine hK.out _ _ ?_ (fun hHeld => ?_)
         ·exact HK.out _ hb14.out
         ·clear hK K
          try simp only [Act.put, List.getElem_toArray, List.getElem_cons_succ, List.getElem_cons_zero, List.setIfInBounds_toArray, List.set_cons_zero, List.set_cons_succ]
          refine wpAnyH_done (by kernel_rfl) ?_ _
          go_wp2_with fail
          go_meet
          case rel => exact ⟨b4, g22, g28, cap22, cap28, rfl, HTS.out⟩
        exact AllReadyH.nil
      exact AllReadyH.nil
    exact AllReadyH.nil
  refine AllReadyH.cons rfl (fun K hK => ?_) ?_
  ·go_simp
   obtain ⟨x15, hy⟩ : ∃ y, y = (wz).alloc (.cells #[.int .i64 0, .slice none 0 0, .slice none 0 0] 103) := ⟨_, rfl⟩
   rw [← hy]
   have hbz : Below (wz).heap.size (wz) x15 := by rw [hy]; exact below_alloc (Below.refl _ _) _
   have hbx : x15.heap[(wz).heap.size]? = some (.cells #[.int .i64 0, .slice none 0 0, .slice none 0 0] 103 (0, 0)) := by rw [hy]; exact blk_new _ _
   have hg_ : (wz).grownBy x15 none := by rw [hy]; exact World.grownBy_alloc _ _ none
   obtain ⟨b4, hb4⟩ : ∃ b, b = (wz).heap.size := ⟨_, rfl⟩
   rw [← hb4] at hbx
   rw [← hb4]
   have HLO := Lib.hid (show w1.heap.size ≤ b4 by rw [hb4]; exact below_size (HZW.out))
   clear hy hb4
   have hb15 := Lib.hid (below_step (HZW.out) hbz)
   have HX15 := Lib.hid hbx
   clear hbx hbz hg_
   refine hK.out _ _ ?_ (fun hHeld => ?_)
   ·exact HK.out _ hb15.out
   ·clear hK K
    try simp only [Act.put, List.getElem_toArray, List.getElem_cons_succ, List.getElem_cons_zero, List.setIfInBounds_toArray, List.set_cons_zero, List.set_cons_succ]
    refine wpAnyH_ready (rs := [5, 11]) (by kernel_rfl) (by simp) ?_
    refine AllReadyH.cons rfl (fun K hK => ?_) ?_
    ·refine Kd.R_make_step (Kd.int .i64) (w0 := w1) w1.heap.size 2 (by first | rfl | simp [Region.wanted]) (N := 22) rfl 71 (.tmp 21) (.tmp 21) rfl (n : Int) rfl rfl Tryz.underlying71 (.int .i64 0) 8 info2 rfl (by decide) (by omega) (0 : Int) (ok := fun _ => True) (okp := fun _ => True) rfl (fun _ hk => hk) trivial (by omega) (by rw [Int.toNat_natCast]; omega) hb15.out (hb15.out).size ?_
     intro v22 x16 hn hb hg_ hat_
     rw [Int.toNat_natCast] at hn
     obtain ⟨g22, cap22, e22, hge22, hlt22, _⟩ := Kd.R_form hn (by rw [List.length_replicate]; omega)
     rw [List.length_replicate] at e22
     have hbz : Below (x15).heap.size (x15) x16 := grown_none hb15.out hb hg_
     have hb16 := Lib.hid hb
     have HX16 := Lib.hid ((hbz.block _ (blk_lt HX15.out)).trans HX15.out)
     have HT16 := Lib.hid (show Kd.R (Kd.int .i64) 2 x16 w1.heap.size (fun _ => True) (.slice (some ⟨g22, 0, none⟩) n cap22) (List.replicate n 0) by rw [← e22]; exact hn)
     subst e22
     clear hn hb hg_ hat_ hbz hge22 hlt22
     refine hK.out _ _ ?_ (fun hHeld => ?_)
     ·exact HK.out _ hb16.out
     ·clear hK K
      try simp only [Act.put, List.getElem_toArray, List.getElem_cons_succ, List.getElem_cons_zero, List.setIfInBounds_toArray, List.set_cons_zero, List.set_cons_succ]
      refine wpAnyH_ready (rs := [11]) (by kernel_rfl) (by simp) ?_
      refine AllReadyH.cons rfl (fun K hK => ?_) ?_
      ·refine Kd.R_make_step (Kd.int .i64) (w0 := w1) w1.heap.size 2 (by first | rfl | simp [Region.wanted]) (N := 28) rfl 71 (.tmp 27) (.tmp 27) rfl (n : Int) rfl rfl Tryz.underlying71 (.int .i64 0) 8 info2 rfl (by decide) (by omega) (0 : Int) (ok := fun _ => True) (okp := fun _ => True) rfl (fun _ hk => hk) trivial (by omega) (by rw [Int.toNat_natCast]; omega) hb16.out (hb16.out).size ?_
       intro v28 x17 hn hb hg_ hat_
       rw [Int.toNat_natCast] at hn
       obtain ⟨g28, cap28, e28, hge28, hlt28, _⟩ := Kd.R_form hn (by rw [List.length_replicate]; omega)
       rw [List.length_replicate] at e28
       have hbz : Below (x16).heap.size (x16) x17 := grown_none hb16.out hb hg_
       have hb17 := Lib.hid hb
       have HNE := Lib.hid (made_ne HT16.out e28 hat_)
       have HT17 := Lib.hid (Kd.R_grown HT16.out hg_ (fun _ _ => by simp))
       have HX17 := Lib.hid ((hbz.block _ (blk_lt HX16.out)).trans HX16.out)
       have HF17 := Lib.hid (show Kd.R (Kd.int .i64) 2 x17 w1.heap.size (fun _ => True) (.slice (some ⟨g28, 0, none⟩) n cap28) (List.replicate n 0) by rw [← e28]; exact hn)
       subst e28
       clear hn hb hg_ hat_ hbz hge28 hlt28
       refine hK.out _ _ ?_ (fun hHeld => ?_)
       ·exact HK.out _ hb17.out
       ·clear hK K
        try simp only [Act.put, List.getElem_toArray, List.getElem_cons_succ, List.getElem_cons_zero, List.setIfInBounds_toArray, List.set_cons_zero, List.set_cons_succ]
        refine wpAnyH_take (i := 12) (v := ?_) rfl (by kernel_rfl) (by kernel_rfl) (by kernel_rfl) (fun _ _ _ h => h) (Or.inl ⟨by rfl, ?_⟩) (by assumption) ?_
        rotate_left
        ·intro w hSw
         try dsimp only at hSw
         go_simp
         try with_reducible rfl
        simp only [Act.put, List.getElem_toArray, List.getElem_cons_succ, List.getElem_cons_zero, List.setIfInBounds_toArray, List.set_cons_zero, List.set_cons_succ]
        refine wpAnyH_ready (rs := [14]) (by kernel_rfl) (by simp) ?_
        refine AllReadyH.cons rfl (fun K hK => ?_) ?_
        ·have m0 := blk_cell HX17.out 0
         have m1 := blk_cell HX17.out 1
         have m2 := blk_cell HX17.out 2
         have f0 := blk_frozen HX17.out 0
         have f1 := blk_frozen HX17.out 1
         have f2 := blk_frozen HX17.out 2
         go_simp
         obtain ⟨x18, hy⟩ : ∃ y, y = (((x17).setCell ⟨b4, 0, none⟩ (.int .i64 0)).setCell ⟨b4, 1, none⟩ (.slice (some ⟨g22, 0, none⟩) n cap22)).setCell ⟨b4, 2, none⟩ (.slice (some ⟨g28, 0, none⟩) n cap28) := ⟨_, rfl⟩
         rw [← hy]
         clear m0 m1 m2 f0 f1 f2
         have HTS := Lib.hid (ts_made hy HX17.out HT17.out HF17.out HNE.out hb17.out HLO.out)
         clear hy
         have hb18 := Lib.hid HTS.out.bel
         refine hK.out _ _ ?_ (fun hHeld => ?_)
         ·exact HK.out _ hb18.out
         ·clear hK K
          try simp only [Act.put, List.getElem_toArray, List.getElem_cons_succ, List.getElem_cons_zero, List.setIfInBounds_toArray, List.set_cons_zero, List.set_cons_succ]
          refine wpAnyH_done (by kernel_rfl) ?_ _
          go_wp2_with fail
          go_meet
          case rel => exact ⟨b4, g22, g28, cap22, cap28, rfl, HTS.out⟩
        exact AllReadyH.nil
      exact AllReadyH.nil
    refine AllReadyH.cons rfl (fun K hK => ?_) ?_
    ·refine Kd.R_make_step (Kd.int .i64) (w0 := w1) w1.heap.size 2 (by first | rfl | simp [Region.wanted]) (N := 28) rfl 71 (.tmp 27) (.tmp 27) rfl (n : Int) rfl rfl Tryz.underlying71 (.int .i64 0) 8 info2 rfl (by decide) (by omega) (0 : Int) (ok := fun _ => True) (okp := fun _ => True) rfl (fun _ hk => hk) trivial (by omega) (by rw [Int.toNat_natCast]; omega) hb15.out (hb15.out).size ?_
     intro v28 x19 hn hb hg_ hat_
     rw [Int.toNat_natCast] at hn
     obtain ⟨g28, cap28, e28, hge28, hlt28, _⟩ := Kd.R_form hn (by rw [List.length_replicate]; omega)
     rw [List.length_replicate] at e28
     have hbz : Below (x15).heap.size (x15) x19 := grown_none hb15.out hb hg_
     have hb19 := Lib.hid hb
     have HX19 := Lib.hid ((hbz.block _ (blk_lt HX15.out)).trans HX15.out)
     have HF19 := Lib.hid (show Kd.R (Kd.int .i64) 2 x19 w1.heap.size (fun _ => True) (.slice (some ⟨g28, 0, none⟩) n cap28) (List.replicate n 0) by rw [← e28]; exact hn)
     subst e28
     clear hn hb hg_ hat_ hbz hge28 hlt28
     refine hK.out _ _ ?_ (fun hHeld => ?_)
     ·exact HK.out _ hb19.out
     ·clear hK K
      try simp only [Act.put, List.getElem_toArray, List.getElem_cons_succ, List.getElem_cons_zero, List.setIfInBounds_toArray, List.set_cons_zero, List.set_cons_succ]
      refine wpAnyH_ready (rs := [5]) (by kernel_rfl) (by simp) ?_
      refine AllReadyH.cons rfl (fun K hK => ?_) ?_
      ·refine Kd.R_make_step (Kd.int .i64) (w0 := w1) w1.heap.size 2 (by first | rfl | simp [Region.wanted]) (N := 22) rfl 71 (.tmp 21) (.tmp 21) rfl (n : Int) rfl rfl Tryz.underlying71 (.int .i64 0) 8 info2 rfl (by decide) (by omega) (0 : Int) (ok := fun _ => True) (okp := fun _ => True) rfl (fun _ hk => hk) trivial (by omega) (by rw [Int.toNat_natCast]; omega) hb19.out (hb19.out).size ?_
       intro v22 x20 hn hb hg_ hat_
       rw [Int.toNat_natCast] at hn
       obtain ⟨g22, cap22, e22, hge22, hlt22, _⟩ := Kd.R_form hn (by rw [List.length_replicate]; omega)
       rw [List.length_replicate] at e22
       have hbz : Below (x19).heap.size (x19) x20 := grown_none hb19.out hb hg_
       have hb20 := Lib.hid hb
       have HNE := Lib.hid (made_ne HF19.out e22 hat_)
       have HF20 := Lib.hid (Kd.R_grown HF19.out hg_ (fun _ _ => by simp))
       have HX20 := Lib.hid ((hbz.block _ (blk_lt HX19.out)).trans HX19.out)
       have HT20 := Lib.hid (show Kd.R (Kd.int .i64) 2 x20 w1.heap.size (fun _ => True) (.slice (some ⟨g22, 0, none⟩) n cap22) (List.replicate n 0) by rw [← e22]; exact hn)
       subst e22
       clear hn hb hg_ hat_ hbz hge22 hlt22
       refine hK.out _ _ ?_ (fun hHeld => ?_)
       ·exact HK.out _ hb20.out
       ·clear hK K
        try simp only [Act.put, List.getElem_toArray, List.getElem_cons_succ, List.getElem_cons_zero, List.setIfInBounds_toArray, List.set_cons_zero, List.set_cons_succ]
        refine wpAnyH_take (i := 12) (v := ?_) rfl (by kernel_rfl) (by kernel_rfl) (by kernel_rfl) (fun _ _ _ h => h) (Or.inl ⟨by rfl, ?_⟩) (by assumption) ?_
        rotate_left
        ·intro w hSw
         try dsimp only at hSw
         go_simp
         try with_reducible rfl
        simp only [Act.put, List.getElem_toArray, List.getElem_cons_succ, List.getElem_cons_zero, List.setIfInBounds_toArray, List.set_cons_zero, List.set_cons_succ]
        refine wpAnyH_ready (rs := [14]) (by kernel_rfl) (by simp) ?_
        refine AllReadyH.cons rfl (fun K hK => ?_) ?_
        ·have m0 := blk_cell HX20.out 0
         have m1 := blk_cell HX20.out 1
         have m2 := blk_cell HX20.out 2
         have f0 := blk_frozen HX20.out 0
         have f1 := blk_frozen HX20.out 1
         have f2 := blk_frozen HX20.out 2
         go_simp
         obtain ⟨x21, hy⟩ : ∃ y, y = (((x20).setCell ⟨b4, 0, none⟩ (.int .i64 0)).setCell ⟨b4, 1, none⟩ (.slice (some ⟨g22, 0, none⟩) n cap22)).setCell ⟨b4, 2, none⟩ (.slice (some ⟨g28, 0, none⟩) n cap28) := ⟨_, rfl⟩
         rw [← hy]
         clear m0 m1 m2 f0 f1 f2
         have HTS := Lib.hid (ts_made hy HX20.out HT20.out HF20.out (fun e => HNE.out e.symm) hb20.out HLO.out)
         clear hy
         have hb21 := Lib.hid HTS.out.bel
         refine hK.out _ _ ?_ (fun hHeld => ?_)
         ·exact HK.out _ hb21.out
         ·clear hK K
          try simp only [Act.put, List.getElem_toArray, List.getElem_cons_succ, List.getElem_cons_zero, List.setIfInBounds_toArray, List.set_cons_zero, List.set_cons_succ]
          refine wpAnyH_done (by kernel_rfl) ?_ _
          go_wp2_with fail
          go_meet
          case rel => exact ⟨b4, g22, g28, cap22, cap28, rfl, HTS.out⟩
        exact AllReadyH.nil
      exact AllReadyH.nil
    exact AllReadyH.nil
  exact AllReadyH.nil
 case rest =>
  obtain ⟨b4, tb, fb, cT, cF, rfl, hts⟩ := hcut
  have HT0 := Lib.hid hts
  clear hts s0
  obtain ⟨k, rfl⟩ : ∃ k, n = k + 1 := ⟨n - 1, by omega⟩
  obtain ⟨hpk, e1, e2⟩ := (HLV.out.below HT0.out.bel).at_ k (by have := HN.out; omega)
  obtain ⟨x1, s0, s1, q1, q2, q4, q5, q6⟩ := rd HN.out HLV.out HX1.out HT0.out.bel
  have b0 := blk_cell HT0.out.blk 0
  have bT := blk_cell HT0.out.blk 1
  have bF := blk_cell HT0.out.blk 2
  have z0 := blk_frozen HT0.out.blk 0
  have K82 := Lib.hid (last_calls (w := wc) (k := k) (by omega) s0 e1)
  have K83 := Lib.hid (fun q => tot_calls (w := wc.drewN q) (hp := hpk) e2)
  have hzk := HZ.out k
  have hsl : sz.length - 1 = k := by have := HN.out; omega
  have HBT := Lib.hid (show lp1 o k 0 (List.replicate (k + 1) 0) (sz.getD k 0) = blT o sz by unfold blT; rw [hsl, ← HN.out])
  clear hsl e1 e2
  generalize sz.getD k 0 = db0 at *
  go_upto_region 4 with (first | (go_at_call 82; refine K82.out.mono ?_; rintro e w' ⟨rfl, nd, rfl⟩; simp only [ptr]) | (go_at_call 83; refine (K83.out _).mono ?_; rintro e w' ⟨rfl, rfl⟩))
  obtain ⟨w2, hw2⟩ : ∃ w2, w2 = wc.drewN nd := ⟨_, rfl⟩
  rw [← hw2]
  have HT1 := Lib.hid (show TS w1 (k + 1) b4 tb fb cT cF 0 (List.replicate (k + 1) 0) (List.replicate (k + 1) 0) w2 by rw [hw2]; exact HT0.out.drewN nd)
  clear hw2 K82 K83
  clear x1 s0 s1 q1 q2 q4 q5 q6 b0 bT bF z0
  obtain ⟨x1, s0, s1, q1, q2, q4, q5, q6⟩ := rd HN.out HLV.out HX1.out HT1.out.bel
  have b0 := blk_cell HT1.out.blk 0
  have bT := blk_cell HT1.out.blk 1
  have bF := blk_cell HT1.out.blk 2
  have z0 := blk_frozen HT1.out.blk 0
  have HZ0 := Lib.hid hzk
  clear hzk
  go_upto_block 0 with (fail)
  clear x1 s0 s1 q1 q2 q4 q5 q6 b0 bT bF z0
  go_cut [5, 6] from 39 to 75 (fun v5 v6 w5 => TS w1 (k + 1) b4 tb fb cT cF (blT o sz).1 (blT o sz).2 (List.replicate (k + 1) 0) w5)
  case first =>
   go_wp2_with fail
   go_loopg [5, 6] k (fun kq v5 v6 wr => ∃ (i : Nat) (db bl : Int) (T : List Int), v5 = .int .i64 db ∧ v6 = .int .i64 (i : Int) ∧ Aside0 (kq = i) ∧ Aside0 (i ≤ k ∧ 0 ≤ db ∧ db ≤ 1000000000000000 ∧ lp1 o i bl T db = blT o sz ∧ TS w1 (k + 1) b4 tb fb cT cF bl T (List.replicate (k + 1) 0) wr))
   case atStart => exact ⟨k, db0, 0, _, rfl, rfl, ⟨rfl⟩, ⟨Nat.le_refl _, HZ0.out.1, HZ0.out.2, HBT.out, HT1.out⟩⟩
   case round =>
    obtain ⟨i, db, bl, T, rfl, rfl, HI, HQ⟩ := hrel
    obtain ⟨hik, hdb0, hdb1, hres, hts⟩ := HQ.out
    have HT := Lib.hid hts
    have HRES0 := Lib.hid hres
    have HBD := Lib.hid hdb1
    have hgk := HI.out
    clear HQ hres hts HI HT1 HBT HZ0
    cases i with
    | zero =>
     have HE := Lib.hid (show bl = (blT o sz).1 ∧ T = (blT o sz).2 by have h := HRES0.out; simp only [lp1] at h; rw [← h]; exact ⟨rfl, rfl⟩)
     go_wp2_with fail
     go_meet
     case rel => rw [← HE.out.1, ← HE.out.2]; exact HT.out
    | succ m =>
     have HTD := Lib.hid (tdiv_in hdb0 hmul)
     obtain ⟨lt, hlt⟩ : ∃ lt, adj o db = lt := ⟨_, rfl⟩
     have HRES := HRES0
     have HLT := Lib.hid hlt
     have K81 := Lib.hid (adj_rd (W := wr) (x := db) (rd HN.out HLV.out HX1.out HT.out.bel).1 (rd HN.out HLV.out HX1.out HT.out.bel).2.2.1 (HLV.out.below HT.out.bel).op)
     rw [hlt] at K81
     clear hlt HRES0
     obtain ⟨cT0, cT1⟩ := HT.out.cellT (i := m + 1) (by omega)
     obtain ⟨x1, s0, s1, q1, q2, q4, q5, q6⟩ := rd HN.out HLV.out HX1.out HT.out.bel
     have b0 := blk_cell HT.out.blk 0
     have bT := blk_cell HT.out.blk 1
     have bF := blk_cell HT.out.blk 2
     have z0 := blk_frozen HT.out.blk 0
     have d1 : ((m : Int) + 1 < (k : Int) + 1) := by omega
     go_upto_region 9 with (first | (go_at_call 81; refine K81.out.mono ?_; rintro e w' ⟨rfl, rfl⟩))
     obtain ⟨w3, hw3⟩ : ∃ w3, w3 = wr.setCell ⟨tb, m + 1, none⟩ (.int .i64 lt) := ⟨_, rfl⟩
     rw [← hw3]
     have HT3 := Lib.hid (show TS w1 (k + 1) b4 tb fb cT cF bl (T.set (m + 1) lt) (List.replicate (k + 1) 0) w3 by rw [hw3]; exact HT.out.setT (m + 1) lt)
     clear hw3 cT0 cT1 d1 K81
     clear x1 s0 s1 q1 q2 q4 q5 q6 b0 bT bF z0
     by_cases hb : bl = 0
     ·subst hb
      by_cases hc : lt ≤ o.base
      ·have d2 : decide (lt ≤ o.base) = true := decide_eq_true hc
       obtain ⟨x1, s0, s1, q1, q2, q4, q5, q6⟩ := rd HN.out HLV.out HX1.out HT3.out.bel
       have b0 := blk_cell HT3.out.blk 0
       have bT := blk_cell HT3.out.blk 1
       have bF := blk_cell HT3.out.blk 2
       have z0 := blk_frozen HT3.out.blk 0
       have HTb := Lib.hid (show lp1 o m ((m : Int) + 1) (T.set (m + 1) lt) (db / o.mult) = blT o sz by rw [← HRES.out, lp1_step, HLT.out]; rw [if_pos ⟨rfl, hc⟩]; rfl)
       go_upto_region 11 with (fail)
       obtain ⟨w4, hw4⟩ : ∃ w4, w4 = w3.setCell ⟨b4, 0, none⟩ (.int .i64 ((m : Int) + 1)) := ⟨_, rfl⟩
       rw [← hw4]
       have HT4 := Lib.hid (show TS w1 (k + 1) b4 tb fb cT cF ((m : Int) + 1) (T.set (m + 1) lt) (List.replicate (k + 1) 0) w4 by rw [hw4]; exact HT3.out.setB _)
       clear hw4
       clear x1 s0 s1 q1 q2 q4 q5 q6 b0 bT bF z0
       obtain ⟨x1, s0, s1, q1, q2, q4, q5, q6⟩ := rd HN.out HLV.out HX1.out HT4.out.bel
       have b0 := blk_cell HT4.out.blk 0
       have bT := blk_cell HT4.out.blk 1
       have bF := blk_cell HT4.out.blk 2
       have z0 := blk_frozen HT4.out.blk 0
       go_wp2_with fail
       go_roundg m
       case measure => omega
       case rel => exact ⟨m, _, _, _, rfl, rfl, ⟨rfl⟩, ⟨by omega, HTD.out.1, Int.le_trans HTD.out.2 HBD.out, HTb.out, HT4.out⟩⟩
      ·have d2 : decide (lt ≤ o.base) = false := decide_eq_false hc
       obtain ⟨x1, s0, s1, q1, q2, q4, q5, q6⟩ := rd HN.out HLV.out HX1.out HT3.out.bel
       have b0 := blk_cell HT3.out.blk 0
       have bT := blk_cell HT3.out.blk 1
       have bF := blk_cell HT3.out.blk 2
       have z0 := blk_frozen HT3.out.blk 0
       have HTb := Lib.hid (show lp1 o m 0 (T.set (m + 1) lt) (db / o.mult) = blT o sz by rw [← HRES.out, lp1_step, HLT.out]; rw [if_neg (fun h => hc h.2)])
       go_wp2_with fail
       go_roundg m
       case measure => omega
       case rel => exact ⟨m, _, _, _, rfl, rfl, ⟨rfl⟩, ⟨by omega, HTD.out.1, Int.le_trans HTD.out.2 HBD.out, HTb.out, HT3.out⟩⟩
     ·have d2 : (bl == 0) = false := by simp [hb]
      have HNB := Lib.hid hb
      clear hb
      obtain ⟨x1, s0, s1, q1, q2, q4, q5, q6⟩ := rd HN.out HLV.out HX1.out HT3.out.bel
      have b0 := blk_cell HT3.out.blk 0
      have bT := blk_cell HT3.out.blk 1
      have bF := blk_cell HT3.out.blk 2
      have z0 := blk_frozen HT3.out.blk 0
      have HTb := Lib.hid (show lp1 o m bl (T.set (m + 1) lt) (db / o.mult) = blT o sz by rw [← HRES.out, lp1_step, HLT.out]; rw [if_neg (fun h => HNB.out h.1)])
      go_wp2_with fail
      go_roundg m
      case measure => omega
      case rel => exact ⟨m, _, _, _, rfl, rfl, ⟨rfl⟩, ⟨by omega, HTD.out.1, Int.le_trans HTD.out.2 HBD.out, HTb.out, HT3.out⟩⟩
  case rest =>
   have HT5 := Lib.hid hcut
   have HR1 := Lib.hid (blT_range o sz (by have := HN.out; omega))
   clear hcut HT1 HBT HZ0
   obtain ⟨B1, hB1⟩ : ∃ B, B = (blT o sz).1 := ⟨_, rfl⟩
   obtain ⟨T1, hT1⟩ : ∃ T, T = (blT o sz).2 := ⟨_, rfl⟩
   rw [← hB1, ← hT1] at HT5
   rw [← hB1] at HR1
   have HB1E := Lib.hid hB1
   have HT1E := Lib.hid hT1
   clear hB1 hT1
   obtain ⟨x1, s0, s1, q1, q2, q4, q5, q6⟩ := rd HN.out HLV.out HX1.out HT5.out.bel
   have b0 := blk_cell HT5.out.blk 0
   have bT := blk_cell HT5.out.blk 1
   have bF := blk_cell HT5.out.blk 2
   have z0 := blk_frozen HT5.out.blk 0
   go_upto_if 78 with (fail)
   clear x1 s0 s1 q1 q2 q4 q5 q6 b0 bT bF z0
   go_cut [] from 79 to 79 (fun wx => TS w1 (k + 1) b4 tb fb cT cF (if B1 = 0 then 1 else B1) T1 (List.replicate (k + 1) 0) wx)
   case first =>
    obtain ⟨x1, s0, s1, q1, q2, q4, q5, q6⟩ := rd HN.out HLV.out HX1.out HT5.out.bel
    have b0 := blk_cell HT5.out.blk 0
    have bT := blk_cell HT5.out.blk 1
    have bF := blk_cell HT5.out.blk 2
    have z0 := blk_frozen HT5.out.blk 0
    by_cases hb : B1 = 0
    ·subst hb
     go_wp2_with fail
     go_meet
     case rel => rw [if_pos trivial]; exact HT5.out.setB 1
    ·have HNB := Lib.hid hb
     have d2 : (B1 == 0) = false := by simp [hb]
     clear hb
     go_wp2_with fail
     go_meet
     case rel => rw [if_neg HNB.out]; exact HT5.out
   case rest =>
    have HT6 := Lib.hid hcut
    clear hcut HT5
    obtain ⟨C, hC⟩ : ∃ C : Nat, (C : Int) = (if B1 = 0 then 1 else B1) := ⟨(if B1 = 0 then 1 else B1).toNat, by have := HR1.out; split <;> omega⟩
    have HC := Lib.hid (show 1 ≤ C ∧ C ≤ k ∧ lp2 sz (k + 1) C (C : Int) = bl2 o sz by
     have h1 := HR1.out
     have h2 := HN.out
     refine ⟨by split at hC <;> omega, by split at hC <;> omega, ?_⟩
     unfold bl2
     rw [← HB1E.out, ← hC, Int.toNat_natCast, h2])
    rw [← hC] at HT6
    clear hC
    obtain ⟨x1, s0, s1, q1, q2, q4, q5, q6⟩ := rd HN.out HLV.out HX1.out HT6.out.bel
    have b0 := blk_cell HT6.out.blk 0
    have bT := blk_cell HT6.out.blk 1
    have bF := blk_cell HT6.out.blk 2
    have z0 := blk_frozen HT6.out.blk 0
    go_upto_block 2 with (fail)
    clear x1 s0 s1 q1 q2 q4 q5 q6 b0 bT bF z0
    have HR2 := Lib.hid (bl2_range o sz (by have := HN.out; omega))
    go_cut [8] from 82 to 102 (fun v8 wx => TS w1 (k + 1) b4 tb fb cT cF (bl2 o sz) T1 (List.replicate (k + 1) 0) wx)
    case first =>
     go_wp2_with fail
     go_loopg [8] (k + 1) (fun kq v8 wr => ∃ (i : Nat) (bl : Int), v8 = .int .i64 (i : Int) ∧ Aside0 (1 ≤ i ∧ k + 1 ≤ i + kq ∧ lp2 sz kq i bl = bl2 o sz ∧ TS w1 (k + 1) b4 tb fb cT cF bl T1 (List.replicate (k + 1) 0) wr))
     case atStart => exact ⟨C, _, rfl, ⟨HC.out.1, by omega, HC.out.2.2, HT6.out⟩⟩
     case round =>
      clear HT6 HC
      obtain ⟨i, bl, rfl, HQ⟩ := hrel
      have HT := Lib.hid HQ.out.2.2.2
      by_cases hi : i < k
      ·cases gk with
       | zero => exact absurd HQ.out.2.1 (by omega)
       | succ g =>
        have hres := HQ.out.2.2.1
        have HQ1 := Lib.hid HQ.out.1
        have HQ2 := Lib.hid HQ.out.2.1
        rw [lp2, if_pos (by have := HN.out; omega)] at hres
        obtain ⟨hpi, e1, e2⟩ := (HLV.out.below HT.out.bel).at_ i (by have := HN.out; omega)
        have K83 := Lib.hid (tot_calls e2)
        clear HQ e2
        generalize sz.getD i 0 = tt at *
        obtain ⟨x1, s0, s1, q1, q2, q4, q5, q6⟩ := rd HN.out HLV.out HX1.out HT.out.bel
        have b0 := blk_cell HT.out.blk 0
        have bT := blk_cell HT.out.blk 1
        have bF := blk_cell HT.out.blk 2
        have z0 := blk_frozen HT.out.blk 0
        have d1 : decide (i < k) = true := decide_eq_true hi
        have d3 : i < k + 1 := by omega
        by_cases ht : tt > 0
        ·rw [if_pos ht] at hres
         have HRES := Lib.hid hres
         have d2 : decide (0 < tt) = true := decide_eq_true ht
         clear hres ht
         go_wp2_with (go_at_call 83; refine K83.out.mono ?_; rintro e w' ⟨rfl, rfl⟩)
         go_meet
         case rel => rw [← HRES.out]; exact HT.out
        ·rw [if_neg ht] at hres
         have HRES := Lib.hid hres
         have d2 : decide (0 < tt) = false := decide_eq_false ht
         clear hres ht
         go_wp2_with (go_at_call 83; refine K83.out.mono ?_; rintro e w' ⟨rfl, rfl⟩)
         go_roundg g
         case measure => omega
         case rel => exact ⟨i + 1, (i : Int), rfl, ⟨by have := HQ1.out; omega, by have := HQ2.out; omega, HRES.out, HT.out.setB _⟩⟩
      ·have HRES := Lib.hid (show bl = bl2 o sz by
        have h := HQ.out.2.2.1
        cases gk with
        | zero => exact h
        | succ g => rw [lp2, if_neg (by have := HN.out; omega)] at h; exact h)
       have d1 : decide (i < k) = false := decide_eq_false hi
       clear HQ hi
       obtain ⟨x1, s0, s1, q1, q2, q4, q5, q6⟩ := rd HN.out HLV.out HX1.out HT.out.bel
       have b0 := blk_cell HT.out.blk 0
       have bT := blk_cell HT.out.blk 1
       have bF := blk_cell HT.out.blk 2
       have z0 := blk_frozen HT.out.blk 0
       go_wp2_with fail
       go_meet
       case rel => rw [← HRES.out]; exact HT.out
    case rest =>
     have HT7 := Lib.hid hcut
     clear hcut HT6 HC
     obtain ⟨b, hb⟩ : ∃ b : Nat, (b : Int) = bl2 o sz := ⟨(bl2 o sz).toNat, by have := HR2.out; omega⟩
     have HBE := Lib.hid hb
     have hb1 : 1 ≤ b := by have := HR2.out; omega
     have hbk : b ≤ k := by have := HR2.out; have := HN.out; omega
     rw [← hb] at HT7
     clear hb
     obtain ⟨x1, s0, s1, q1, q2, q4, q5, q6⟩ := rd HN.out HLV.out HX1.out HT7.out.bel
     have b0 := blk_cell HT7.out.blk 0
     have bT := blk_cell HT7.out.blk 1
     have bF := blk_cell HT7.out.blk 2
     have z0 := blk_frozen HT7.out.blk 0
     obtain ⟨hpb, e1, e2⟩ := (HLV.out.below HT7.out.bel).at_ b (by have := HN.out; omega)
     have K83 := Lib.hid (tot_calls e2)
     have d3 : b < k + 1 := by omega
     obtain ⟨u, hu⟩ : ∃ u, u = sz.getD b 0 := ⟨_, rfl⟩
     rw [← hu] at e2 K83
     have HU := Lib.hid hu
     clear hu
     go_upto_region 23 with (go_at_call 83; refine K83.out.mono ?_; rintro e w' ⟨rfl, rfl⟩)
     clear d3 e1 e2 K83
     obtain ⟨r11, h11⟩ : ∃ r, r = (u == 0) := ⟨_, rfl⟩
     rw [← h11]
     obtain ⟨r12, h12⟩ : ∃ r, r = decide (b < k) := ⟨_, rfl⟩
     rw [← h12]
     have H11 := Lib.hid h11
     have H12 := Lib.hid h12
     clear h11 h12
     go_cut [154] from 120 to 154 (fun v154 wx => ∃ r : Bool, v154 = .bool r ∧ (r = true ↔ up o sz T1 (b : Int)) ∧ TS w1 (k + 1) b4 tb fb cT cF (b : Int) T1 (List.replicate (k + 1) 0) wx)
     case first =>
      cases r12 with
      | true =>
       have hbk2 : b < k := of_decide_eq_true H12.out.symm
       cases r11 with
       | true =>
        have hu0 : u = 0 := by have := H11.out; simpa using this.symm
        subst hu0
        obtain ⟨hpc, e1, e2⟩ := (HLV.out.below HT7.out.bel).at_ (b + 1) (by have := HN.out; omega)
        replace e1 : wc.cell? ⟨blk, b + 1, none⟩ = some (.pointer (some ⟨hpc, 0, none⟩)) := e1
        have cc := (HT7.out.cellT (i := b + 1) (by omega)).1
        obtain ⟨p, hp⟩ : ∃ p, p = sz.getD (b + 1) 0 := ⟨_, rfl⟩
        obtain ⟨q, hq⟩ : ∃ q, q = T1.getD (b + 1) 0 := ⟨_, rfl⟩
        rw [← hp] at e2
        rw [← hq] at cc
        have HP := Lib.hid hp
        have HQ := Lib.hid hq
        have HUP := Lib.hid (show up o sz T1 (b : Int) ↔ p < q ∧ p < o.base by
         unfold up
         rw [Int.toNat_natCast, hp, hq]
         exact ⟨fun h => h.2.2, fun h => ⟨by have := HN.out; omega, HU.out.symm, h.1, h.2⟩⟩)
        have HA := Lib.hid (fun n => q_same (tot_calls (w := wc.drewN n) (hp := hpc) e2))
        have w5 : IntKind.i64.wrap ((b : Int) + 1) = (b : Int) + 1 := IntWalk.i64_in _ (by omega)
        have w6 : 0 ≤ (b : Int) + 1 := by omega
        have w7 : ((b : Int) + 1).toNat = b + 1 := by omega
        have w8 : (b : Int) + 1 < (k : Int) + 1 := by omega
        have w9 : b + 1 < k + 1 := by omega
        clear hp hq hbk2
        by_cases h1 : p < q
        ·by_cases h2 : p < o.base
         ·have HE := Lib.hid (HUP.out.2 ⟨h1, h2⟩)
          have g1 := decide_eq_true h1
          have g2 := decide_eq_true h2
          clear h1 h2
          go_quiet ((go_at_call 83; with_reducible exact HA.out _))
          go_wp2_with fail
          go_meet
          case rel => exact ⟨true, rfl, ⟨fun _ => HE.out, fun _ => rfl⟩, HT7.out.drewN _⟩
         ·have HE := Lib.hid (fun h => h2 (HUP.out.1 h).2)
          have g1 := decide_eq_true h1
          have g2 := decide_eq_false h2
          clear h1 h2
          go_quiet ((go_at_call 83; with_reducible exact HA.out _))
          go_wp2_with fail
          go_meet
          case rel => exact ⟨false, rfl, ⟨fun h => by simp at h, fun h => (HE.out h).elim⟩, HT7.out.drewN _⟩
        ·have HE := Lib.hid (fun h => h1 (HUP.out.1 h).1)
         have g1 := decide_eq_false h1
         clear h1
         go_quiet ((go_at_call 83; with_reducible exact HA.out _))
         go_wp2_with fail
         go_meet
         case rel => exact ⟨false, rfl, ⟨fun h => by simp at h, fun h => (HE.out h).elim⟩, HT7.out.drewN _⟩
       | false =>
        have hu0 : ¬ u = 0 := by have := H11.out; simpa using this.symm
        have HE := Lib.hid (show ¬ up o sz T1 (b : Int) from fun h => hu0 (by have := h.2.1; rw [Int.toNat_natCast] at this; rw [HU.out]; exact this))
        clear hu0 hbk2
        go_quiet (fail)
        go_wp2_with fail
        go_meet
        case rel => exact ⟨false, rfl, ⟨fun h => by simp at h, fun h => (HE.out h).elim⟩, HT7.out.drewN _⟩
      | false =>
       have hbk2 : ¬ b < k := of_decide_eq_false H12.out.symm
       have HE := Lib.hid (show ¬ up o sz T1 (b : Int) from fun h => by have := h.1; have := HN.out; omega)
       clear hbk2
       go_quiet (fail)
       go_wp2_with fail
       go_meet
       case rel => exact ⟨false, rfl, ⟨fun h => by simp at h, fun h => (HE.out h).elim⟩, HT7.out.drewN _⟩
     case rest =>
      obtain ⟨r, rfl, hr, hts⟩ := hcut
      have HUP := Lib.hid hr
      have HT8 := Lib.hid hts
      clear hr hts HT7
      clear x1 s0 s1 q1 q2 q4 q5 q6 b0 bT bF z0
      go_upto_if 154 with (fail)
      go_cut [] from 155 to 158 (fun wx => TS w1 (k + 1) b4 tb fb cT cF (bl3 o sz) T1 (List.replicate (k + 1) 0) wx)
      case first =>
       obtain ⟨x1, s0, s1, q1, q2, q4, q5, q6⟩ := rd HN.out HLV.out HX1.out HT8.out.bel
       have b0 := blk_cell HT8.out.blk 0
       have bT := blk_cell HT8.out.blk 1
       have bF := blk_cell HT8.out.blk 2
       have z0 := blk_frozen HT8.out.blk 0
       have HE := Lib.hid (show bl3 o sz = if r then (b : Int) + 1 else b by
        unfold bl3
        rw [← HT1E.out, ← HBE.out]
        by_cases h : up o sz T1 (b : Int)
        ·rw [if_pos h, if_pos (HUP.out.2 h)]
        ·rw [if_neg h, if_neg (fun h2 => h (HUP.out.1 h2))])
       cases r with
       | true =>
        go_wp2_with fail
        go_meet
        case rel => rw [HE.out]; exact HT8.out.setB _
       | false =>
        go_wp2_with fail
        go_meet
        case rel => rw [HE.out]; exact HT8.out
      case rest =>
       have HT9 := Lib.hid hcut
       clear hcut HT8
       have HR3 := Lib.hid (bl3_range o sz (by have := HN.out; omega))
       obtain ⟨D, hD⟩ : ∃ D, D = bl3 o sz := ⟨_, rfl⟩
       rw [← hD] at HT9 HR3
       have HDE := Lib.hid (show lp3 sz (k + 1) 1 D = bl4 o sz by unfold bl4; rw [← hD, ← HN.out])
       clear hD
       go_upto_block 4 with (fail)
       go_cut [13] from 159 to 175 (fun v13 wx => TS w1 (k + 1) b4 tb fb cT cF (bl4 o sz) T1 (List.replicate (k + 1) 0) wx)
       case first =>
        go_wp2_with fail
        go_loopg [13] (k + 1) (fun kq v13 wr => ∃ (i : Nat), v13 = .int .i64 (i : Int) ∧ Aside0 (k + 1 ≤ i + kq ∧ lp3 sz kq i D = bl4 o sz ∧ TS w1 (k + 1) b4 tb fb cT cF D T1 (List.replicate (k + 1) 0) wr))
        case atStart => exact ⟨1, rfl, ⟨by omega, HDE.out, HT9.out⟩⟩
        case round =>
         clear HT9 HDE
         obtain ⟨i, rfl, HQ⟩ := hrel
         have HT := Lib.hid HQ.out.2.2
         by_cases hi : (i : Int) < D
         ·cases gk with
          | zero => exact absurd HQ.out.1 (by have := HR3.out; have := HN.out; omega)
          | succ g =>
           have hres := HQ.out.2.1
           have HQ2 := Lib.hid HQ.out.1
           have hik : i < k := by have := HR3.out; have := HN.out; omega
           rw [lp3, if_pos hi] at hres
           obtain ⟨hpi, e1, e2⟩ := (HLV.out.below HT.out.bel).at_ i (by have := HN.out; omega)
           have K83 := Lib.hid (tot_calls e2)
           clear HQ e2
           generalize sz.getD i 0 = tt at *
           obtain ⟨x1, s0, s1, q1, q2, q4, q5, q6⟩ := rd HN.out HLV.out HX1.out HT.out.bel
           have b0 := blk_cell HT.out.blk 0
           have bT := blk_cell HT.out.blk 1
           have bF := blk_cell HT.out.blk 2
           have z0 := blk_frozen HT.out.blk 0
           have d1 : decide ((i : Int) < D) = true := decide_eq_true hi
           have d3 : i < k + 1 := by omega
           clear hi
           by_cases ht : tt > 0
           ·rw [if_pos ht] at hres
            have HRES := Lib.hid hres
            have d2 : decide (0 < tt) = true := decide_eq_true ht
            clear hres ht
            go_wp2_with (go_at_call 83; refine K83.out.mono ?_; rintro e w' ⟨rfl, rfl⟩)
            go_meet
            case rel => rw [← HRES.out]; exact HT.out.setB _
           ·rw [if_neg ht] at hres
            have HRES := Lib.hid hres
            have d2 : decide (0 < tt) = false := decide_eq_false ht
            clear hres ht
            go_wp2_with (go_at_call 83; refine K83.out.mono ?_; rintro e w' ⟨rfl, rfl⟩)
            go_roundg g
            case measure => omega
            case rel => exact ⟨i + 1, rfl, ⟨by have := HQ2.out; omega, HRES.out, HT.out⟩⟩
         ·have HRES := Lib.hid (show D = bl4 o sz by
           have h := HQ.out.2.1
           cases gk with
           | zero => exact h
           | succ g => rw [lp3, if_neg hi] at h; exact h)
          have d1 : decide ((i : Int) < D) = false := decide_eq_false hi
          clear HQ hi
          obtain ⟨x1, s0, s1, q1, q2, q4, q5, q6⟩ := rd HN.out HLV.out HX1.out HT.out.bel
          have b0 := blk_cell HT.out.blk 0
          have bT := blk_cell HT.out.blk 1
          have bF := blk_cell HT.out.blk 2
          have z0 := blk_frozen HT.out.blk 0
          go_wp2_with fail
          go_meet
          case rel => rw [← HRES.out]; exact HT.out
       case rest =>
        have HTA := Lib.hid hcut
        have HR4 := Lib.hid (bl4_range o sz (by have := HN.out; omega))
        clear hcut HT9 HDE
        obtain ⟨E, hE⟩ : ∃ E, E = bl4 o sz := ⟨_, rfl⟩
        rw [← hE] at HTA HR4
        have HFE := Lib.hid (show lp4 o E (k + 1) 0 o.tab (List.replicate (k + 1) 0) = files o sz by unfold files; rw [← hE, ← HN.out])
        have HEE := Lib.hid hE
        clear hE
        obtain ⟨x1, s0, s1, q1, q2, q4, q5, q6⟩ := rd HN.out HLV.out HX1.out HTA.out.bel
        have b0 := blk_cell HTA.out.blk 0
        have bT := blk_cell HTA.out.blk 1
        have bF := blk_cell HTA.out.blk 2
        have z0 := blk_frozen HTA.out.blk 0
        go_wp2_with fail
        go_loopg [14, 15] (k + 1) (fun kq v14 v15 wr => ∃ (i : Nat) (ts : Int) (F : List Int), v14 = .int .i64 ts ∧ v15 = .int .i64 (i : Int) ∧ Aside0 (i + kq = k + 1 ∧ lp4 o E kq i ts F = files o sz ∧ TS w1 (k + 1) b4 tb fb cT cF E T1 F wr))
        case atStart => exact ⟨0, _, _, rfl, rfl, ⟨by omega, HFE.out, HTA.out⟩⟩
        case round =>
         clear HTA HFE x1 s0 s1 q1 q2 q4 q5 q6 b0 bT bF z0
         obtain ⟨i, ts, F, rfl, rfl, HQ⟩ := hrel
         have HT := Lib.hid HQ.out.2.2
         cases gk with
         | zero =>
          have HRES := Lib.hid (show F = files o sz from HQ.out.2.1)
          have hi : i = k + 1 := by have := HQ.out.1; omega
          subst hi
          clear HQ
          obtain ⟨x1, s0, s1, q1, q2, q4, q5, q6⟩ := rd HN.out HLV.out HX1.out HT.out.bel
          have b0 := blk_cell HT.out.blk 0
          have bT := blk_cell HT.out.blk 1
          have bF := blk_cell HT.out.blk 2
          have z0 := blk_frozen HT.out.blk 0
          have d1 : (E == 0) = false := by have := HR4.out; simp; omega
          have hx2 := Lib.hid ((HT.out.bel.block _ (blk_lt HX2.out)).trans HX2.out)
          have y0 := blk_cell hx2.out 0
          have y1 := blk_cell hx2.out 1
          have y2 := blk_cell hx2.out 2
          have p0 := blk_frozen hx2.out 0
          have p1 := blk_frozen hx2.out 1
          have p2 := blk_frozen hx2.out 2
          go_wp2_with fail
          obtain ⟨wz, hwz⟩ : ∃ wz, wz = ((wr.setCell ⟨b2, 0, none⟩ (.int .i64 E)).setCell ⟨b2, 1, none⟩ (.slice (some ⟨tb, 0, none⟩) (k + 1) cT)).setCell ⟨b2, 2, none⟩ (.slice (some ⟨fb, 0, none⟩) (k + 1) cF) := ⟨_, rfl⟩
          rw [← hwz]
          have HE := Lib.hid (ts_end hwz HT.out hx2.out HB1.out HB2.out)
          have hz2 := Lib.hid HE.out.1
          clear hwz y0 y1 y2 p0 p1 p2 x1 s0 s1 q1 q2 q4 q5 q6 b0 bT bF z0
          have y0 := blk_cell hz2.out 0
          have y1 := blk_cell hz2.out 1
          have y2 := blk_cell hz2.out 2
          refine bodyPost_ret (results_cell_row rfl _ _ b2 103 #[.int .i64 E, .slice (some ⟨tb, 0, none⟩) (k + 1) cT, .slice (some ⟨fb, 0, none⟩) (k + 1) cF] (0, 0) _ rfl hz2.out Tryz.underlying103 rfl (by kernel_rfl)) rfl ?_
          exact targets_end HN.out HEE.out HT1E.out HRES.out HE.out.2.1 HE.out.2.2.1 HE.out.2.2.2
         | succ g =>
          have hres := HQ.out.2.1
          have hik : i < k + 1 := by have := HQ.out.1; omega
          have HQ2 := Lib.hid HQ.out.1
          clear HQ
          obtain ⟨cF0, cF1⟩ := HT.out.cellF hik
          obtain ⟨x1, s0, s1, q1, q2, q4, q5, q6⟩ := rd HN.out HLV.out HX1.out HT.out.bel
          have b0 := blk_cell HT.out.blk 0
          have bT := blk_cell HT.out.blk 1
          have bF := blk_cell HT.out.blk 2
          have z0 := blk_frozen HT.out.blk 0
          by_cases hi0 : i = 0
          ·subst hi0
           rw [lp4, if_pos rfl] at hres
           have HRES := Lib.hid hres
           clear hres hik
           go_upto_region 35 with (fail)
           refine wp_region_still_tail 11 (by kernel_rfl) (by kernel_rfl) ?_
           simp only [List.take_succ_cons, List.take_zero, List.drop_succ_cons, List.drop_zero]
           repeat still_step
           refine wpStill_nil ?_
           change wpList _ _ _ _ _ wr.drew
           go_wp2_with fail
           go_roundg g
           case measure => omega
           case rel => exact ⟨1, ts, _, rfl, rfl, ⟨by have := HQ2.out; omega, HRES.out, (HT.out.drewN 1).setF 0 o.mem⟩⟩
          ·rw [lp4, if_neg hi0] at hres
           have d2 : decide (i = 0) = false := decide_eq_false hi0
           have d3 : ((i : Int) == 0) = false := by simp; omega
           clear hi0
           by_cases hie : (i : Int) ≤ E
           ·rw [if_pos hie] at hres
            have HRES := Lib.hid hres
            have d4 : decide ((i : Int) ≤ E) = true := decide_eq_true hie
            clear hres hie
            go_wp2_with fail
            go_roundg g
            case measure => omega
            case rel => exact ⟨i + 1, ts, _, rfl, rfl, ⟨by have := HQ2.out; omega, HRES.out, HT.out.setF i ts⟩⟩
           ·rw [if_neg hie] at hres
            have HRES := Lib.hid hres
            have d4 : decide ((i : Int) ≤ E) = false := decide_eq_false hie
            clear hres hie
            go_wp2_with fail
            go_roundg g
            case measure => omega
            case rel => exact ⟨i + 1, wrap64 (ts * o.tmul), _, rfl, rfl, ⟨by have := HQ2.out; omega, HRES.out, HT.out.setF i _⟩⟩
end Go.Proofs.YtnineoajmgneiaaGreat.Tg
namespace Go.Proofs.YtnineoajmgneiaaGreat.Tp
open Go.RowKit YtnineoajmgneiaaGreatW.PrintWords YtnineoajmgneiaaGreatW.PrintLast YtnineoajmgneiaaGreatW.PrintMore Fr L Ky Tm Lm Sr Ls It Nw Bd Tg
open YtnineoajmgneiaaGreat.Od (ord)
open YtnineoajmgneiaaGreatW
set_option linter.unusedVariables false
set_option linter.unusedSimpArgs false
theorem lv_of_new {w w' : World} {xs : List (List Tb)} {o : Lm.Op} {ob mb sb : Nat} (h : NewR w xs o ob mb sb xs.length w') (hx : 0 < xs.length) : ∃ blk c, Lv w' sb ob blk c o (xs.map total) := by
  obtain ⟨lv, cv, hs, cs, h1, h2, h3, h4⟩ := h
  rw [List.take_of_length_le (Nat.le_refl _)] at h2
  have hl : hs.length = xs.length := by rw [← h2, List.length_map]
  obtain ⟨A, c, e, hc, hr⟩ := row_F (F := fun _ => True) h1.lr (fun _ _ _ => trivial)
  rw [List.length_map, hl] at e hc hr
  obtain ⟨b, ds, rfl, _, hb, hat⟩ := hr hx
  subst e
  refine ⟨b, c, by have := blk_cell h1.ctl 0; rw [List.length_map]; exact this, blk_cell h1.ctl 1, h1.opt, fun i hi => ?_⟩
  rw [List.length_map] at hi
  have hih : i < hs.length := by omega
  refine ⟨hs[i].hp, ?_, ?_⟩
  · rw [blk_cell hb]
    exact hat i _ (by simp [hih])
  · have := blk_cell (h4 i _ (List.getElem?_eq_getElem hih)).blk 1
    refine this.trans ?_
    have e3 : xs[i]? = some hs[i].ts := by rw [← h2]; simp [hih]
    have e4 : (xs.map total).getD i 0 = total hs[i].ts := by simp [e3]
    rw [e4]
    rfl
def TgPost (w : World) (o : Lm.Op) (sz : List Int) (e : Ending) (w' : World) : Prop := ∃ A c B d, e = .returned (.tuple #[.int .i64 (bl4 o sz), .slice A sz.length c, .slice B sz.length d]) ∧ Kd.C (Kd.int .i64) w' A sz.length (blT o sz).2 ∧ Kd.C (Kd.int .i64) w' B sz.length (files o sz) ∧ sz.length ≤ c ∧ sz.length ≤ d ∧ Below w.heap.size w w'
set_option maxRecDepth 100000 in
set_option maxHeartbeats 2000000 in
theorem targets57 {w : World} {lp sb ob blk c : Nat} {o : Lm.Op} {sz : List Int} (h0 : w.cell? ⟨lp, 0, none⟩ = some (ptr sb)) (hL : Lv w sb ob blk c o sz) (hn : 2 ≤ sz.length) (hx : sz.length ≤ 100) (hz : ∀ i, 0 ≤ sz.getD i 0 ∧ sz.getD i 0 ≤ 1000000000000000) (hmul : 2 ≤ o.mult) (hbase : 0 ≤ o.base) :
    Calls Tryz.prog 57 #[.pointer (some ⟨lp, 0, none⟩)] w (TgPost w o sz) := by
  have K := Lib.hid (levelTargets_calls hL hn hx hz hmul hbase)
  simp only [ptr] at h0
  clear hL hz hn hx
  go_enter Tryz.func57, Tryz.ntmps57
  go_wp2_with fail
  refine K.out.mono ?_
  rintro e w2 ⟨A, c1, B, d1, rfl, hA, hB, hc1, hd1, hb⟩
  have HA := Lib.hid hA
  have HB := Lib.hid hB
  have HB2 := Lib.hid hb
  have HC := Lib.hid hc1
  have HD := Lib.hid hd1
  clear hA hB hb hc1 hd1 K
  obtain ⟨bb, hbb⟩ : ∃ b, b = bl4 o sz := ⟨_, rfl⟩
  rw [← hbb]
  obtain ⟨n, hnn⟩ : ∃ n, n = sz.length := ⟨_, rfl⟩
  rw [← hnn]
  have HBB := Lib.hid hbb
  have HNN := Lib.hid hnn
  clear hbb hnn
  go_upto_region 2 with (fail)
  obtain ⟨w3, hw3⟩ : ∃ w3, w3 = w2.alloc (.cells #[.int .i64 bb, .slice A n c1, .slice B n d1] 103) := ⟨_, rfl⟩
  rw [← hw3]
  obtain ⟨b5, hb5⟩ : ∃ b, b = w2.heap.size := ⟨_, rfl⟩
  rw [← hb5]
  have HBX := Lib.hid (show Below w2.heap.size w2 w3 by rw [hw3]; exact below_alloc (Below.refl _ _) _)
  have HX := Lib.hid (show w3.heap[b5]? = some (.cells #[.int .i64 bb, .slice A n c1, .slice B n d1] 103 (0, 0)) by rw [hw3, hb5]; exact blk_new w2 _)
  clear hw3 hb5
  have y0 := blk_cell HX.out 0
  have y1 := blk_cell HX.out 1
  have y2 := blk_cell HX.out 2
  go_quiet (fail)
  have HE := Lib.hid (show TgPost w o sz (.returned (.tuple #[.int .i64 bb, .slice A n c1, .slice B n d1])) (w3.drewN nq) by
    rw [HBB.out, HNN.out]
    exact ⟨A, c1, B, d1, rfl, Kd.C_drewN (Kd.C_below HA.out HBX.out) _, Kd.C_drewN (Kd.C_below HB.out HBX.out) _, HC.out, HD.out, pw_below_drewN (below_step HB2.out HBX.out) _⟩)
  go_wp2_with fail
  go_ret3
  exact HE.out
theorem w64 {x : Int} (h : -1000000 ≤ x ∧ x ≤ 1000000) : wrap64 x = x := by
  unfold wrap64
  omega
theorem ints_at {l : List Int} (hl : l.length ≤ 1000) : ∀ (m j k : Nat), j + m = l.length → m + 1 ≤ k → impl_ints_int64.l0 k (l.take j) l (l.length : Int) (j : Int) = some l
  | 0, j, k, hj, hk => by
    obtain ⟨k, rfl⟩ : ∃ q, k = q + 1 := ⟨k - 1, by omega⟩
    rw [impl_ints_int64.l0, if_neg (by omega), List.take_of_length_le (by omega)]
  | m + 1, j, k, hj, hk => by
    obtain ⟨k, rfl⟩ : ∃ q, k = q + 1 := ⟨k - 1, by omega⟩
    rw [impl_ints_int64.l0, if_pos (by omega), if_pos (by omega), if_pos (by omega), if_pos (by rw [List.length_take]; omega), w64 (by omega)]
    have e : l.take j ++ [PrintWords.rd l (j : Int)] = l.take (j + 1) := by
      rw [List.take_succ_eq_append_getElem (by omega)]
      simp [PrintWords.rd, show j < l.length by omega]
    rw [e]
    exact ints_at hl m (j + 1) k (by omega) (by omega)
theorem ints_id {l : List Int} (hl : l.length ≤ 1000) : impl_ints_int64.f (l.length + 1) l = some l := by
  have := ints_at hl l.length 0 (l.length + 1) (by omega) (by omega)
  simpa [impl_ints_int64.f] using this
def IntsPost (w : World) (l : List Int) (e : Ending) (w' : World) : Prop := ∃ A c, e = .returned (.slice A l.length c) ∧ l.length ≤ c ∧ Kd.C (Kd.int .i64) w' A l.length l ∧ Below w.heap.size w w'
theorem ints_calls {w : World} {A : Option Addr} {n c : Nat} {l : List Int} (h : Kd.C (Kd.int .i64) w A n l) (hc : n ≤ c) (hn : n ≤ 1000) : Calls Tryz.prog 58 #[.slice A n c] w (IntsPost w l) := by
  have e : l.length = n := h.1
  subst e
  refine (impl_ints_int64.calls (l.length + 1) A c l l w h hc (ints_id hn)).mono ?_
  rintro e w' ⟨v, rfl, hr, hb⟩
  obtain ⟨A2, c2, rfl⟩ := Kd.R_slice hr
  exact ⟨A2, c2, rfl, (Kd.R_reads' hr).2.1, (Kd.R_reads' hr).2.2, hb⟩
def AllPost (w : World) (o : Lm.Op) (sz : List Int) (e : Ending) (w' : World) : Prop := ∃ A c B d, e = .returned (.tuple #[.int .i64 (bl4 o sz), .slice A (blT o sz).2.length c, .slice B (files o sz).length d]) ∧ (blT o sz).2.length ≤ c ∧ Kd.C (Kd.int .i64) w' A (blT o sz).2.length (blT o sz).2 ∧ (files o sz).length ≤ d ∧ Kd.C (Kd.int .i64) w' B (files o sz).length (files o sz) ∧ Below w.heap.size w w'
theorem sizes_ok {xs : List (List Tb)} (hl : ∀ l ∈ xs, l.length ≤ 50000 ∧ ∀ t ∈ l, Fit t) : ∀ i, 0 ≤ (xs.map total).getD i 0 ∧ (xs.map total).getD i 0 ≤ 1000000000000000 := by
  intro i
  rw [List.getD_eq_getElem?_getD, List.getElem?_map]
  cases h : xs[i]? with
  | none => simp
  | some l =>
    obtain ⟨h1, h2⟩ := hl l (List.mem_of_getElem? h)
    have := total_bd h2
    simp only [Option.map_some, Option.getD_some]
    omega
set_option maxRecDepth 100000 in
set_option maxHeartbeats 4000000 in
theorem targets_calls {w : World} {A0 : Option Addr} {c0 : Nat} {ls : List (List S68)} {m a b c d e f g : Int} {xs : List (List Tb)} (hxs : xs = ls.map (·.map tbOf)) (hC : Kd.C (Kd.slice 68 k68) w A0 ls.length ls) (hc0 : ls.length ≤ c0) (hm : m = (xs.length : Int)) (hx : ls.length ≤ 100) (h2 : 2 ≤ ls.length) (hlen : ∀ l ∈ ls, l.length ≤ 50000)
    (hin : ∀ l ∈ ls, ∀ t ∈ l, InTab t) (hord : ∀ (i : Nat) (l : List Tb), xs[i]? = some l → Od.SW l.length (It.ltOf i l) ∧ ord l.length (It.ltOf i l) = List.range l.length) (hg : IntKind.u64.wrap g = g) (hmul : 2 ≤ a) (hbase : 0 ≤ d) :
    Calls Tryz.prog 25 #[.slice A0 ls.length c0, .agg #[.int .i64 m, .int .i64 a, .int .i64 b, .int .i64 c, .int .i64 d, .int .i64 e, .int .i64 f, .int .i64 g]] w (AllPost w ⟨m, a, b, c, d, e, f, g⟩ (xs.map total)) := by
  have HXL := Lib.hid (show xs.length = ls.length by rw [hxs, List.length_map])
  have HSZ := Lib.hid (sizes_ok (xs := xs) (fun l hl => by
    rw [hxs] at hl
    obtain ⟨l0, h0, rfl⟩ := List.mem_map.1 hl
    refine ⟨by rw [List.length_map]; exact hlen l0 h0, fun t ht => ?_⟩
    obtain ⟨t0, h1, rfl⟩ := List.mem_map.1 ht
    exact (tb_ok (hin l0 h0 t0 h1)).2))
  have KB := Lib.hid (fun (W : World) (hW : Below w.heap.size w W) => build_calls (w := W) (m := m) (a := a) (b := b) (c := c) (d := d) (e := e) (f := f) (g := g) hxs (Kd.C_below hC hW) hc0 hm hx hlen hin hord hg)
  have HX := Lib.hid hx
  have H2 := Lib.hid h2
  clear hxs hC hc0 hm hx h2 hlen hin hord hg
  go_enter Tryz.func25, Tryz.ntmps25
  go_upto_region 1 with (fail)
  obtain ⟨w1, hw1⟩ : ∃ w1, w1 = w.alloc (.cells #[.int .i64 m, .int .i64 a, .int .i64 b, .int .i64 c, .int .i64 d, .int .i64 e, .int .i64 f, .int .i64 g] 24) := ⟨_, rfl⟩
  rw [← hw1]
  obtain ⟨b3, hb3⟩ : ∃ b3, b3 = w.heap.size := ⟨_, rfl⟩
  rw [← hb3]
  have HB1 := Lib.hid (show Below w.heap.size w w1 by rw [hw1]; exact below_alloc (Below.refl _ _) _)
  have HO3 := Lib.hid (show w1.heap[b3]? = some (.cells #[.int .i64 m, .int .i64 a, .int .i64 b, .int .i64 c, .int .i64 d, .int .i64 e, .int .i64 f, .int .i64 g] 24 (0, 0)) by rw [hw1, hb3]; exact blk_new w _)
  clear hw1 hb3
  have o0 := blk_cell HO3.out 0
  have o1 := blk_cell HO3.out 1
  have o2 := blk_cell HO3.out 2
  have o3 := blk_cell HO3.out 3
  have o4 := blk_cell HO3.out 4
  have o5 := blk_cell HO3.out 5
  have o6 := blk_cell HO3.out 6
  have o7 := blk_cell HO3.out 7
  go_wp2_with fail
  refine (KB.out w1 HB1.out).mono ?_
  rintro e2 w2 ⟨W, hW, lp, sb, ob, mb, rfl, hnr, hlp, hl1, hl2⟩
  obtain ⟨blk, cc, hLv⟩ := lv_of_new hnr (by have := H2.out; have := HXL.out; omega)
  have HB2 := Lib.hid (show Below w.heap.size w w2 by
    obtain ⟨lv, cv, hs, cs, hq1, hq2, hq3, hq4⟩ := hnr
    exact below_step HB1.out (hW.trans (hq1.bel.mono hW.size)))
  have K57 := Lib.hid (targets57 (w := w2) (blk_cell hlp 0) hLv (by rw [List.length_map]; have := H2.out; have := HXL.out; omega) (by rw [List.length_map]; have := HX.out; have := HXL.out; omega) HSZ.out hmul hbase)
  clear hW hnr hlp hl1 hl2 hLv o0 o1 o2 o3 o4 o5 o6 o7
  simp only [ptr]
  go_wp2_with fail
  refine K57.out.mono ?_
  rintro e3 w3 ⟨A, c1, B, d1, rfl, hA, hB, hc1, hd1, hb⟩
  have hnn : (xs.map total).length ≤ 1000 := by rw [List.length_map]; have := HX.out; have := HXL.out; omega
  have KA := Lib.hid (ints_calls hA hc1 hnn)
  have KC := Lib.hid (fun (W : World) (hW : Below w3.heap.size w3 W) => ints_calls (Kd.C_below hB hW) hd1 hnn)
  have HB3 := Lib.hid (below_step HB2.out hb)
  clear hA hB hc1 hd1 hb hnn K57 KB
  obtain ⟨bb, hbb⟩ : ∃ q, q = bl4 ⟨m, a, b, c, d, e, f, g⟩ (xs.map total) := ⟨_, rfl⟩
  rw [← hbb]
  obtain ⟨n, hn⟩ : ∃ n, n = (xs.map total).length := ⟨_, rfl⟩
  rw [← hn] at KA KC
  rw [← hn]
  have HBB := Lib.hid hbb
  clear hbb hn
  go_wp2_with fail
  refine KA.out.mono ?_
  rintro e4 w4 ⟨A4, c4, rfl, hc4, hA4, hb4⟩
  have KC4 := Lib.hid (KC.out w4 hb4)
  have HA4 := Lib.hid hA4
  have HC4 := Lib.hid hc4
  have HB4 := Lib.hid (below_step HB3.out hb4)
  clear hc4 hA4 hb4 KA KC
  obtain ⟨n4, hn4⟩ : ∃ n, n = (blT ⟨m, a, b, c, d, e, f, g⟩ (xs.map total)).2.length := ⟨_, rfl⟩
  rw [← hn4]
  have HN4 := Lib.hid hn4
  clear hn4
  go_wp2_with fail
  refine KC4.out.mono ?_
  rintro e5 w5 ⟨A5, c5, rfl, hc5, hA5, hb5⟩
  have HE := Lib.hid (show AllPost w ⟨m, a, b, c, d, e, f, g⟩ (xs.map total) (.returned (.tuple #[.int .i64 bb, .slice A4 n4 c4, .slice A5 (files ⟨m, a, b, c, d, e, f, g⟩ (xs.map total)).length c5])) w5 by
    rw [HBB.out, HN4.out]
    exact ⟨A4, c4, A5, c5, rfl, HC4.out, Kd.C_below HA4.out hb5, hc5, hA5, below_step HB4.out hb5⟩)
  clear hc5 hA5 hb5 KC4
  obtain ⟨n5, hn5⟩ : ∃ n, n = (files ⟨m, a, b, c, d, e, f, g⟩ (xs.map total)).length := ⟨_, rfl⟩
  rw [← hn5] at HE
  rw [← hn5]
  clear hn5
  go_wp2_with fail
  go_ret3
  exact HE.out
end Go.Proofs.YtnineoajmgneiaaGreat.Tp
namespace Go.Proofs.YtnineoajmgneiaaGreat.Tl
open Go.RowKit YtnineoajmgneiaaGreatW YtnineoajmgneiaaGreatW.PrintWords YtnineoajmgneiaaGreatW.PrintLast YtnineoajmgneiaaGreatW.PrintMore Fr L Ky Tm Lm It Tg Tp
set_option linter.unusedVariables false
set_option linter.unusedSimpArgs false
/-! ### the base level: what lies under it is empty -/
theorem lp3_low (sz : List Int) : ∀ (k i : Nat) (bl : Int), bl ≤ i + k → ∀ j : Nat, i ≤ j → (j : Int) < lp3 sz k i bl → sz.getD j 0 ≤ 0
  | 0, i, bl, h, j, hj, hl => by rw [lp3] at hl; omega
  | k + 1, i, bl, h, j, hj, hl => by
    rw [lp3] at hl
    split at hl
    · split at hl
      · omega
      · rename_i h2
        by_cases e : j = i
        · subst e; omega
        · exact lp3_low sz k (i + 1) bl (by omega) j (by omega) hl
    · omega
theorem base_low {o : Lm.Op} {sz : List Int} (h2 : 2 ≤ sz.length) {j : Nat} (h1 : 1 ≤ j) (hl : (j : Int) < bl4 o sz) : sz.getD j 0 ≤ 0 :=
  lp3_low sz sz.length 1 (bl3 o sz) (by have := (bl3_range o sz h2).2; omega) j h1 hl
/-! ### the files' sizes -/
def fl (o : Lm.Op) (bl : Int) : Nat → Nat → Int → List Int
  | 0, _, _ => []
  | k + 1, i, t => if (i : Int) ≤ bl then t :: fl o bl k (i + 1) t else wrap64 (t * o.tmul) :: fl o bl k (i + 1) (wrap64 (t * o.tmul))
theorem set_take {F : List Int} {i : Nat} (hi : i < F.length) (x : Int) : (F.set i x).take (i + 1) = F.take i ++ [x] := by
  rw [List.take_succ_eq_append_getElem (by simpa using hi)]
  simp [List.take_set_of_le]
theorem lp4_fl (o : Lm.Op) (bl : Int) : ∀ (k i : Nat) (t : Int) (F : List Int), 1 ≤ i → F.length = i + k → lp4 o bl k i t F = F.take i ++ fl o bl k i t
  | 0, i, t, F, _, h => by rw [lp4, fl, List.append_nil, List.take_of_length_le (by omega)]
  | k + 1, i, t, F, hi, h => by
    rw [lp4, if_neg (by omega), fl]
    split
    · rw [lp4_fl o bl k (i + 1) t _ (by omega) (by rw [List.length_set]; omega), set_take (by omega)]
      simp
    · rw [lp4_fl o bl k (i + 1) _ _ (by omega) (by rw [List.length_set]; omega), set_take (by omega)]
      simp
theorem files_fl {o : Lm.Op} {sz : List Int} {m : Nat} (hm : sz.length = m + 1) : files o sz = o.mem :: fl o (bl4 o sz) m 1 o.tab := by
  unfold files
  rw [hm, lp4, if_pos rfl, lp4_fl o _ m 1 _ _ (by omega) (by simp; omega)]
  simp [List.replicate_succ]
theorem spec_files {ls : List (List S68)} {a b c d e f g h bl : Int} {o : Lm.Op} (ho : o.tmul = c) (hn : ls.length ≤ 1000) : ∀ (m i k : Nat) (t : Int) (acc : List Int), i + m = ls.length → m + 1 ≤ k → acc.length = i →
    spec_Files.l0 k ls bl acc t (i : Int) a b c d e f g h = some (acc ++ fl o bl m i t)
  | 0, i, k, t, acc, hi, hk, ha => by
    obtain ⟨k, rfl⟩ : ∃ q, k = q + 1 := ⟨k - 1, by omega⟩
    rw [spec_Files.l0, if_neg (by omega), fl, List.append_nil]
  | m + 1, i, k, t, acc, hi, hk, ha => by
    obtain ⟨k, rfl⟩ : ∃ q, k = q + 1 := ⟨k - 1, by omega⟩
    rw [spec_Files.l0, if_pos (by omega), fl, ho]
    by_cases hb : (i : Int) ≤ bl
    · rw [if_neg (by omega), if_pos (by omega), if_pos hb, w64 (by omega)]
      have := spec_files (a := a) (b := b) (d := d) (e := e) (f := f) (g := g) (h := h) (bl := bl) ho hn m (i + 1) k t (acc ++ [t]) (by omega) (by omega) (by simp [ha])
      rw [show ((i : Int) + 1) = ((i + 1 : Nat) : Int) from rfl, this]
      simp
    · rw [if_pos (by omega), if_pos (by omega), if_neg hb, w64 (x := (i : Int) + 1) (by omega)]
      have := spec_files (a := a) (b := b) (d := d) (e := e) (f := f) (g := g) (h := h) (bl := bl) ho hn m (i + 1) k (wrap64 (t * c)) (acc ++ [wrap64 (t * c)]) (by omega) (by omega) (by simp [ha])
      rw [show ((i : Int) + 1) = ((i + 1 : Nat) : Int) from rfl, this]
      simp
theorem files_spec {ls : List (List S68)} {sz : List Int} {a b c d e f g h : Int} (hl : sz.length = ls.length) (h1 : 1 ≤ ls.length) (hn : ls.length ≤ 1000) {k : Nat} (hk : ls.length ≤ k) :
    spec_Files.f k ls a b c d e f g h (bl4 ⟨a, b, c, d, e, f, g, h⟩ sz) = some (files ⟨a, b, c, d, e, f, g, h⟩ sz) := by
  obtain ⟨m, hm⟩ : ∃ m, ls.length = m + 1 := ⟨ls.length - 1, by omega⟩
  have := spec_files (ls := ls) (a := a) (b := b) (c := c) (d := d) (e := e) (f := f) (g := g) (h := h) (bl := bl4 ⟨a, b, c, d, e, f, g, h⟩ sz) (o := ⟨a, b, c, d, e, f, g, h⟩) rfl hn m 1 k f [g] (by omega) (by omega) rfl
  rw [files_fl (m := m) (by omega)]
  exact this
/-! ### the wanted sizes -/
theorem w64_big {x : Int} (h : 0 ≤ x ∧ x ≤ 1000000000000000000) : wrap64 x = x := by
  unfold wrap64
  omega
theorem wanted_at {a b c d e f g h : Int} (hb : 2 ≤ b) : ∀ (i k : Nat) (bl : Int) (T : List Int) (db : Int), i + 1 ≤ k → i < T.length → T.length ≤ 1000 → 0 ≤ db → db ≤ 1000000000000000 →
    spec_Wanted.l0 k T db (i : Int) a b c d e f g h = some (lp1 ⟨a, b, c, d, e, f, g, h⟩ i bl T db).2
  | 0, k, bl, T, db, hk, hi, hT, h0, h1 => by
    obtain ⟨k, rfl⟩ : ∃ q, k = q + 1 := ⟨k - 1, by omega⟩
    rw [spec_Wanted.l0, if_neg (by omega)]
    rfl
  | i + 1, k, bl, T, db, hk, hi, hT, h0, h1 => by
    obtain ⟨k, rfl⟩ : ∃ q, k = q + 1 := ⟨k - 1, by omega⟩
    have hd := tdiv_in h0 hb
    rw [spec_Wanted.l0, if_pos (by omega), if_pos (by omega), if_pos (by omega), if_neg (by omega), lp1_step, w64 (x := ((i + 1 : Nat) : Int) - 1) (by omega), Int.tdiv_eq_ediv_of_nonneg h0, w64_big (by omega)]
    have e1 : ((i + 1 : Nat) : Int) - 1 = (i : Int) := by omega
    have e2 : ((i + 1 : Nat) : Int).toNat = i + 1 := by omega
    rw [e1, e2]
    exact wanted_at hb i k _ _ _ (by omega) (by rw [List.length_set]; omega) (by rw [List.length_set]; omega) hd.1 (by omega)
def sizeOf (l : List S68) : Int := (l.map (·.f5)).sum
theorem size_take {l : List S68} {j : Nat} (h : j < l.length) : sizeOf (l.take (j + 1)) = sizeOf (l.take j) + (rd_T68 l (j : Int)).f5 := by
  unfold sizeOf
  rw [List.take_succ_eq_append_getElem h, List.map_append, List.sum_append]
  simp [rd_T68, h]
theorem total_tb (l : List S68) : total (l.map tbOf) = sizeOf l := by
  unfold total sizeOf
  rw [List.map_map]
  rfl
theorem size_bd {l : List S68} (hin : ∀ t ∈ l, InTab t) : 0 ≤ sizeOf l ∧ sizeOf l ≤ 17179869184 * l.length := by
  have := total_bd (ts := l.map tbOf) (fun t ht => by
    obtain ⟨t0, h0, rfl⟩ := List.mem_map.1 ht
    exact (Bd.tb_ok (hin t0 h0)).2)
  rwa [total_tb, List.length_map] at this
theorem size_at {l : List S68} (hl : l.length ≤ 50000) (hin : ∀ t ∈ l, InTab t) : ∀ (m j k : Nat), j + m = l.length → m + 1 ≤ k → spec_Size.l0 k (sizeOf (l.take j)) l (l.length : Int) (j : Int) = some (sizeOf l)
  | 0, j, k, hj, hk => by
    obtain ⟨k, rfl⟩ : ∃ q, k = q + 1 := ⟨k - 1, by omega⟩
    rw [spec_Size.l0, if_neg (by omega), List.take_of_length_le (by omega)]
  | m + 1, j, k, hj, hk => by
    obtain ⟨k, rfl⟩ : ∃ q, k = q + 1 := ⟨k - 1, by omega⟩
    have hb := size_bd (l := l.take (j + 1)) (fun t ht => hin t (List.mem_of_mem_take ht))
    have hle := List.length_take_le (j + 1) l
    rw [size_take (by omega)] at hb
    rw [spec_Size.l0, if_pos (by omega), if_pos (by omega), if_pos (by omega), w64 (x := (j : Int) + 1) (by omega), w64_big ⟨hb.1, by omega⟩, ← size_take (by omega)]
    exact size_at hl hin m (j + 1) k (by omega) (by omega)
theorem size_spec {l : List S68} (hl : l.length ≤ 50000) (hin : ∀ t ∈ l, InTab t) {k : Nat} (hk : l.length + 1 ≤ k) : spec_Size.f k l = some (sizeOf l) := size_at hl hin l.length 0 k (by omega) hk
theorem wanted_spec {ls : List (List S68)} {a b c d e f g h : Int} (hb : 2 ≤ b) (h1 : 1 ≤ ls.length) (hn : ls.length ≤ 1000) (hlen : ∀ l ∈ ls, l.length ≤ 50000) (hin : ∀ l ∈ ls, ∀ t ∈ l, InTab t) {k : Nat} (hk : 60000 ≤ k) :
    spec_Wanted.f k ls a b c d e f g h = some (blT ⟨a, b, c, d, e, f, g, h⟩ ((ls.map (·.map tbOf)).map total)).2 := by
  obtain ⟨m, hm⟩ : ∃ m, ls.length = m + 1 := ⟨ls.length - 1, by omega⟩
  have hmem : rd_L3 ls (m : Int) ∈ ls := by unfold rd_L3; simp [show m < ls.length by omega]
  have e1 : wrap64 ((ls.length : Int) - 1) = (m : Int) := by rw [w64 (by omega)]; omega
  have hsz := size_spec (k := k) (hlen _ hmem) (hin _ hmem) (by have := hlen _ hmem; omega)
  have hbd := size_bd (hin _ hmem)
  have hle := hlen _ hmem
  have e3 : ((ls.map (·.map tbOf)).map total).getD m 0 = sizeOf (rd_L3 ls (m : Int)) := by
    unfold rd_L3
    simp [show m < ls.length by omega, total_tb]
  unfold spec_Wanted.f blT
  rw [if_pos (by omega), if_pos (by omega), e1, if_pos (by omega), if_pos (by omega), hsz, Option.bind_some]
  have hL : ((ls.map (·.map tbOf)).map total).length = m + 1 := by simp [hm]
  rw [hL, Nat.add_sub_cancel, e3, hm]
  have e4 : (((m + 1 : Nat) : Int)).toNat = m + 1 := by omega
  rw [e4]
  exact wanted_at hb m k 0 _ _ (by omega) (by simp) (by simp; omega) hbd.1 (by omega)
/-! ### level 0 is not looked at -/
theorem lp2_congr {sz sz2 : List Int} (hl : sz.length = sz2.length) (h : ∀ j, 1 ≤ j → sz.getD j 0 = sz2.getD j 0) : ∀ (k i : Nat) (bl : Int), 1 ≤ i → lp2 sz k i bl = lp2 sz2 k i bl
  | 0, _, _, _ => rfl
  | k + 1, i, bl, hi => by rw [lp2, lp2, hl, h i hi, lp2_congr hl h k (i + 1) _ (by omega)]
theorem lp3_congr {sz sz2 : List Int} (h : ∀ j, 1 ≤ j → sz.getD j 0 = sz2.getD j 0) : ∀ (k i : Nat) (bl : Int), 1 ≤ i → lp3 sz k i bl = lp3 sz2 k i bl
  | 0, _, _, _ => rfl
  | k + 1, i, bl, hi => by rw [lp3, lp3, h i hi, lp3_congr h k (i + 1) _ (by omega)]
theorem same_levels {o : Lm.Op} {sz sz2 : List Int} (hl : sz.length = sz2.length) (h2 : 2 ≤ sz.length) (h : ∀ j, 1 ≤ j → sz.getD j 0 = sz2.getD j 0) : bl4 o sz = bl4 o sz2 ∧ blT o sz = blT o sz2 ∧ files o sz = files o sz2 := by
  have e1 : blT o sz = blT o sz2 := by unfold blT; rw [hl, h _ (by omega)]
  have hr := blT_range o sz h2
  have e2 : bl2 o sz = bl2 o sz2 := by
    unfold bl2
    rw [← e1, lp2_congr hl h _ _ _ (by split <;> omega), hl]
  have hb := bl2_range o sz h2
  have e3 : bl3 o sz = bl3 o sz2 := by
    unfold bl3
    have hu : Tg.up o sz (blT o sz).2 (bl2 o sz) ↔ Tg.up o sz2 (blT o sz2).2 (bl2 o sz2) := by
      rw [← e1, ← e2]
      unfold Tg.up
      rw [hl, h (bl2 o sz).toNat (by omega), h ((bl2 o sz).toNat + 1) (by omega)]
    rw [← e2]
    by_cases q : Tg.up o sz (blT o sz).2 (bl2 o sz)
    · rw [if_pos q, if_pos (by rw [← e2] at hu; exact hu.1 q)]
    · rw [if_neg q, if_neg (fun q2 => q (by rw [← e2] at hu; exact hu.2 q2))]
  have e4 : bl4 o sz = bl4 o sz2 := by
    unfold bl4
    rw [e3, lp3_congr h _ _ _ (by omega), hl]
  exact ⟨e4, e1, by unfold files; rw [e4, hl]⟩
end Go.Proofs.YtnineoajmgneiaaGreat.Tl
namespace Go.Proofs.YtnineoajmgneiaaGreat.Rn
open Go.RowKit YtnineoajmgneiaaGreatW YtnineoajmgneiaaGreatW.PrintWords YtnineoajmgneiaaGreatW.PrintLast YtnineoajmgneiaaGreatW.PrintMore Fr L Ky Tm Lm It Tg
set_option linter.unusedVariables false
set_option linter.unusedSimpArgs false
theorem zero137 (w : World) : (zeroValue 137).run Tryz.prog w = .ok (.agg #[]) w := by kernel_rfl
theorem u119 : Tryz.prog.underlying 119 = some (.map 88 137) := Tryz.underlying119
theorem u88 : Tryz.prog.underlying 88 = some (.int .u64) := Tryz.underlying88
set_option maxHeartbeats 1000000 in
/-- Whether table number k runs: the entries' values are empty structs. -/
theorem running_calls {w : World} {lp sb mb ck : Nat} {es : List Ent} {k : Int} {r : Bool} (h0 : w.cell? ⟨lp, 0, none⟩ = some (ptr sb)) (h1 : w.cell? ⟨sb, 3, none⟩ = some (.map (some mb))) (hm : w.heap[mb]? = some (.map (rawM .u64 es) ck)) (hr : (lookE k es).isSome = r) (hv : ∀ v, lookE k es = some v → v = .agg #[]) :
    Calls Tryz.prog 67 #[.pointer (some ⟨lp, 0, none⟩), .int .u64 k] w fun e w' => e = .returned (.bool r) ∧ Below w.heap.size w w' := by
  have HE := Lib.hid (show (lookE k es).getD (.agg #[]) = .agg #[] by
    cases h : lookE k es with
    | none => rfl
    | some v => rw [hv v h]; rfl)
  have HR := Lib.hid hr
  have HM := Lib.hid hm
  simp only [ptr] at h0
  clear hr hm hv
  go_enter Tryz.func67, Tryz.ntmps67
  go_wp2_with (refine wpL_look_ok _ rfl (.tmp 15) (.tmp 16) rfl (.agg #[]) u119 u88 (zero137 _) rfl rfl HM.out ?_; rw [HE.out, HR.out])
  go_ret
  exact ⟨rfl, by repeat (first | exact Below.refl _ _ | apply below_alloc)⟩
set_option maxHeartbeats 1000000 in
theorem parseKey_calls {w : World} {b k c : Nat} (hk : k ≤ 100000000) (hc : k + 8 ≤ c) :
    Calls Tryz.prog 64 #[.slice (some ⟨b, 0, none⟩) (k + 8) c] w fun e w' => e = .returned (.slice (some ⟨b, 0, none⟩) k c) ∧ w = w' := by
  have d0 : decide ((k : Int) + 8 < 8) = false := decide_eq_false (by omega)
  go_enter Tryz.func64, Tryz.ntmps64
  go_wp2
  go_ret
  exact ⟨rfl, rfl⟩
end Go.Proofs.YtnineoajmgneiaaGreat.Rn
namespace Go.Proofs.YtnineoajmgneiaaGreat.Rg
open Go.RowKit YtnineoajmgneiaaGreatW YtnineoajmgneiaaGreatW.PrintWords YtnineoajmgneiaaGreatW.PrintLast YtnineoajmgneiaaGreatW.PrintMore Fr L Ky Tm Lm It
set_option linter.unusedVariables false
set_option linter.unusedSimpArgs false
def isE (n m : Nat) (inf : Bool) : Bool := n == 0 && (m == 0 && !inf)
set_option maxHeartbeats 2000000 in
theorem isEmpty_calls {w : World} {A B : Option Addr} {n c m d : Nat} {inf : Bool} {s : Int} :
    Calls Tryz.prog 107 #[.agg #[.slice A n c, .slice B m d, .bool inf, .int .i64 s]] w fun e w' => e = .returned (.bool (isE n m inf)) ∧ Below w.heap.size w w' := by
  cases n with
  | succ n =>
    have d0 : (((n : Int) + 1) == 0) = false := by simp; omega
    go_enter Tryz.func107, Tryz.ntmps107
    go_wp2
    go_ret
    exact ⟨by simp [isE], by repeat (first | exact Below.refl _ _ | apply below_alloc)⟩
  | zero =>
    cases m with
    | succ m =>
      have d0 : (((m : Int) + 1) == 0) = false := by simp; omega
      go_enter Tryz.func107, Tryz.ntmps107
      go_wp2
      go_ret
      exact ⟨by simp [isE], by repeat (first | exact Below.refl _ _ | apply below_alloc)⟩
    | zero =>
      cases inf with
      | true =>
        go_enter Tryz.func107, Tryz.ntmps107
        go_wp2
        go_ret
        exact ⟨by simp [isE], by repeat (first | exact Below.refl _ _ | apply below_alloc)⟩
      | false =>
        go_enter Tryz.func107, Tryz.ntmps107
        go_wp2
        go_ret
        exact ⟨by simp [isE], by repeat (first | exact Below.refl _ _ | apply below_alloc)⟩
end Go.Proofs.YtnineoajmgneiaaGreat.Rg
namespace Go.Proofs.YtnineoajmgneiaaGreat.Rg
open Go.RowKit YtnineoajmgneiaaGreatW YtnineoajmgneiaaGreatW.PrintWords YtnineoajmgneiaaGreatW.PrintLast YtnineoajmgneiaaGreatW.PrintMore Fr L Ky Tm Lm It
set_option linter.unusedVariables false
set_option linter.unusedSimpArgs false
def ovG (e1 e2 i1 i2 : Bool) (x y : Int) : Bool := if e1 then true else if e2 then false else if i1 || i2 then true else if 0 < x then false else if y < 0 then false else true
set_option maxRecDepth 100000 in
set_option maxHeartbeats 4000000 in
theorem ov_calls {w : World} {A B A2 B2 : Option Addr} {n c m d n2 c2 m2 d2 : Nat} {i i2 : Bool} {s s2 x y : Int} {e1 e2 : Bool} (h1 : isE n m i = e1) (h2 : isE n2 m2 i2 = e2)
    (K1 : e1 = false → e2 = false → i = false → i2 = false → ∀ W, Below w.heap.size w W → Calls Tryz.prog 112 #[.slice A n c, .slice B2 m2 d2] W fun e w' => e = .returned (.int .i64 x) ∧ ∃ q, w' = W.drewN q)
    (K2 : e1 = false → e2 = false → i = false → i2 = false → ∀ W, Below w.heap.size w W → Calls Tryz.prog 112 #[.slice B m d, .slice A2 n2 c2] W fun e w' => e = .returned (.int .i64 y) ∧ ∃ q, w' = W.drewN q) :
    Calls Tryz.prog 119 #[.agg #[.slice A n c, .slice B m d, .bool i, .int .i64 s], .agg #[.slice A2 n2 c2, .slice B2 m2 d2, .bool i2, .int .i64 s2]] w fun e w' => e = .returned (.bool (ovG e1 e2 i i2 x y)) ∧ Below w.heap.size w w' := by
  have HK1 := Lib.hid K1
  have HK2 := Lib.hid K2
  have E1 := Lib.hid (fun W => (isEmpty_calls (w := W) (A := A) (B := B) (n := n) (c := c) (m := m) (d := d) (inf := i) (s := s)))
  have E2 := Lib.hid (fun W => (isEmpty_calls (w := W) (A := A2) (B := B2) (n := n2) (c := c2) (m := m2) (d := d2) (inf := i2) (s := s2)))
  rw [h1] at E1
  rw [h2] at E2
  clear K1 K2 h1 h2
  go_enter Tryz.func119, Tryz.ntmps119
  go_upto_region 1 with (fail)
  obtain ⟨w1, hw1⟩ : ∃ w1, w1 = (w.alloc (.cells #[.slice A n c, .slice B m d, .bool i, .int .i64 s] 126)).alloc (.cells #[.slice A2 n2 c2, .slice B2 m2 d2, .bool i2, .int .i64 s2] 126) := ⟨_, rfl⟩
  rw [← hw1]
  obtain ⟨b2, hb2⟩ : ∃ b, b = w.heap.size := ⟨_, rfl⟩
  obtain ⟨b3, hb3⟩ : ∃ b, b = b2 + 1 := ⟨_, rfl⟩
  rw [← hb2, ← hb3]
  have HB := Lib.hid (show Below w.heap.size w w1 by rw [hw1]; exact below_alloc (below_alloc (Below.refl _ _) _) _)
  have X2 := Lib.hid (show w1.heap[b2]? = some (.cells #[.slice A n c, .slice B m d, .bool i, .int .i64 s] 126 (0, 0)) by rw [hw1, hb2]; exact up1 (blk_new w _))
  have X3 := Lib.hid (show w1.heap[b3]? = some (.cells #[.slice A2 n2 c2, .slice B2 m2 d2, .bool i2, .int .i64 s2] 126 (0, 0)) by
    rw [hw1, hb3, hb2, ← Nw.szA w (.cells #[.slice A n c, .slice B m d, .bool i, .int .i64 s] 126)]; exact blk_new _ _)
  clear hw1 hb2 hb3
  have p0 := blk_cell X2.out 0
  have p1 := blk_cell X2.out 1
  have p2 := blk_cell X2.out 2
  have p3 := blk_cell X2.out 3
  go_wp2_with fail
  refine (E1.out _).mono ?_
  rintro e w2 ⟨rfl, hb⟩
  have HB2 := Lib.hid (below_step HB.out hb)
  have X22 := Lib.hid ((hb.block _ (blk_lt X2.out)).trans X2.out)
  have X32 := Lib.hid ((hb.block _ (blk_lt X3.out)).trans X3.out)
  clear hb p0 p1 p2 p3
  cases e1 with
  | true =>
    go_wp2_with fail
    go_ret
    exact ⟨by simp [ovG], HB2.out⟩
  | false =>
    have p0 := blk_cell X32.out 0
    have p1 := blk_cell X32.out 1
    have p2 := blk_cell X32.out 2
    have p3 := blk_cell X32.out 3
    go_wp2_with fail
    refine (E2.out _).mono ?_
    rintro e w3 ⟨rfl, hb⟩
    have HB3 := Lib.hid (below_step HB2.out hb)
    have X23 := Lib.hid ((hb.block _ (blk_lt X22.out)).trans X22.out)
    have X33 := Lib.hid ((hb.block _ (blk_lt X32.out)).trans X32.out)
    clear hb p0 p1 p2 p3
    cases e2 with
    | true =>
      go_wp2_with fail
      go_ret
      exact ⟨by simp [ovG], HB3.out⟩
    | false =>
      have p0 := blk_cell X23.out 0
      have p1 := blk_cell X23.out 1
      have p2 := blk_cell X23.out 2
      have q0 := blk_cell X33.out 0
      have q1 := blk_cell X33.out 1
      have q2 := blk_cell X33.out 2
      cases i with
      | true =>
        go_wp2_with fail
        go_ret
        exact ⟨by simp [ovG], HB3.out⟩
      | false =>
        cases i2 with
        | true =>
          go_wp2_with fail
          go_ret
          exact ⟨by simp [ovG], HB3.out⟩
        | false =>
          have K := Lib.hid (HK1.out (by trivial) (by trivial) (by trivial) (by trivial) w3 HB3.out)
          go_wp2_with fail
          refine K.out.mono ?_
          rintro e w4 ⟨rfl, nq, rfl⟩
          have HB4 := Lib.hid (pw_below_drewN HB3.out nq)
          have K4 := Lib.hid (HK2.out (by trivial) (by trivial) (by trivial) (by trivial) (w3.drewN nq) HB4.out)
          by_cases hx : 0 < x
          · have g := decide_eq_true hx
            have HX := Lib.hid hx
            clear hx
            go_wp2_with fail
            go_ret
            exact ⟨by simp [ovG, HX.out], HB4.out⟩
          · have g := decide_eq_false hx
            have HX := Lib.hid hx
            clear hx
            go_wp2_with fail
            refine K4.out.mono ?_
            rintro e w5 ⟨rfl, nq2, rfl⟩
            have HB5 := Lib.hid (show Below w.heap.size w (w3.drewN (nq + nq2)) from pw_below_drewN HB3.out (nq + nq2))
            by_cases hy : y < 0
            · have g2 := decide_eq_true hy
              have HY := Lib.hid hy
              clear hy
              go_wp2_with fail
              go_ret
              exact ⟨by simp [ovG, HX.out, HY.out], HB5.out⟩
            · have g2 := decide_eq_false hy
              have HY := Lib.hid hy
              clear hy
              go_wp2_with fail
              go_ret
              exact ⟨by simp [ovG, HX.out, HY.out], HB5.out⟩
end Go.Proofs.YtnineoajmgneiaaGreat.Rg
namespace Go.Proofs.YtnineoajmgneiaaGreat.Rg
open Go.RowKit YtnineoajmgneiaaGreatW YtnineoajmgneiaaGreatW.PrintWords YtnineoajmgneiaaGreatW.PrintLast YtnineoajmgneiaaGreatW.PrintMore Fr L Ky Tm Lm It
set_option linter.unusedVariables false
set_option linter.unusedSimpArgs false
end Go.Proofs.YtnineoajmgneiaaGreat.Rg
namespace Go.Proofs.YtnineoajmgneiaaGreat.Rg
open Go.RowKit YtnineoajmgneiaaGreatW YtnineoajmgneiaaGreatW.PrintWords YtnineoajmgneiaaGreatW.PrintLast YtnineoajmgneiaaGreatW.PrintMore Fr L Ky Tm Lm It
set_option linter.unusedVariables false
set_option linter.unusedSimpArgs false
end Go.Proofs.YtnineoajmgneiaaGreat.Rg
namespace Go.Proofs.YtnineoajmgneiaaGreat.Rg
open Go.RowKit YtnineoajmgneiaaGreatW YtnineoajmgneiaaGreatW.PrintWords YtnineoajmgneiaaGreatW.PrintLast YtnineoajmgneiaaGreatW.PrintMore Fr L Ky Tm Lm It
set_option linter.unusedVariables false
set_option linter.unusedSimpArgs false
theorem num_calls {w : World} {hp n c : Nat} {A : Option Addr} (h : w.cell? ⟨hp, 0, none⟩ = some (.slice A n c)) : Calls Tryz.prog 85 #[.pointer (some ⟨hp, 0, none⟩)] w fun e w' => e = .returned (.int .i64 (n : Int)) ∧ w = w' := by
  go_enter Tryz.func85, Tryz.ntmps85
  go_wp2
  go_ret
  exact ⟨rfl, rfl⟩
theorem delSize_calls {w : World} {sb g n c i p : Nat} {x : Int} (h0 : w.cell? ⟨sb, 2, none⟩ = some (.slice (some ⟨g, 0, none⟩) n c)) (hi : i < n) (h1 : w.cell? ⟨g, i, none⟩ = some (ptr p)) (h2 : w.cell? ⟨p, 1, none⟩ = some (.int .i64 x)) :
    Calls Tryz.prog 86 #[.pointer (some ⟨sb, 2, none⟩), .int .i64 (i : Int)] w fun e w' => e = .returned (.int .i64 x) ∧ w = w' := by
  simp only [ptr] at h1
  go_enter Tryz.func86, Tryz.ntmps86
  go_wp2
  go_ret
  exact ⟨rfl, rfl⟩
end Go.Proofs.YtnineoajmgneiaaGreat.Rg
namespace Go.Proofs.YtnineoajmgneiaaGreat.Rg
open Go.RowKit YtnineoajmgneiaaGreatW YtnineoajmgneiaaGreatW.PrintWords YtnineoajmgneiaaGreatW.PrintLast YtnineoajmgneiaaGreatW.PrintMore Fr L Ky Tm Lm It
set_option linter.unusedVariables false
set_option linter.unusedSimpArgs false
theorem info88 : (Tryz.prog.info? 88).map (fun i => (i.zero, i.size, i.bytes)) = some (some (.int .u64 0), 1, 8) := by kernel_rfl
/-- A row of table pointers, read cell by cell, with the numbers behind them. -/
def NumRow (w : World) (A : Option Addr) (ks : List Int) : Prop := ∀ j, j < ks.length → ∃ b p, A = some ⟨b, 0, none⟩ ∧ w.cell? ⟨b, j, none⟩ = some (ptr p) ∧ w.cell? ⟨p, 0, none⟩ = some (.int .u64 (ks.getD j 0))
theorem NumRow.below {w w1 : World} {A : Option Addr} {ks : List Int} (h : NumRow w A ks) (hb : Below w.heap.size w w1) : NumRow w1 A ks := fun j hj => by
  obtain ⟨b, p, e, h1, h2⟩ := h j hj
  exact ⟨b, p, e, (hb.cell (World.block_lt_of_cell? w _ h1)).trans h1, (hb.cell (World.block_lt_of_cell? w _ h2)).trans h2⟩
def NumPost (w : World) (ks : List Int) (e : Ending) (w' : World) : Prop := ∃ v, e = .returned v ∧ Kd.R (Kd.int .u64) 88 w' w.heap.size (fun _ => True) v ks ∧ Below w.heap.size w w'
set_option maxRecDepth 100000 in
set_option maxHeartbeats 4000000 in
theorem numbers_calls {w : World} {A : Option Addr} {c : Nat} {ks : List Int} (h : NumRow w A ks) (hn : ks.length ≤ 200000) : Calls Tryz.prog 76 #[.slice A ks.length c] w (NumPost w ks) := by
  have H0 := Lib.hid h
  clear h
  go_enter Tryz.func76, Tryz.ntmps76
  go_wp2_with (first | ((with_reducible refine gate_dst (N := 6) rfl ?_); refine Kd.R_lit (Kd.int .u64) (w0 := w) w.heap.size 88 ?hg (N := 6) ?hd (xs := ([] : List Int)) (inner := []) (ok := fun _ => True) (okp := fun _ => True) ?hr ?hp (fun _ hk => hk) trivial (Below.refl _ _) (Nat.le_refl _) (by simp) ?_; (case hd => rfl); (case hg => rfl); (case hr => first | (go_simp; done) | (go_simp; rfl)); (case hp => exact (Reps.none _ _)); intro v5 w2 ho hb hg_ hnew_; have HR2 := Lib.hid ho; have HB2 := Lib.hid hb; clear hg_ hnew_ ho hb))
  go_loopg [3, 9] ks.length (fun kq v3 v9 wr => ∃ j : Nat, v9 = .int .i64 (j : Int) ∧ Aside0 (j + kq = ks.length ∧ Kd.R (Kd.int .u64) 88 wr w.heap.size (fun _ => True) v3 (ks.take j) ∧ Below w.heap.size w wr))
  case atStart => exact ⟨0, rfl, ⟨by omega, by simpa using HR2.out, HB2.out⟩⟩
  case round =>
    clear HR2 HB2
    obtain ⟨j, rfl, HQ⟩ := hrel
    have HJ := Lib.hid HQ.out.1
    have HR := Lib.hid HQ.out.2.1
    have HB := Lib.hid HQ.out.2.2
    clear HQ
    by_cases hj : j < ks.length
    · have d1 : decide ((j : Int) < (ks.length : Int)) = true := decide_eq_true (by omega)
      obtain ⟨b, p, e, k1, k2⟩ := H0.out.below HB.out j hj
      subst e
      simp only [ptr] at k1
      have HGK := Lib.hid (show gk - 1 < gk ∧ j + 1 + (gk - 1) = ks.length by have := HJ.out; omega)
      have HTK := Lib.hid (show ks.take (j + 1) = ks.take j ++ [ks.getD j 0] by rw [List.take_succ_eq_append_getElem hj]; simp [hj])
      have HL := Lib.hid (show (ks.take j).length ≤ 200000 by rw [List.length_take]; omega)
      have K := Lib.hid (id_calls (w := wr) (p := p) k2)
      clear HJ k2
      generalize ks.getD j 0 = q at *
      go_wp2_with (first | (go_at_call 104; refine K.out.mono ?_; rintro e w' ⟨rfl, rfl⟩) | ((with_reducible refine gate_builtin (b := .append) (xs := #[.tmp 13, .tmp 16]) rfl ?_); at_builtin; refine Kd.R_append (Kd.int .u64) (w0 := w) w.heap.size rfl (.tmp 13) (.tmp 16) 80 88 (.int .u64 0) 8 rfl Tryz.underlying80 info88 rfl (by decide) (by omega) _ (ks.take j) q [.int .u64 q] (fun _ => True) (fun _ => False) rfl rfl ?aP (fun _ hk => hk.elim) ?aF ?aO ?aB ?aS ?aL ?_; (case aP => exact rfl); (case aB => exact HB.out); (case aF => exact (fun _ _ => trivial)); (case aO => exact HR.out); (case aS => exact below_size HB.out); (case aL => have := HL.out; omega); intro v7 w7 ho hb hg hat; have HR7 := Lib.hid ho; have HB7 := Lib.hid hb; clear ho hb hg hat))
      go_roundg (gk - 1)
      case measure => exact HGK.out.1
      case rel => exact ⟨j + 1, rfl, ⟨HGK.out.2, by rw [HTK.out]; exact HR7.out, HB7.out⟩⟩
    · have d1 : decide ((j : Int) < (ks.length : Int)) = false := decide_eq_false (by omega)
      have HE := Lib.hid (show NumPost w ks (.returned u3) wr from ⟨u3, rfl, by have h := HR.out; rwa [List.take_of_length_le (by omega)] at h, HB.out⟩)
      go_wp2_with fail
      go_ret
      exact HE.out
end Go.Proofs.YtnineoajmgneiaaGreat.Rg
namespace Go.Proofs.YtnineoajmgneiaaGreat.Rg
open Go.RowKit YtnineoajmgneiaaGreatW YtnineoajmgneiaaGreatW.PrintWords YtnineoajmgneiaaGreatW.PrintLast YtnineoajmgneiaaGreatW.PrintMore Fr L Ky Tm Lm It
set_option linter.unusedVariables false
set_option linter.unusedSimpArgs false
/-- A range: the least and the greatest key; all keys. -/
structure Rg where
  lo : List UInt8
  hi : List UInt8
  inf : Bool
def rE : Rg := ⟨[], [], false⟩
def rI : Rg := ⟨[], [], true⟩
/-- A key's slice: no block, or a block of its own. -/
def KB (w : World) (ok : Nat → Prop) (A : Option Addr) (x : List UInt8) : Prop := (x = [] ∧ A = none) ∨ ∃ b, A = some ⟨b, 0, none⟩ ∧ w.heap[b]? = some (keyO x) ∧ ok b
def rgC (A B : Option Addr) (r : Rg) : List Value := [.slice A r.lo.length r.lo.length, .slice B r.hi.length r.hi.length, .bool r.inf, .int .i64 0]
def RgK (w : World) (ok : Nat → Prop) (r : Rg) (cs : List Value) : Prop := ∃ A B, cs = rgC A B r ∧ KB w ok A r.lo ∧ KB w ok B r.hi
theorem KB.mono {w : World} {ok ok' : Nat → Prop} {A : Option Addr} {x : List UInt8} (h : KB w ok A x) (hk : ∀ b, ok b → b < w.heap.size → w.heap[b]? = some (keyO x) → ok' b) : KB w ok' A x := by
  rcases h with h | ⟨b, e, h1, h2⟩
  · exact .inl h
  · exact .inr ⟨b, e, h1, hk b h2 (blk_lt h1) h1⟩
theorem KB.move {w w1 : World} {ok : Nat → Prop} {A : Option Addr} {x : List UInt8} (h : KB w ok A x) (hk : ∀ b, ok b → b < w.heap.size → w1.heap[b]? = w.heap[b]?) : KB w1 ok A x := by
  rcases h with h | ⟨b, e, h1, h2⟩
  · exact .inl h
  · exact .inr ⟨b, e, (hk b h2 (blk_lt h1)).trans h1, h2⟩
theorem RgK.mono {w : World} {ok ok' : Nat → Prop} {r : Rg} {cs : List Value} (h : RgK w ok r cs) (hk : ∀ b, ok b → b < w.heap.size → (∃ x, w.heap[b]? = some (keyO x)) → ok' b) : RgK w ok' r cs := by
  obtain ⟨A, B, e, h1, h2⟩ := h
  exact ⟨A, B, e, h1.mono (fun b k l m => hk b k l ⟨_, m⟩), h2.mono (fun b k l m => hk b k l ⟨_, m⟩)⟩
theorem RgK.move {w w1 : World} {ok : Nat → Prop} {r : Rg} {cs : List Value} (h : RgK w ok r cs) (hk : ∀ b, ok b → b < w.heap.size → w1.heap[b]? = w.heap[b]?) : RgK w1 ok r cs := by
  obtain ⟨A, B, e, h1, h2⟩ := h
  exact ⟨A, B, e, h1.move hk, h2.move hk⟩
theorem RgK.below {w w1 : World} {ok : Nat → Prop} {r : Rg} {cs : List Value} (h : RgK w ok r cs) (hb : Below w.heap.size w w1) : RgK w1 ok r cs := h.move (fun b _ hl => hb.block b hl)
/-- Ranges in a row. -/
def kR : Kd Rg where
  sz := 4
  E := [5]
  K := fun w r cs => RgK w (fun _ => True) r cs
  M := fun w base ok r cs => RgK w ok r cs ∧ RgK w (fun k => base ≤ k) r cs
  K_len := fun ⟨_, _, h, _⟩ => by rw [h]; rfl
  K_one := fun ⟨_, _, h, _⟩ => by
    rw [h]
    intro u hu
    simp only [rgC, List.mem_cons, List.not_mem_nil, or_false] at hu
    rcases hu with h | h | h | h <;> rw [h] <;> rfl
  K_below := fun hb h => h.below hb
  K_of_M := fun h => h.1.mono (fun _ _ _ _ => trivial)
  M_mono := fun hk h => ⟨h.1.mono (fun b q _ _ => hk b q), h.2⟩
  M_bound := fun {w base ok r cs} h => by
    obtain ⟨⟨A, B, e, h1, h2⟩, A', B', e', k1, k2⟩ := h
    rw [e] at e'
    simp only [rgC, List.cons.injEq, Value.slice.injEq, and_true, true_and] at e'
    obtain ⟨rfl, rfl⟩ := e'
    have key : ∀ {A : Option Addr} {x : List UInt8}, KB w ok A x → KB w (fun k => base ≤ k) A x → KB w (fun k => ok k ∧ base ≤ k ∧ k < w.heap.size ∧ ∃ q, q ∈ [5] ∧ ∃ cells, w.heap[k]? = some (.cells cells q (0, 0))) A x := by
      intro A x a b
      rcases a with a | ⟨g, ea, ha, oa⟩
      · exact .inl a
      · rcases b with b | ⟨g', eb, hb, ob⟩
        · rw [b.2] at ea; cases ea
        · rw [ea] at eb
          injection eb with eb
          injection eb with eb
          subst eb
          exact .inr ⟨g, ea, ha, oa, ob, blk_lt ha, 5, List.mem_singleton.2 rfl, _, ha⟩
    exact ⟨⟨A, B, e, key h1 k1, key h2 k2⟩, A, B, e, k1, k2⟩
  M_move := fun {w w1 base ok r cs} hk h => by
    obtain ⟨⟨A, B, e, h1, h2⟩, A', B', e', k1, k2⟩ := h
    rw [e] at e'
    simp only [rgC, List.cons.injEq, Value.slice.injEq, and_true, true_and] at e'
    obtain ⟨rfl, rfl⟩ := e'
    have key : ∀ {A : Option Addr} {x : List UInt8}, KB w ok A x → KB w (fun k => base ≤ k) A x → KB w1 (fun k => base ≤ k) A x := by
      intro A x a b
      rcases a with a | ⟨g, ea, ha, oa⟩
      · exact .inl a
      · rcases b with b | ⟨g', eb, hb, ob⟩
        · exact .inl b
        · rw [ea] at eb
          injection eb with eb
          injection eb with eb
          subst eb
          exact .inr ⟨g, ea, (hk g oa).trans ha, ob⟩
    exact ⟨⟨A, B, e, h1.move (fun b q _ => hk b q), h2.move (fun b q _ => hk b q)⟩, A, B, e, key h1 k1, key h2 k2⟩
  M_lower := fun hb h => ⟨h.1, h.2.mono (fun b q _ _ => Nat.le_trans hb q)⟩
/-! ### plain -/
/-- A range that is none, all, or from a key to another one. -/
def RgOk (r : Rg) : Prop := (r.lo = [] ∧ r.hi = []) ∨ ((8 ≤ r.lo.length ∧ r.lo.length ≤ 100000100) ∧ 8 ≤ r.hi.length ∧ r.hi.length ≤ 100000100)
def emptyR (r : Rg) : Bool := isE r.lo.length r.hi.length r.inf
def ovR (r d : Rg) : Bool := ovG (emptyR r) (emptyR d) r.inf d.inf (cmpK r.lo d.hi) (cmpK r.hi d.lo)
/-- A key without its version. -/
def uk (x : List UInt8) : List UInt8 := x.take (x.length - 8)
def loK (c : List UInt8) : List Tb → List UInt8
  | [] => c
  | t :: ts => loK (if cmpK t.small c < 0 then t.small else c) ts
def hiK (c : List UInt8) : List Tb → List UInt8
  | [] => c
  | t :: ts => hiK (if 0 < cmpK t.big c then t.big else c) ts
def z8 : List UInt8 := be64b 0
def f8 : List UInt8 := be64b 18446744073709551615
/-- The range of tables: all versions of its least and its greatest key. -/
def rgOf : List Tb → Rg
  | [] => rE
  | t :: ts => ⟨uk (loK t.small ts) ++ z8, uk (hiK t.big ts) ++ f8, false⟩
def loE (r k : Rg) : List UInt8 := if r.lo.length = 0 ∨ cmpK k.lo r.lo < 0 then k.lo else r.lo
def hiE (r k : Rg) : List UInt8 := if r.hi.length = 0 ∨ 0 < cmpK k.hi r.hi then k.hi else r.hi
def extR (r k : Rg) : Rg :=
  if emptyR k then r else
  let r1 := if emptyR r then k else r
  ⟨loE r1 k, hiE r1 k, k.inf || r1.inf⟩
theorem loK_mem : ∀ (ts : List Tb) (c : List UInt8), loK c ts = c ∨ ∃ t ∈ ts, loK c ts = t.small
  | [], c => .inl rfl
  | t :: ts, c => by
    unfold loK
    rcases loK_mem ts (if cmpK t.small c < 0 then t.small else c) with h | ⟨u, hu, h⟩
    · rw [h]
      split
      · exact .inr ⟨t, List.mem_cons_self, rfl⟩
      · exact .inl rfl
    · exact .inr ⟨u, List.mem_cons_of_mem _ hu, h⟩
theorem hiK_mem : ∀ (ts : List Tb) (c : List UInt8), hiK c ts = c ∨ ∃ t ∈ ts, hiK c ts = t.big
  | [], c => .inl rfl
  | t :: ts, c => by
    unfold hiK
    rcases hiK_mem ts (if 0 < cmpK t.big c then t.big else c) with h | ⟨u, hu, h⟩
    · rw [h]
      split
      · exact .inr ⟨t, List.mem_cons_self, rfl⟩
      · exact .inl rfl
    · exact .inr ⟨u, List.mem_cons_of_mem _ hu, h⟩
theorem uk_len (x : List UInt8) : (uk x).length = x.length - 8 := by simp [uk]
theorem z8_len : z8.length = 8 := rfl
theorem f8_len : f8.length = 8 := rfl
/-- Lengths that a table's keys have. -/
def KLen (t : Tb) : Prop := (8 ≤ t.small.length ∧ t.small.length ≤ 100000000) ∧ 8 ≤ t.big.length ∧ t.big.length ≤ 100000000
theorem lo_len {t : Tb} {ts : List Tb} (h : ∀ u ∈ t :: ts, KLen u) : 8 ≤ (loK t.small ts).length ∧ (loK t.small ts).length ≤ 100000000 := by
  rcases loK_mem ts t.small with e | ⟨u, hu, e⟩
  · rw [e]; exact (h t List.mem_cons_self).1
  · rw [e]; exact (h u (List.mem_cons_of_mem _ hu)).1
theorem hi_len {t : Tb} {ts : List Tb} (h : ∀ u ∈ t :: ts, KLen u) : 8 ≤ (hiK t.big ts).length ∧ (hiK t.big ts).length ≤ 100000000 := by
  rcases hiK_mem ts t.big with e | ⟨u, hu, e⟩
  · rw [e]; exact (h t List.mem_cons_self).2
  · rw [e]; exact (h u (List.mem_cons_of_mem _ hu)).2
theorem rgOf_ok {ts : List Tb} (h : ∀ u ∈ ts, KLen u) : RgOk (rgOf ts) := by
  cases ts with
  | nil => exact .inl ⟨rfl, rfl⟩
  | cons t ts =>
    have a := lo_len h
    have b := hi_len h
    refine .inr ⟨?_, ?_⟩
    · simp only [rgOf, List.length_append, uk_len, z8_len]; omega
    · simp only [rgOf, List.length_append, uk_len, f8_len]; omega
theorem ext_ok {r k : Rg} (hr : RgOk r) (hk : RgOk k) (hki : emptyR k = false → k.inf = false) : RgOk (extR r k) := by
  unfold extR
  cases he : emptyR k with
  | true => exact hr
  | false =>
    have hk2 : (8 ≤ k.lo.length ∧ k.lo.length ≤ 100000100) ∧ 8 ≤ k.hi.length ∧ k.hi.length ≤ 100000100 := by
      rcases hk with ⟨h1, h2⟩ | h
      · have hi := hki he
        simp [emptyR, isE, h1, h2, hi] at he
      · exact h
    have key : ∀ r1 : Rg, RgOk r1 → RgOk ⟨loE r1 k, hiE r1 k, k.inf || r1.inf⟩ := by
      intro r1 h1
      refine .inr ⟨?_, ?_⟩
      · show 8 ≤ (loE r1 k).length ∧ (loE r1 k).length ≤ _
        unfold loE
        split
        · exact hk2.1
        · rename_i hn
          rcases h1 with h2 | h2
          · exact absurd (.inl (by rw [h2.1]; rfl)) hn
          · exact h2.1
      · show 8 ≤ (hiE r1 k).length ∧ (hiE r1 k).length ≤ _
        unfold hiE
        split
        · exact hk2.2
        · rename_i hn
          rcases h1 with h2 | h2
          · exact absurd (.inl (by rw [h2.2]; rfl)) hn
          · exact h2.2
    cases emptyR r with
    | true => exact key k hk
    | false => exact key r hr
/-- A row of table pointers, read cell by cell, with the tables behind them. -/
def TRow (w : World) (A : Option Addr) (ts : List Tb) : Prop := ∀ j, j < ts.length → ∃ b p, A = some ⟨b, 0, none⟩ ∧ w.cell? ⟨b, j, none⟩ = some (ptr p) ∧ Ls.TabH w p (Ls.tAt ts j)
theorem TRow.below {w w1 : World} {A : Option Addr} {ts : List Tb} (h : TRow w A ts) (hb : Below w.heap.size w w1) : TRow w1 A ts := fun j hj => by
  obtain ⟨b, p, e, h1, h2⟩ := h j hj
  exact ⟨b, p, e, (hb.cell (World.block_lt_of_cell? w _ h1)).trans h1, Nw.tab_below hb h2⟩
end Go.Proofs.YtnineoajmgneiaaGreat.Rg
namespace Go.Proofs.YtnineoajmgneiaaGreat.Rg
open Go.RowKit YtnineoajmgneiaaGreatW YtnineoajmgneiaaGreatW.PrintWords YtnineoajmgneiaaGreatW.PrintLast YtnineoajmgneiaaGreatW.PrintMore Fr L Ky Tm Lm It
set_option linter.unusedVariables false
set_option linter.unusedSimpArgs false
def RgPost (w : World) (r : Rg) (e : Ending) (w' : World) : Prop := ∃ A B, e = .returned (.agg (rgC A B r).toArray) ∧ KB w' (fun k => w.heap.size ≤ k) A r.lo ∧ KB w' (fun k => w.heap.size ≤ k) B r.hi ∧ Below w.heap.size w w'
theorem tab_keys {w : World} {p : Nat} {t : Tb} (h : Ls.TabH w p t) : ∃ b c, w.cell? ⟨p, 1, none⟩ = some (.slice (some ⟨b, 0, none⟩) t.small.length t.small.length) ∧ w.cell? ⟨p, 2, none⟩ = some (.slice (some ⟨c, 0, none⟩) t.big.length t.big.length) ∧ w.heap[b]? = some (keyO t.small) ∧ w.heap[c]? = some (keyO t.big) := by
 obtain ⟨b, c, h1, h2, h3⟩ := h
 exact ⟨b, c, blk_cell h1 1, blk_cell h1 2, h2, h3⟩
/-- What the loop keeps of the least and the greatest key up to now. -/
structure KrI (w : World) (ts : List Tb) (lo hi : List UInt8) (i b c n m : Nat) (x y : List UInt8) (wr : World) : Prop where
 one : 1 ≤ i ∧ i ≤ ts.length
 lx : x.length = n + 8 ∧ n ≤ 99999992
 ly : y.length = m + 8 ∧ m ≤ 99999992
 el : loK x (ts.drop i) = lo
 eh : hiK y (ts.drop i) = hi
 hx : wr.heap[b]? = some (keyO x)
 hy : wr.heap[c]? = some (keyO y)
 bel : Below w.heap.size w wr
theorem drop_at {ts : List Tb} {i : Nat} (h : i < ts.length) : ts.drop i = Ls.tAt ts i :: ts.drop (i + 1) := by
 rw [List.drop_eq_getElem_cons h]; simp [Ls.tAt, h]
theorem KrI.next {w : World} {ts : List Tb} {lo hi : List UInt8} {i b c n m : Nat} {x y : List UInt8} {wr : World} (h : KrI w ts lo hi i b c n m x y wr) {t : Tb} (hd : ts.drop i = t :: ts.drop (i + 1)) (hj : i < ts.length) {b' c' n' m' : Nat} {x' y' : List UInt8} (q : Nat)
  (ex : x' = if cmpK t.small x < 0 then t.small else x) (lx : x'.length = n' + 8 ∧ n' ≤ 99999992) (hx : wr.heap[b']? = some (keyO x')) (ey : y' = if 0 < cmpK t.big y then t.big else y) (ly : y'.length = m' + 8 ∧ m' ≤ 99999992) (hy : wr.heap[c']? = some (keyO y')) : KrI w ts lo hi (i + 1) b' c' n' m' x' y' (wr.drewN q) :=
 ⟨⟨by omega, by omega⟩, lx, ly, by have := h.el; rw [hd] at this; rw [ex]; exact this, by have := h.eh; rw [hd] at this; rw [ey]; exact this, hx, hy, pw_below_drewN h.bel q⟩
theorem at_key0 {w : World} {b : Nat} {x : List UInt8} (h : w.heap[b]? = some (keyO x)) : At w ⟨b, 0, none⟩ (uk x) := key_low h
/-- A result's four cells filled. -/
theorem four_set {w : World} {rb : Nat} {x0 x1 x2 x3 u0 u1 u2 u3 : Value} {t : Nat} (h : w.heap[rb]? = some (.cells #[x0, x1, x2, x3] t (0, 0))) :
  ((((w.setCell ⟨rb, 0, none⟩ u0).setCell ⟨rb, 1, none⟩ u1).setCell ⟨rb, 2, none⟩ u2).setCell ⟨rb, 3, none⟩ u3).heap[rb]? = some (.cells #[u0, u1, u2, u3] t (0, 0)) ∧ (∀ b, b ≠ rb → ((((w.setCell ⟨rb, 0, none⟩ u0).setCell ⟨rb, 1, none⟩ u1).setCell ⟨rb, 2, none⟩ u2).setCell ⟨rb, 3, none⟩ u3).heap[b]? = w.heap[b]?) ∧
  ∀ {w0 : World}, Below w0.heap.size w0 w → w0.heap.size ≤ rb → Below w0.heap.size w0 ((((w.setCell ⟨rb, 0, none⟩ u0).setCell ⟨rb, 1, none⟩ u1).setCell ⟨rb, 2, none⟩ u2).setCell ⟨rb, 3, none⟩ u3) := by
 refine ⟨?_, fun b hb => ?_, fun h hB => ?_⟩
 ·have h0 := blk_set h 0 u0
  have h1 := blk_set h0 1 u1
  have h2 := blk_set h1 2 u2
  have h3 := blk_set h2 3 u3
  simpa using h3
 ·rw [Below.heap_setCell _ _ _ b hb, Below.heap_setCell _ _ _ b hb, Below.heap_setCell _ _ _ b hb, Below.heap_setCell _ _ _ b hb]
 ·exact below_set (below_set (below_set (below_set h hB) hB) hB) hB
set_option maxRecDepth 100000 in
set_option maxHeartbeats 4000000 in
theorem range_calls {w : World} {A : Option Addr} {c : Nat} {ts : List Tb} (h : TRow w A ts) (hn : ts.length ≤ 200000) (hk : ∀ t ∈ ts, KLen t) : Calls Tryz.prog 95 #[.slice A ts.length c] w (RgPost w (rgOf ts)) := by
 cases hts : ts with
 | nil =>
  go_enter Tryz.func95, Tryz.ntmps95
  go_wp2_with fail
  have HX := blk_new w (.cells #[.slice none 0 0, .slice none 0 0, .bool false, .int .i64 0] 126)
  refine bodyPost_ret (results_cell_row rfl _ _ w.heap.size 126 #[.slice none 0 0, .slice none 0 0, .bool false, .int .i64 0] (0, 0) _ rfl HX Tryz.underlying126 rfl (by kernel_rfl)) rfl ?_
  exact ⟨none, none, rfl, .inl ⟨rfl, rfl⟩, .inl ⟨rfl, rfl⟩, below_alloc (Below.refl _ _) _⟩
 | cons t0 tl =>
  have hpos : 0 < ts.length := by rw [hts]; simp
  rw [← hts]
  have h0 : Ls.tAt ts 0 = t0 := by rw [hts]; rfl
  have H0 := Lib.hid h
  have HK := Lib.hid (show ∀ j, j < ts.length → KLen (Ls.tAt ts j) from fun j hj => hk _ (It.tAt_mem hj))
  have HLO := Lib.hid (show rgOf ts = ⟨uk (loK t0.small tl) ++ z8, uk (hiK t0.big tl) ++ f8, false⟩ by rw [hts]; rfl)
  have HD := Lib.hid (show ts.drop 1 = tl by rw [hts]; rfl)
  obtain ⟨b0, p0, e0, c0, T0⟩ := h 0 hpos
  rw [h0] at T0
  have K0 : KLen t0 := by rw [← h0]; exact HK.out 0 hpos
  subst e0
  simp only [ptr] at c0
  have d0 : ((ts.length : Int) == 0) = false := beq_eq_false_iff_ne.2 (by omega)
  have d1 : decide (0 < (ts.length : Int)) = true := decide_eq_true (by omega)
  have HN := Lib.hid hn
  clear h hk hn h0 hts
  have T1 := Lib.hid T0
  clear T0
  go_enter Tryz.func95, Tryz.ntmps95
  go_upto_region 1 with (fail)
  obtain ⟨w1, hw1⟩ : ∃ w1, w1 = w.alloc (.cells #[.slice none 0 0, .slice none 0 0, .bool false, .int .i64 0] 126) := ⟨_, rfl⟩
  rw [← hw1]
  obtain ⟨rb, hrb⟩ : ∃ rb, rb = w.heap.size := ⟨_, rfl⟩
  rw [← hrb]
  have HB1 := Lib.hid (show Below w.heap.size w w1 by rw [hw1]; exact below_alloc (Below.refl _ _) _)
  have HX1 := Lib.hid (show w1.heap[rb]? = some (.cells #[.slice none 0 0, .slice none 0 0, .bool false, .int .i64 0] 126 (0, 0)) by rw [hw1, hrb]; exact blk_new w _)
  have HRB := Lib.hid (show w.heap.size ≤ rb by omega)
  have HW1 := Lib.hid (show w.heap.size ≤ w1.heap.size from HB1.out.size)
  clear hw1 hrb
  have cA := (HB1.out.cell (World.block_lt_of_cell? w _ c0)).trans c0
  obtain ⟨lb, hb, k1, k2, k3, k4⟩ := tab_keys (Nw.tab_below HB1.out T1.out)
  have HS := Lib.hid (smallest_calls k1)
  have HG := Lib.hid (biggest_calls k2)
  have H3 := Lib.hid k3
  have H4 := Lib.hid k4
  have HC := Lib.hid c0
  clear k1 k2 k3 k4 T1 c0
  go_wp2_with (first | (go_at_call 113; refine HS.out.mono ?_; rintro e w' ⟨rfl, rfl⟩) | (go_at_call 103; refine HG.out.mono ?_; rintro e w' ⟨rfl, rfl⟩))
  clear HS HG cA
  go_loopg [3, 4, 5] ts.length (fun kq v3 v4 v5 wr => ∃ (i b c n m : Nat) (x y : List UInt8), v3 = .slice (some ⟨b, 0, none⟩) (n + 8) (n + 8) ∧ v4 = .slice (some ⟨c, 0, none⟩) (m + 8) (m + 8) ∧ v5 = .int .i64 (i : Int) ∧ Aside0 (i + kq = ts.length + 1) ∧ Aside0 (KrI w1 ts (loK t0.small tl) (hiK t0.big tl) i b c n m x y wr))
  case atStart =>
   have e1 : t0.small.length = (t0.small.length - 8) + 8 := by have := K0.1; omega
   have e2 : t0.big.length = (t0.big.length - 8) + 8 := by have := K0.2; omega
   exact ⟨1, lb, hb, t0.small.length - 8, t0.big.length - 8, t0.small, t0.big, by rw [← e1], by rw [← e2], rfl, ⟨by omega⟩, ⟨⟨⟨by omega, by omega⟩, ⟨e1, by have := K0.1; omega⟩, ⟨e2, by have := K0.2; omega⟩, by rw [HD.out], by rw [HD.out], H3.out, H4.out, Below.refl _ _⟩⟩⟩
  case round =>
   clear H3 H4
   obtain ⟨i, b, c2, n, m, x, y, rfl, rfl, rfl, HI, HQ⟩ := hrel
   by_cases hj : i < ts.length
   ·have d2 : decide ((i : Int) < (ts.length : Int)) = true := decide_eq_true (by omega)
    have HGK := Lib.hid (show gk - 1 < gk ∧ i + 1 + (gk - 1) = ts.length + 1 by have := HI.out; omega)
    obtain ⟨b1, p, e1, c1, T1⟩ := (H0.out.below HB1.out).below HQ.out.bel i hj
    injection e1 with e1
    injection e1 with e1
    subst e1
    simp only [ptr] at c1
    have HK1 := Lib.hid (HK.out i hj)
    have HDR := Lib.hid (drop_at hj)
    obtain ⟨t, ht⟩ : ∃ t, t = Ls.tAt ts i := ⟨_, rfl⟩
    rw [← ht] at T1 HK1 HDR
    have s3 : IntKind.i64.wrap ((i : Int) + 1) = ((i + 1 : Nat) : Int) := by rw [IntWalk.i64_in _ (by have := HN.out; omega)]; omega
    obtain ⟨l1, l2, k1, k2, k3, k4⟩ := tab_keys T1
    have HS0 := Lib.hid (smallest_calls k1)
    have HS := Lib.hid (fun q => smallest_calls (w := wr.drewN q) k1)
    have HG := Lib.hid (fun q => biggest_calls (w := wr.drewN q) k2)
    have HQL := Lib.hid HQ.out
    have HC1 := Lib.hid (compareKeys_calls (w := wr) (x := t.small) (y := x) rfl HQ.out.lx.1 k3 HQ.out.hx HK1.out.1.1 (by have := HQ.out.lx.1; omega) (by have := HK1.out.1.2; omega) (by have := HQ.out.lx; omega))
    have HC2 := Lib.hid (fun q => compareKeys_calls (w := wr.drewN q) (x := t.big) (y := y) rfl HQ.out.ly.1 k4 HQ.out.hy HK1.out.2.1 (by have := HQ.out.ly.1; omega) (by have := HK1.out.2.2; omega) (by have := HQ.out.ly; omega))
    have H3 := Lib.hid k3
    have H4 := Lib.hid k4
    clear k1 k2 k3 k4 T1 HQ HI ht
    obtain ⟨z1, hz1⟩ : ∃ z, z = cmpK t.small x := ⟨_, rfl⟩
    obtain ⟨z2, hz2⟩ : ∃ z, z = cmpK t.big y := ⟨_, rfl⟩
    rw [← hz1] at HC1
    rw [← hz2] at HC2
    have HZ1 := Lib.hid hz1
    have HZ2 := Lib.hid hz2
    clear hz1 hz2
    go_wp2_with (first | (go_at_call 113; refine HS0.out.mono ?_; rintro e w' ⟨rfl, rfl⟩))
    refine HC1.out.mono ?_
    rintro e w' ⟨rfl, nq, rfl⟩
    by_cases g1 : z1 < 0
    ·have f1 := decide_eq_true g1
     have G1 := Lib.hid g1
     clear g1
     go_wp2_with (first | (go_at_call 113; refine (HS.out _).mono ?_; rintro e w' ⟨rfl, rfl⟩) | (go_at_call 103; refine (HG.out _).mono ?_; rintro e w' ⟨rfl, rfl⟩))
     refine (HC2.out _).mono ?_
     rintro e w' ⟨rfl, nq2, rfl⟩
     by_cases g2 : 0 < z2
     ·have f2 := decide_eq_true g2
      have G2 := Lib.hid g2
      clear g2
      go_wp2_with (first | (go_at_call 103; refine (HG.out _).mono ?_; rintro e w' ⟨rfl, rfl⟩))
      have g1 := G1.out
      have g2 := G2.out
      go_roundg (gk - 1)
      case measure => exact HGK.out.1
      case rel => exact ⟨i + 1, l1, l2, (t.small.length - 8), (t.big.length - 8), t.small, t.big, by rw [show t.small.length - 8 + 8 = t.small.length by have := HK1.out.1; omega], by rw [show t.big.length - 8 + 8 = t.big.length by have := HK1.out.2; omega], rfl, ⟨HGK.out.2⟩, ⟨HQL.out.next HDR.out hj (nq + nq2) (by rw [if_pos (by rw [← HZ1.out]; omega)]) ⟨by have := HK1.out.1; omega, by have := HK1.out.1; omega⟩ H3.out (by rw [if_pos (by rw [← HZ2.out]; omega)]) ⟨by have := HK1.out.2; omega, by have := HK1.out.2; omega⟩ H4.out⟩⟩
     ·have f2 := decide_eq_false g2
      have G2 := Lib.hid g2
      clear g2
      go_wp2_with (first | (go_at_call 103; refine (HG.out _).mono ?_; rintro e w' ⟨rfl, rfl⟩))
      have g1 := G1.out
      have g2 := G2.out
      go_roundg (gk - 1)
      case measure => exact HGK.out.1
      case rel => exact ⟨i + 1, l1, c2, (t.small.length - 8), m, t.small, y, by rw [show t.small.length - 8 + 8 = t.small.length by have := HK1.out.1; omega], rfl, rfl, ⟨HGK.out.2⟩, ⟨HQL.out.next HDR.out hj (nq + nq2) (by rw [if_pos (by rw [← HZ1.out]; omega)]) ⟨by have := HK1.out.1; omega, by have := HK1.out.1; omega⟩ H3.out (by rw [if_neg (by rw [← HZ2.out]; omega)]) HQL.out.ly HQL.out.hy⟩⟩
    ·have f1 := decide_eq_false g1
     have G1 := Lib.hid g1
     clear g1
     go_wp2_with (first | (go_at_call 113; refine (HS.out _).mono ?_; rintro e w' ⟨rfl, rfl⟩) | (go_at_call 103; refine (HG.out _).mono ?_; rintro e w' ⟨rfl, rfl⟩))
     refine (HC2.out _).mono ?_
     rintro e w' ⟨rfl, nq2, rfl⟩
     by_cases g2 : 0 < z2
     ·have f2 := decide_eq_true g2
      have G2 := Lib.hid g2
      clear g2
      go_wp2_with (first | (go_at_call 103; refine (HG.out _).mono ?_; rintro e w' ⟨rfl, rfl⟩))
      have g1 := G1.out
      have g2 := G2.out
      go_roundg (gk - 1)
      case measure => exact HGK.out.1
      case rel => exact ⟨i + 1, b, l2, n, (t.big.length - 8), x, t.big, rfl, by rw [show t.big.length - 8 + 8 = t.big.length by have := HK1.out.2; omega], rfl, ⟨HGK.out.2⟩, ⟨HQL.out.next HDR.out hj (nq + nq2) (by rw [if_neg (by rw [← HZ1.out]; omega)]) HQL.out.lx HQL.out.hx (by rw [if_pos (by rw [← HZ2.out]; omega)]) ⟨by have := HK1.out.2; omega, by have := HK1.out.2; omega⟩ H4.out⟩⟩
     ·have f2 := decide_eq_false g2
      have G2 := Lib.hid g2
      clear g2
      go_wp2_with (first | (go_at_call 103; refine (HG.out _).mono ?_; rintro e w' ⟨rfl, rfl⟩))
      have g1 := G1.out
      have g2 := G2.out
      go_roundg (gk - 1)
      case measure => exact HGK.out.1
      case rel => exact ⟨i + 1, b, c2, n, m, x, y, rfl, rfl, rfl, ⟨HGK.out.2⟩, ⟨HQL.out.next HDR.out hj (nq + nq2) (by rw [if_neg (by rw [← HZ1.out]; omega)]) HQL.out.lx HQL.out.hx (by rw [if_neg (by rw [← HZ2.out]; omega)]) HQL.out.ly HQL.out.hy⟩⟩
   ·have d2 : decide ((i : Int) < (ts.length : Int)) = false := decide_eq_false (by omega)
    have HQL := Lib.hid HQ.out
    have hi : i = ts.length := by have := HQ.out.one; omega
    subst hi
    have KP := Lib.hid (Rn.parseKey_calls (w := wr) (b := b) (k := n) (c := n + 8) (by have := HQL.out.lx; omega) (Nat.le_refl _))
    have KP2 := Lib.hid (fun (W : World) => Rn.parseKey_calls (w := W) (b := c2) (k := m) (c := m + 8) (by have := HQL.out.ly; omega) (Nat.le_refl _))
    have K1 := Lib.hid (keyWithTs_calls (w := wr) (A := some ⟨b, 0, none⟩) (n := n) (c := n + 8) (x := uk x) (ts := 18446744073709551615) (by rw [uk_len, HQL.out.lx.1]; omega) (fun _ => ⟨_, rfl, at_key0 HQL.out.hx⟩) (by have := HQL.out.lx; omega) (by omega) (by omega))
    have K2 := Lib.hid (fun (W : World) (hb : Below wr.heap.size wr W) => keyWithTs_calls (w := W) (A := some ⟨c2, 0, none⟩) (n := m) (c := m + 8) (x := uk y) (ts := 0) (by rw [uk_len, HQL.out.ly.1]; omega) (fun _ => ⟨_, rfl, at_key0 ((hb.block _ (blk_lt HQL.out.hy)).trans HQL.out.hy)⟩) (by have := HQL.out.ly; omega) (by omega) (by omega))
    clear HI HQ
    go_wp2_with (first | (go_at_call 64; refine KP.out.mono ?_; rintro e w' ⟨rfl, rfl⟩))
    refine K1.out.mono ?_
    rintro e w2 ⟨rfl, hk1, hb1⟩
    obtain ⟨g1, hg1⟩ : ∃ g, g = wr.heap.size := ⟨_, rfl⟩
    rw [← hg1] at hk1
    rw [← hg1]
    have HG1 := Lib.hid hg1
    have HK1 := Lib.hid hk1
    have HB2 := Lib.hid hb1
    have K3 := Lib.hid (K2.out w2 hb1)
    clear hk1 hb1 hg1 K1 K2
    go_wp2_with (first | (go_at_call 64; refine (KP2.out _).mono ?_; rintro e w' ⟨rfl, rfl⟩))
    refine K3.out.mono ?_
    rintro e w3 ⟨rfl, hk2, hb2⟩
    obtain ⟨g2, hg2⟩ : ∃ g, g = w2.heap.size := ⟨_, rfl⟩
    rw [← hg2] at hk2
    rw [← hg2]
    have HG2 := Lib.hid hg2
    have HK2 := Lib.hid hk2
    have HB3 := Lib.hid hb2
    have HX3 := Lib.hid ((HB3.out.block _ (blk_lt ((HB2.out.block _ (blk_lt ((HQL.out.bel.block _ (blk_lt HX1.out)).trans HX1.out))).trans ((HQL.out.bel.block _ (blk_lt HX1.out)).trans HX1.out)))).trans ((HB2.out.block _ (blk_lt ((HQL.out.bel.block _ (blk_lt HX1.out)).trans HX1.out))).trans ((HQL.out.bel.block _ (blk_lt HX1.out)).trans HX1.out)))
    clear hk2 hb2 hg2 K3
    have m0 := blk_cell HX3.out 0
    have m1 := blk_cell HX3.out 1
    have m2 := blk_cell HX3.out 2
    have m3 := blk_cell HX3.out 3
    have f0 := blk_frozen HX3.out 0
    have f1 := blk_frozen HX3.out 1
    have f2 := blk_frozen HX3.out 2
    have f3 := blk_frozen HX3.out 3
    go_wp2_with fail
    obtain ⟨w4, hw4⟩ : ∃ w4, w4 = (((w3.setCell ⟨rb, 0, none⟩ (.slice (some ⟨g1, 0, none⟩) (n + 8) (n + 8))).setCell ⟨rb, 1, none⟩ (.slice (some ⟨g2, 0, none⟩) (m + 8) (m + 8))).setCell ⟨rb, 2, none⟩ (.bool false)).setCell ⟨rb, 3, none⟩ (.int .i64 0) := ⟨_, rfl⟩
    rw [← hw4]
    obtain ⟨q1, q2, q3⟩ := four_set (u0 := .slice (some ⟨g1, 0, none⟩) (n + 8) (n + 8)) (u1 := .slice (some ⟨g2, 0, none⟩) (m + 8) (m + 8)) (u2 := .bool false) (u3 := .int .i64 0) HX3.out
    rw [← hw4] at q1 q2
    have hr1 : rb < w1.heap.size := blk_lt HX1.out
    have b3 : Below w.heap.size w w3 := below_step (below_step (below_step HB1.out HQL.out.bel) HB2.out) HB3.out
    have hs1 : w1.heap.size ≤ wr.heap.size := HQL.out.bel.size
    have hs2 : wr.heap.size ≤ w2.heap.size := HB2.out.size
    have hg1 := HG1.out
    have hg2 := HG2.out
    have hq := HW1.out
    refine bodyPost_ret (results_cell_row rfl _ _ rb 126 #[.slice (some ⟨g1, 0, none⟩) (n + 8) (n + 8), .slice (some ⟨g2, 0, none⟩) (m + 8) (m + 8), .bool false, .int .i64 0] (0, 0) _ rfl q1 Tryz.underlying126 rfl (by kernel_rfl)) rfl ?_
    have el := HQL.out.el
    have eh := HQL.out.eh
    rw [List.drop_length] at el eh
    have l1 : (uk x ++ z8).length = n + 8 := by rw [List.length_append, uk_len, z8_len, HQL.out.lx.1]; omega
    have l2 : (uk y ++ f8).length = m + 8 := by rw [List.length_append, uk_len, f8_len, HQL.out.ly.1]; omega
    have er : rgOf ts = ⟨uk x ++ z8, uk y ++ f8, false⟩ := by rw [HLO.out, ← el, ← eh]; rfl
    rw [er]
    have b4 : Below w.heap.size w w4 := by rw [hw4]; exact q3 b3 HRB.out
    refine ⟨some ⟨g1, 0, none⟩, some ⟨g2, 0, none⟩, by simp only [rgC, l1, l2], .inr ⟨g1, rfl, ?_, by omega⟩, .inr ⟨g2, rfl, ?_, by omega⟩, b4⟩
    ·rw [q2 g1 (by omega)]
     exact (HB3.out.block _ (blk_lt HK1.out)).trans HK1.out
    ·rw [q2 g2 (by omega)]
     exact HK2.out
end Go.Proofs.YtnineoajmgneiaaGreat.Rg
namespace Go.Proofs.YtnineoajmgneiaaGreat.Rg
open Go.RowKit YtnineoajmgneiaaGreatW YtnineoajmgneiaaGreatW.PrintWords YtnineoajmgneiaaGreatW.PrintLast YtnineoajmgneiaaGreatW.PrintMore Fr L Ky Tm Lm It
set_option linter.unusedVariables false
set_option linter.unusedSimpArgs false
theorem cmpU_self : ∀ x : List UInt8, cmpU x x = 0
  | [] => rfl
  | a :: t => by rw [cmpU_same]; exact cmpU_self t
theorem cmpK_self (x : List UInt8) : cmpK x x = 0 := by unfold cmpK; simp [cmpU_self]
def ExtPost (w : World) (ok : Nat → Prop) (g o T : Nat) (arr : Array Value) (r : Rg) (e : Ending) (w' : World) : Prop :=
  e = .returned (.tuple #[]) ∧ ∃ arr' A B, w'.heap[g]? = some (.cells arr' T (0, 0)) ∧ (∀ i u, (rgC A B r)[i]? = some u → arr'[o + i]? = some u) ∧ (∀ i, i < o ∨ o + 4 ≤ i → arr'[i]? = arr[i]?) ∧ arr'.size = arr.size ∧ KB w' ok A r.lo ∧ KB w' ok B r.hi ∧ Below 0 w w' ∧ ∀ b, b < w.heap.size → b ≠ g → w'.heap[b]? = w.heap[b]?
/-- Four cells in line, set. -/
def put4 (arr : Array Value) (o : Nat) (u0 u1 u2 u3 : Value) : Array Value := (((arr.setIfInBounds o u0).setIfInBounds (o + 1) u1).setIfInBounds (o + 2) u2).setIfInBounds (o + 3) u3
theorem put4_set {w : World} {g o T : Nat} {arr : Array Value} (h : w.heap[g]? = some (.cells arr T (0, 0))) (u0 u1 u2 u3 : Value) :
    ((((w.setCell ⟨g, o, none⟩ u0).setCell ⟨g, o + 1, none⟩ u1).setCell ⟨g, o + 2, none⟩ u2).setCell ⟨g, o + 3, none⟩ u3).heap[g]? = some (.cells (put4 arr o u0 u1 u2 u3) T (0, 0)) := blk_set (blk_set (blk_set (blk_set h o u0) (o + 1) u1) (o + 2) u2) (o + 3) u3
theorem put4_size (arr : Array Value) (o : Nat) (u0 u1 u2 u3 : Value) : (put4 arr o u0 u1 u2 u3).size = arr.size := by simp [put4]
theorem put4_at {arr : Array Value} {o : Nat} (u0 u1 u2 u3 : Value) (ho : o + 4 ≤ arr.size) : ∀ i u, [u0, u1, u2, u3][i]? = some u → (put4 arr o u0 u1 u2 u3)[o + i]? = some u := by
  intro i u h
  have hi : i < 4 := (List.getElem?_eq_some_iff.1 h).1
  have : i = 0 ∨ i = 1 ∨ i = 2 ∨ i = 3 := by omega
  rcases this with rfl | rfl | rfl | rfl <;> simp only [put4, Array.getElem?_setIfInBounds] at h ⊢ <;> simp at h <;> subst h <;> simp <;> omega
theorem put4_far {arr : Array Value} {o : Nat} (u0 u1 u2 u3 : Value) : ∀ i, i < o ∨ o + 4 ≤ i → (put4 arr o u0 u1 u2 u3)[i]? = arr[i]? := by
  intro i h
  simp only [put4, Array.getElem?_setIfInBounds]
  rw [if_neg (by omega), if_neg (by omega), if_neg (by omega), if_neg (by omega)]
set_option maxRecDepth 100000 in
set_option maxHeartbeats 4000000 in
/-- Nothing, grown by a range: that range. -/
theorem extE_calls {w : World} {ok : Nat → Prop} {g o T a b : Nat} {arr : Array Value} {k : Rg} (hg : w.heap[g]? = some (.cells arr T (0, 0))) (hT : T ≠ 5) {A0 B0 : Option Addr} (hc : ∀ i u, (rgC A0 B0 rE)[i]? = some u → arr[o + i]? = some u)
    (ha : w.heap[a]? = some (keyO k.lo)) (oa : ok a) (hb : w.heap[b]? = some (keyO k.hi)) (ob : ok b) (l1 : 8 ≤ k.lo.length ∧ k.lo.length ≤ 100000100) (l2 : 8 ≤ k.hi.length ∧ k.hi.length ≤ 100000100) (hi : k.inf = false) :
    Calls Tryz.prog 100 #[.pointer (some ⟨g, o, none⟩), .agg (rgC (some ⟨a, 0, none⟩) (some ⟨b, 0, none⟩) k).toArray] w (ExtPost w ok g o T arr k) := by
  obtain ⟨lo, hi0, inf⟩ := k
  simp only at ha hb l1 l2 hi
  subst hi
  have c0 : w.cell? ⟨g, o, none⟩ = some (.slice A0 0 0) := (blk_cell hg o).trans (hc 0 _ rfl)
  have c1 : w.cell? ⟨g, o + 1, none⟩ = some (.slice B0 0 0) := (blk_cell hg (o + 1)).trans (hc 1 _ rfl)
  have c2 : w.cell? ⟨g, o + 2, none⟩ = some (.bool false) := (blk_cell hg (o + 2)).trans (hc 2 _ rfl)
  have c3 : w.cell? ⟨g, o + 3, none⟩ = some (.int .i64 0) := (blk_cell hg (o + 3)).trans (hc 3 _ rfl)
  have f0 := blk_frozen hg o
  have f1 := blk_frozen hg (o + 1)
  have f2 := blk_frozen hg (o + 2)
  have f3 := blk_frozen hg (o + 3)
  have d0 : (((lo.length : Nat) : Int) == 0) = false := beq_eq_false_iff_ne.2 (by omega)
  have d1 : (((hi0.length : Nat) : Int) == 0) = false := beq_eq_false_iff_ne.2 (by omega)
  have ho : o + 4 ≤ arr.size := by
    have := hc 3 _ rfl
    have := (Array.getElem?_eq_some_iff.1 this).1
    omega
  have HG := Lib.hid hg
  have HC := Lib.hid hc
  have HA := Lib.hid ha
  have HB := Lib.hid hb
  have HE := Lib.hid (fun W => (isEmpty_calls (w := W) (A := some ⟨a, 0, none⟩) (B := some ⟨b, 0, none⟩) (n := lo.length) (c := lo.length) (m := hi0.length) (d := hi0.length) (inf := false) (s := 0)))
  rw [show isE lo.length hi0.length false = false by unfold isE; rw [beq_eq_false_iff_ne.2 (show lo.length ≠ 0 by omega)]; rfl] at HE
  have HE2 := Lib.hid (fun W => (isEmpty_calls (w := W) (A := A0) (B := B0) (n := 0) (c := 0) (m := 0) (d := 0) (inf := false) (s := 0)))
  clear hg ha hb hc
  simp only [rgC]
  go_enter Tryz.func100, Tryz.ntmps100
  go_upto_region 1 with (fail)
  obtain ⟨w1, hw1⟩ : ∃ w1, w1 = w.alloc (.cells #[.slice (some ⟨a, 0, none⟩) lo.length lo.length, .slice (some ⟨b, 0, none⟩) hi0.length hi0.length, .bool false, .int .i64 0] 126) := ⟨_, rfl⟩
  rw [← hw1]
  obtain ⟨kb, hkb⟩ : ∃ b, b = w.heap.size := ⟨_, rfl⟩
  rw [← hkb]
  have HB1 := Lib.hid (show Below w.heap.size w w1 by rw [hw1]; exact below_alloc (Below.refl _ _) _)
  have HX := Lib.hid (show w1.heap[kb]? = some (.cells #[.slice (some ⟨a, 0, none⟩) lo.length lo.length, .slice (some ⟨b, 0, none⟩) hi0.length hi0.length, .bool false, .int .i64 0] 126 (0, 0)) by rw [hw1, hkb]; exact blk_new w _)
  have HKB := Lib.hid (show kb ≠ g by have := blk_lt HG.out; omega)
  clear hw1 hkb c0 c1 c2 c3 f0 f1 f2 f3
  have m0 := blk_cell HX.out 0
  have m1 := blk_cell HX.out 1
  have m2 := blk_cell HX.out 2
  have m3 := blk_cell HX.out 3
  go_wp2_with fail
  clear m0 m1 m2 m3
  refine (HE.out _).mono ?_
  rintro e w2 ⟨rfl, hb2⟩
  have HB2 := Lib.hid (below_step HB1.out hb2)
  have HX2 := Lib.hid ((hb2.block _ (blk_lt HX.out)).trans HX.out)
  clear hb2
  have HG2 := Lib.hid ((HB2.out.block _ (blk_lt HG.out)).trans HG.out)
  have c0 : w2.cell? ⟨g, o, none⟩ = some (.slice A0 0 0) := (blk_cell HG2.out o).trans (HC.out 0 _ rfl)
  have c1 : w2.cell? ⟨g, o + 1, none⟩ = some (.slice B0 0 0) := (blk_cell HG2.out (o + 1)).trans (HC.out 1 _ rfl)
  have c2 : w2.cell? ⟨g, o + 2, none⟩ = some (.bool false) := (blk_cell HG2.out (o + 2)).trans (HC.out 2 _ rfl)
  have c3 : w2.cell? ⟨g, o + 3, none⟩ = some (.int .i64 0) := (blk_cell HG2.out (o + 3)).trans (HC.out 3 _ rfl)
  go_wp2_with fail
  refine (HE2.out _).mono ?_
  rintro e w3 ⟨rfl, hb3⟩
  clear c0 c1 c2 c3
  have HB3 := Lib.hid (below_step HB2.out hb3)
  have HX3 := Lib.hid ((hb3.block _ (blk_lt HX2.out)).trans HX2.out)
  have HG3 := Lib.hid ((hb3.block _ (blk_lt HG2.out)).trans HG2.out)
  clear hb3
  have m0 := blk_cell HX3.out 0
  have m1 := blk_cell HX3.out 1
  have m2 := blk_cell HX3.out 2
  have m3 := blk_cell HX3.out 3
  have c0 : w3.cell? ⟨g, o, none⟩ = some (.slice A0 0 0) := (blk_cell HG3.out o).trans (HC.out 0 _ rfl)
  have c1 : w3.cell? ⟨g, o + 1, none⟩ = some (.slice B0 0 0) := (blk_cell HG3.out (o + 1)).trans (HC.out 1 _ rfl)
  have c2 : w3.cell? ⟨g, o + 2, none⟩ = some (.bool false) := (blk_cell HG3.out (o + 2)).trans (HC.out 2 _ rfl)
  have c3 : w3.cell? ⟨g, o + 3, none⟩ = some (.int .i64 0) := (blk_cell HG3.out (o + 3)).trans (HC.out 3 _ rfl)
  have f0 := blk_frozen HG3.out o
  have f1 := blk_frozen HG3.out (o + 1)
  have f2 := blk_frozen HG3.out (o + 2)
  have f3 := blk_frozen HG3.out (o + 3)
  have hr : isE 0 0 false = true := rfl
  rw [hr]
  go_upto_region 4 with (fail)
  obtain ⟨w4, hw4⟩ : ∃ w4, w4 = (((w3.setCell ⟨g, o, none⟩ (.slice (some ⟨a, 0, none⟩) lo.length lo.length)).setCell ⟨g, o + 1, none⟩ (.slice (some ⟨b, 0, none⟩) hi0.length hi0.length)).setCell ⟨g, o + 2, none⟩ (.bool false)).setCell ⟨g, o + 3, none⟩ (.int .i64 0) := ⟨_, rfl⟩
  rw [← hw4]
  clear m0 m1 m2 m3 c0 c1 c2 c3 f0 f1 f2 f3
  have HG4 := Lib.hid (show w4.heap[g]? = some (.cells (put4 arr o (.slice (some ⟨a, 0, none⟩) lo.length lo.length) (.slice (some ⟨b, 0, none⟩) hi0.length hi0.length) (.bool false) (.int .i64 0)) T (0, 0)) by rw [hw4]; exact put4_set HG3.out _ _ _ _)
  have HF4 := Lib.hid (show ∀ b, b ≠ g → w4.heap[b]? = w3.heap[b]? by
    intro q hq
    rw [hw4, Below.heap_setCell _ _ _ q hq, Below.heap_setCell _ _ _ q hq, Below.heap_setCell _ _ _ q hq, Below.heap_setCell _ _ _ q hq])
  have HS4 := Lib.hid (show Below 0 w w4 by rw [hw4]; exact ((((HB3.out.mono (Nat.zero_le _)).setCell (Nat.zero_le _) _).setCell (Nat.zero_le _) _).setCell (Nat.zero_le _) _).setCell (Nat.zero_le _) _)
  clear hw4
  have HAT := Lib.hid (put4_at (arr := arr) (o := o) (.slice (some ⟨a, 0, none⟩) lo.length lo.length) (.slice (some ⟨b, 0, none⟩) hi0.length hi0.length) (.bool false) (.int .i64 0) ho)
  have HX4 := Lib.hid ((HF4.out kb HKB.out).trans HX3.out)
  have HAG := Lib.hid (show a ≠ g by
    have := HA.out
    rintro rfl
    rw [HG.out] at this
    injection this with this
    injection this with _ h _
    exact hT h)
  have HBG := Lib.hid (show b ≠ g by
    have := HB.out
    rintro rfl
    rw [HG.out] at this
    injection this with this
    injection this with _ h _
    exact hT h)
  have HA4 := Lib.hid ((HF4.out a HAG.out).trans ((HB3.out.block _ (blk_lt HA.out)).trans HA.out))
  have HB4 := Lib.hid ((HF4.out b HBG.out).trans ((HB3.out.block _ (blk_lt HB.out)).trans HB.out))
  have c0 : w4.cell? ⟨g, o, none⟩ = some (.slice (some ⟨a, 0, none⟩) lo.length lo.length) := (blk_cell HG4.out o).trans (HAT.out 0 _ rfl)
  have c1 : w4.cell? ⟨g, o + 1, none⟩ = some (.slice (some ⟨b, 0, none⟩) hi0.length hi0.length) := (blk_cell HG4.out (o + 1)).trans (HAT.out 1 _ rfl)
  have m0 := blk_cell HX4.out 0
  have m1 := blk_cell HX4.out 1
  have m2 := blk_cell HX4.out 2
  have H0 := Lib.hid (fun k => Calls.quiet_of (compareKeys_calls (w := w4.drewN k) (x := lo) (y := lo) rfl rfl HA4.out HA4.out l1.1 l1.1 (by have := l1.2; omega) (by have := l1.2; omega)))
  rw [cmpK_self] at H0
  go_wp2_with fail
  go_quiet ((go_at_call 112; with_reducible exact H0.out _))
  have H1 := Lib.hid (fun k => Calls.quiet_of (compareKeys_calls (w := (w4.drewN nq).drewN k) (x := hi0) (y := hi0) rfl rfl HB4.out HB4.out l2.1 l2.1 (by have := l2.2; omega) (by have := l2.2; omega)))
  rw [cmpK_self] at H1
  clear H0
  obtain ⟨w5, hw5⟩ : ∃ w5, w5 = w4.drewN nq := ⟨_, rfl⟩
  have c1 : w5.cell? ⟨g, o + 1, none⟩ = some (.slice (some ⟨b, 0, none⟩) hi0.length hi0.length) := by rw [hw5]; exact c1
  have m1 : w5.cell? ⟨kb, 1, none⟩ = some (.slice (some ⟨b, 0, none⟩) hi0.length hi0.length) := by rw [hw5]; exact m1
  have m2 : w5.cell? ⟨kb, 2, none⟩ = some (.bool false) := by rw [hw5]; exact m2
  rw [← hw5] at H1
  rw [← hw5]
  have HW5 := Lib.hid hw5
  clear hw5 c0 m0
  go_wp2_with fail
  go_quiet ((go_at_call 112; with_reducible exact H1.out _))
  go_wp2_with fail
  go_end0
  rw [HW5.out]
  refine ⟨rfl, _, some ⟨a, 0, none⟩, some ⟨b, 0, none⟩, HG4.out, HAT.out, put4_far _ _ _ _, put4_size _ _ _ _ _ _, .inr ⟨a, rfl, HA4.out, oa⟩, .inr ⟨b, rfl, HB4.out, ob⟩, ?_, fun q hq hne => ?_⟩
  · exact pw_below_drewN (pw_below_drewN HS4.out _) _
  · exact (HF4.out q hne).trans (HB3.out.block q hq)
end Go.Proofs.YtnineoajmgneiaaGreat.Rg
namespace Go.Proofs.YtnineoajmgneiaaGreat.Oo
open Go.RowKit YtnineoajmgneiaaGreatW YtnineoajmgneiaaGreatW.PrintWords Fr L Ky Tm Lm It Rg
open YtnineoajmgneiaaGreat.Ls (tAt)
set_option linter.unusedVariables false
set_option linter.unusedSimpArgs false
theorem less_cmp : ∀ l m : List UInt8, Op.bytesLess l m = decide (cmpU l m < 0)
  | [], [] => by rfl
  | [], _ :: _ => by rfl
  | _ :: _, [] => by rfl
  | a :: s, b :: t => by
    have ih := less_cmp s t
    rw [Op.bytesLess, cmpU]
    by_cases h : a < b
    · simp [h]
    · by_cases e : a = b
      · subst e
        simp [ih]
      · have h2 : b < a := by
          rcases Nat.lt_trichotomy a.toNat b.toNat with k | k | k
          · exact absurd (UInt8.lt_iff_toNat_lt.2 k) h
          · exact absurd (UInt8.toNat_inj.1 k) e
          · exact UInt8.lt_iff_toNat_lt.2 k
        simp [h, e, h2]
theorem cmpU_neg : ∀ l m : List UInt8, cmpU m l = - cmpU l m
  | [], [] => by rfl
  | [], _ :: _ => by rfl
  | _ :: _, [] => by rfl
  | a :: s, b :: t => by
    have ih := cmpU_neg s t
    rw [cmpU, cmpU]
    rcases Nat.lt_trichotomy a.toNat b.toNat with k | k | k
    · have h : a < b := UInt8.lt_iff_toNat_lt.2 k
      have h2 : ¬ b < a := fun x => by have := UInt8.lt_iff_toNat_lt.1 x; omega
      have h3 : ¬ b = a := fun x => by rw [x] at k; omega
      rw [if_pos h, if_neg h2, if_neg h3] <;> try rfl
    · have e : a = b := UInt8.toNat_inj.1 k
      subst e
      rw [if_neg (UInt8.lt_irrefl a), if_pos rfl, if_neg (UInt8.lt_irrefl a), if_pos rfl, ih]
    · have h : b < a := UInt8.lt_iff_toNat_lt.2 k
      have h2 : ¬ a < b := fun x => by have := UInt8.lt_iff_toNat_lt.1 x; omega
      have h3 : ¬ a = b := fun x => by rw [x] at k; omega
      rw [if_pos h, if_neg h2, if_neg h3] <;> try rfl
theorem cmpU_zero : ∀ {l m : List UInt8}, cmpU l m = 0 → l = m
  | [], [], _ => rfl
  | [], _ :: _, h => by rw [cmpU] at h; cases h
  | _ :: _, [], h => by rw [cmpU] at h; cases h
  | a :: s, b :: t, h => by
    rw [cmpU] at h
    by_cases k : a < b
    · rw [if_pos k] at h; cases h
    · rw [if_neg k] at h
      by_cases e : a = b
      · rw [if_pos e] at h; rw [e, cmpU_zero h]
      · rw [if_neg e] at h; cases h
theorem cmpU_trans : ∀ {l m n : List UInt8}, cmpU l m < 0 → cmpU m n < 0 → cmpU l n < 0
  | [], [], _, h, _ => by rw [cmpU] at h; omega
  | _ :: _, [], _, h, _ => by rw [cmpU] at h; omega
  | [], _ :: _, [], _, h => by rw [cmpU] at h; omega
  | _ :: _, _ :: _, [], _, h => by rw [cmpU] at h; omega
  | [], _ :: _, _ :: _, _, _ => by rw [cmpU]; omega
  | a :: s, b :: t, c :: u, h, k => by
    rw [cmpU] at h k ⊢
    by_cases h1 : a < b
    · by_cases k1 : b < c
      · rw [if_pos (UInt8.lt_trans h1 k1)]; omega
      · rw [if_neg k1] at k
        by_cases k2 : b = c
        · subst k2; rw [if_pos h1]; omega
        · rw [if_neg k2] at k; omega
    · rw [if_neg h1] at h
      by_cases h2 : a = b
      · subst h2
        rw [if_pos rfl] at h
        by_cases k1 : a < c
        · rw [if_pos k1]; omega
        · rw [if_neg k1] at k ⊢
          by_cases k2 : a = c
          · rw [if_pos k2] at k ⊢; exact cmpU_trans h k
          · rw [if_neg k2] at k; omega
      · rw [if_neg h2] at h; omega
theorem cmpK_neg (x y : List UInt8) : cmpK y x = - cmpK x y := by
  unfold cmpK
  rw [cmpU_neg (x.take _) (y.take _), cmpU_neg (x.drop _) (y.drop _)]
  by_cases h : cmpU (x.take (x.length - 8)) (y.take (y.length - 8)) = 0
  · rw [if_neg (by omega), if_neg (by omega)]
  · rw [if_pos (by omega), if_pos (by omega)]
theorem cmpK_zero {x y : List UInt8} (h : cmpK x y = 0) (z : List UInt8) : cmpK x z = cmpK y z := by
  unfold cmpK at h ⊢
  by_cases k : cmpU (x.take (x.length - 8)) (y.take (y.length - 8)) = 0
  · rw [if_neg (by omega)] at h
    rw [cmpU_zero k, cmpU_zero h]
  · rw [if_pos (by omega)] at h; exact absurd h k
theorem cmpK_trans {x y z : List UInt8} (h : cmpK x y < 0) (k : cmpK y z < 0) : cmpK x z < 0 := by
  unfold cmpK at h k ⊢
  by_cases h1 : cmpU (x.take (x.length - 8)) (y.take (y.length - 8)) = 0
  · rw [if_neg (by omega)] at h
    rw [cmpU_zero h1]
    by_cases k1 : cmpU (y.take (y.length - 8)) (z.take (z.length - 8)) = 0
    · rw [if_neg (by omega)] at k ⊢
      exact cmpU_trans h k
    · rw [if_pos (by omega)] at k ⊢
      exact k
  · rw [if_pos (by omega)] at h
    by_cases k1 : cmpU (y.take (y.length - 8)) (z.take (z.length - 8)) = 0
    · rw [← cmpU_zero k1, if_pos h1]; exact h
    · rw [if_pos (by omega)] at k
      have := cmpU_trans h k
      rw [if_pos (by omega)]
      exact this
theorem sw_ltOf (i n : Nat) (ts : List Tb) : Od.SW n (It.ltOf i ts) := by
  unfold It.ltOf
  split
  · refine ⟨fun x _ => decide_eq_false (by omega), fun x y z _ _ _ h1 h2 => ?_, fun x y z _ _ _ h1 h2 => ?_⟩
    · have h1 := of_decide_eq_true h1
      have h2 := of_decide_eq_true h2
      exact decide_eq_true (by omega)
    · have h1 := of_decide_eq_false h1
      have h2 := of_decide_eq_false h2
      exact decide_eq_false (by omega)
  · refine ⟨fun x _ => decide_eq_false (by rw [cmpK_self]; omega), fun x y z _ _ _ h1 h2 => ?_, fun x y z _ _ _ h1 h2 => ?_⟩
    · exact decide_eq_true (cmpK_trans (of_decide_eq_true h1) (of_decide_eq_true h2))
    · have h1 := of_decide_eq_false h1
      have h2 := of_decide_eq_false h2
      refine decide_eq_false (fun h => ?_)
      by_cases e : cmpK (tAt ts x).small (tAt ts y).small = 0
      · rw [cmpK_zero e] at h; exact h2 h
      · have h3 : cmpK (tAt ts y).small (tAt ts x).small < 0 := by rw [cmpK_neg (tAt ts x).small (tAt ts y).small]; omega
        exact h2 (cmpK_trans h3 h)
theorem ord_of {i : Nat} {ts : List Tb} (h : ∀ a b, a < b → b < ts.length → It.ltOf i ts a b = true) : Od.SW ts.length (It.ltOf i ts) ∧ Od.ord ts.length (It.ltOf i ts) = List.range ts.length :=
  ⟨sw_ltOf _ _ _, Od.ord_id (sw_ltOf _ _ _) h⟩
/-- A key's text and its version. -/
theorem take_key (s : ByteArray) (v : Int) : (Tm.keyOf s v).take ((Tm.keyOf s v).length - 8) = s.toList := by
  unfold Tm.keyOf
  rw [List.length_append, show (be64b (top v)).length = 8 from rfl, Nat.add_sub_cancel, List.take_left]
theorem key_lt {s t : ByteArray} {v u : Int} (h : cmpU s.toList t.toList < 0) : cmpK (Tm.keyOf s v) (Tm.keyOf t u) < 0 := by
  unfold cmpK
  rw [take_key, take_key, if_pos (by omega)]
  exact h
end Go.Proofs.YtnineoajmgneiaaGreat.Oo
namespace Go.Proofs.YtnineoajmgneiaaGreat.Lk
open Go.RowKit YtnineoajmgneiaaGreatW YtnineoajmgneiaaGreatW.PrintWords YtnineoajmgneiaaGreatW.PrintLast YtnineoajmgneiaaGreatW.PrintMore Fr L Ky Tm Lm It Tg Tp Tl
set_option linter.unusedVariables false
set_option linter.unusedSimpArgs false
theorem within (a b c : Int) : spec_Within.f a b c = some (decide (b ≤ a ∧ a ≤ c)) := by
 unfold spec_Within.f
 by_cases h : b ≤ a
 ·rw [if_pos (show a ≥ b from h)]; simp [h]
 ·rw [if_neg (show ¬ a ≥ b from h)]; simp [h]
structure OOk (m a b c d e f g : Int) : Prop where
 m : 2 ≤ m ∧ m ≤ 7
 a : 2 ≤ a ∧ a ≤ 100
 b : 1 ≤ b ∧ b ≤ 10
 c : 1 ≤ c ∧ c ≤ 100
 d : 1 ≤ d ∧ d ≤ 1099511627776
 e : 1 ≤ e ∧ e ≤ 1073741824
 f : 1 ≤ f ∧ f ≤ 1073741824
 g : 0 ≤ g ∧ g ≤ 1099511627776
theorem opts_ok (m a b c d e f g : Int) : ∃ r, spec_OptionsOk.f m a b c d e f g = some r ∧ (r = true → OOk m a b c d e f g) := by
 unfold spec_OptionsOk.f
 simp only [within, Option.bind_some]
 repeat' split
 all_goals refine ⟨_, rfl, fun h => ?_⟩
 all_goals first | (cases h; done) | (simp only [decide_eq_true_eq] at *; constructor <;> assumption)
structure TOk (t : S68) : Prop where
 n : 1 ≤ t.f0 ∧ t.f0 ≤ 1099511627776
 b : 1 ≤ t.f5 ∧ t.f5 ≤ 17179869184
 v1 : 0 ≤ t.f2 ∧ t.f2 ≤ 1099511627776
 v2 : 0 ≤ t.f4 ∧ t.f4 ≤ 1099511627776
 v3 : 0 ≤ t.f6 ∧ t.f6 ≤ 1099511627776
 s : 0 ≤ t.f7 ∧ t.f7 ≤ 1073741824
 a : 0 ≤ t.f8 ∧ t.f8 ≤ 1073741824
 o : Op.bytesLess t.f1.toList t.f3.toList = true ∨ t.f1.toList = t.f3.toList
theorem table_ok (t : S68) : ∃ r, spec_tableOk.f t.f0 t.f1 t.f2 t.f3 t.f4 t.f5 t.f6 t.f7 t.f8 = some r ∧ (r = true → TOk t) := by
 unfold spec_tableOk.f
 simp only [within, Option.bind_some]
 repeat' split
 all_goals refine ⟨_, rfl, fun h => ?_⟩
 all_goals first | (cases h; done) | (simp only [decide_eq_true_eq] at *; constructor <;> first | assumption | exact .inl (by assumption) | exact .inr (by assumption))
theorem has_at {l : List Int} {x : Int} (hl : l.length ≤ 1000000) : ∀ (m j k : Nat), j + m = l.length → m + 1 ≤ k → spec_Has.l0 k x l (l.length : Int) (j : Int) = some (decide (x ∈ l.drop j))
 | 0, j, k, hj, hk => by
  obtain ⟨k, rfl⟩ : ∃ q, k = q + 1 := ⟨k - 1, by omega⟩
  rw [spec_Has.l0, if_neg (by omega), List.drop_eq_nil_of_le (by omega)]
  simp
 | m + 1, j, k, hj, hk => by
  obtain ⟨k, rfl⟩ : ∃ q, k = q + 1 := ⟨k - 1, by omega⟩
  have hjl : j < l.length := by omega
  have hr : PrintWords.rd l (j : Int) = l[j] := by simp [PrintWords.rd, hjl]
  have hd : l.drop j = l[j] :: l.drop (j + 1) := List.drop_eq_getElem_cons hjl
  rw [spec_Has.l0, if_pos (by omega), if_pos (by omega), if_pos (by omega), hr]
  by_cases h : l[j] = x
  ·have e : x ∈ l.drop j := by rw [hd, h]; exact List.mem_cons_self
   rw [if_pos h, decide_eq_true e]
  ·have e : decide (x ∈ l.drop j) = decide (x ∈ l.drop (j + 1)) := by
    rw [hd]
    exact decide_eq_decide.2 ⟨fun k => (List.mem_cons.1 k).resolve_left (fun e => h e.symm), fun k => List.mem_cons_of_mem _ k⟩
   rw [if_neg h, e, show wrap64 ((j : Int) + 1) = ((j + 1 : Nat) : Int) by unfold wrap64; omega, has_at hl m (j + 1) k (by omega) (by omega)]
theorem has_spec {l : List Int} (hl : l.length ≤ 1000000) (x : Int) : spec_Has.f (l.length + 1) l x = some (decide (x ∈ l)) := by
 have := has_at (x := x) hl l.length 0 (l.length + 1) (by omega) (by omega)
 rwa [List.drop_zero] at this
/-- What is asked of two tables that lie side by side in level i. -/
def Adj2 (i : Nat) (t u : S68) : Prop := (i = 0 → t.f0 < u.f0) ∧ (i ≠ 0 → Op.bytesLess t.f3.toList u.f1.toList = true)
structure RowOk (i : Nat) (l : List S68) : Prop where
 len : l.length ≤ 1000
 tab : ∀ t ∈ l, TOk t
 adj : ∀ k t u, l[k]? = some t → l[k + 1]? = some u → Adj2 i t u
structure LvOk (ls : List (List S68)) (m a b c d e f g : Int) : Prop where
 opt : OOk m a b c d e f g
 len : (ls.length : Int) = m
 row : ∀ i l, ls[i]? = some l → RowOk i l
 nums : (ls.flatten.map (·.f0)).Nodup
theorem in_tab {t : S68} (h : TOk t) (hs : t.f1.size ≤ 2000000 ∧ t.f3.size ≤ 2000000) : InTab t :=
 ⟨⟨by have := h.n; omega, h.n.2⟩, hs.1, h.v1, hs.2, h.v2, ⟨by have := h.b; omega, h.b.2⟩, h.v3, h.s, h.a⟩
def OkPost (w : World) (ls : List (List S68)) (m a b c d e f g : Int) (en : Ending) (w' : World) : Prop := ∃ r, en = .returned (.bool r) ∧ (r = true → LvOk ls m a b c d e f g) ∧ Below w.heap.size w w'
set_option maxRecDepth 100000 in
set_option maxHeartbeats 8000000 in
theorem ok_calls {w : World} {A0 : Option Addr} {c0 : Nat} {ls : List (List S68)} {m a b c d e f g : Int} (hC : Kd.C (Kd.slice 68 k68) w A0 ls.length ls) (hc0 : ls.length ≤ c0) (hlen : ls.length ≤ 2000000000) (hts : ∀ l ∈ ls, ∀ t ∈ l, t.f1.size ≤ 2000000 ∧ t.f3.size ≤ 2000000) :
  Calls Tryz.prog 23 #[.slice A0 ls.length c0, .agg #[.int .i64 m, .int .i64 a, .int .i64 b, .int .i64 c, .int .i64 d, .int .i64 e, .int .i64 f, .int .i64 g]] w (OkPost w ls m a b c d e f g) := by
 obtain ⟨Q, hQ⟩ : ∃ Q, Q = OkPost w ls m a b c d e f g := ⟨_, rfl⟩
 rw [← hQ]
 have HQ := Lib.hid hQ
 have HC := Lib.hid hC
 have HC0 := Lib.hid hc0
 have HTS := Lib.hid hts
 have HLN := Lib.hid hlen
 obtain ⟨r1, hr1, hok1⟩ := opts_ok m a b c d e f g
 have K53 := Lib.hid (fun W => spec_OptionsOk.calls m a b c d e f g r1 W hr1)
 have HOK := Lib.hid hok1
 clear hQ hC hc0 hts hlen hr1 hok1
 go_enter Tryz.func23, Tryz.ntmps23
 go_upto_region 1 with (fail)
 obtain ⟨w1, hw1⟩ : ∃ w1, w1 = w.alloc (.cells #[.int .i64 m, .int .i64 a, .int .i64 b, .int .i64 c, .int .i64 d, .int .i64 e, .int .i64 f, .int .i64 g] 24) := ⟨_, rfl⟩
 rw [← hw1]
 obtain ⟨b3, hb3⟩ : ∃ b3, b3 = w.heap.size := ⟨_, rfl⟩
 rw [← hb3]
 have HB1 := Lib.hid (show Below w.heap.size w w1 by rw [hw1]; exact below_alloc (Below.refl _ _) _)
 have HO1 := Lib.hid (show w1.heap[b3]? = some (.cells #[.int .i64 m, .int .i64 a, .int .i64 b, .int .i64 c, .int .i64 d, .int .i64 e, .int .i64 f, .int .i64 g] 24 (0, 0)) by rw [hw1, hb3]; exact blk_new w _)
 clear hw1 hb3
 have o0 := blk_cell HO1.out 0
 have o1 := blk_cell HO1.out 1
 have o2 := blk_cell HO1.out 2
 have o3 := blk_cell HO1.out 3
 have o4 := blk_cell HO1.out 4
 have o5 := blk_cell HO1.out 5
 have o6 := blk_cell HO1.out 6
 have o7 := blk_cell HO1.out 7
 go_wp2_with fail
 refine (K53.out w1).mono ?_
 rintro en w2 ⟨rfl, hb2⟩
 have HB2 := Lib.hid (below_step HB1.out hb2)
 have HO2 := Lib.hid ((hb2.block _ (blk_lt HO1.out)).trans HO1.out)
 clear o0 o1 o2 o3 o4 o5 o6 o7 hb2
 cases r1 with
 | false =>
  go_wp2_with fail
  rw [HQ.out]
  exact ⟨false, rfl, (fun h => by cases h), HB2.out⟩
 | true =>
  have HOO := Lib.hid (HOK.out rfl)
  have o0 := blk_cell HO2.out 0
  by_cases hm : (ls.length : Int) = m
  ·have dm : ((ls.length : Int) != m) = false := bne_eq_false_iff_eq.2 hm
   have HM := Lib.hid hm
   clear hm
   go_upto_region 4 with (first | ((with_reducible refine gate_dst (N := 22) rfl ?_); refine Kd.R_lit (Kd.int .i64) (w0 := w2) w2.heap.size 3 ?hg (N := 22) ?hd (xs := ([] : List Int)) (inner := []) (ok := fun _ => True) (okp := fun _ => True) ?hr ?hp (fun _ hk => hk) trivial (Below.refl _ _) (Nat.le_refl _) (by simp) ?_; (case hd => rfl); (case hg => rfl); (case hr => first | (go_simp; done) | (go_simp; rfl)); (case hp => exact (Reps.none _ _)); intro v5 w3 ho hb hg_ hnew_; have HR3 := Lib.hid ho; have HB3 := Lib.hid hb; clear hg_ hnew_ ho hb))
   go_upto_block 0 with (fail)
   clear o0
   go_cut [5] from 23 to 87 (fun v5 wr => LvOk ls m a b c d e f g ∧ Below w2.heap.size w2 wr)
   case first =>
    go_wp2_with fail
    go_loopg [5, 25] ls.length (fun kq v5 v25 wr => ∃ (i : Nat) (seen : List Int), v25 = .int .i64 (i : Int) ∧ Aside0 (i + kq = ls.length) ∧ Aside0 (Kd.R (Kd.int .i64) 3 wr w2.heap.size (fun _ => True) v5 seen ∧ Below w2.heap.size w2 wr ∧ seen = (ls.take i).flatten.map (·.f0) ∧ seen.Nodup ∧ seen.length ≤ i * 1000 ∧ ∀ j l, j < i → ls[j]? = some l → RowOk j l))
    case atStart => exact ⟨0, [], rfl, ⟨by omega⟩, ⟨HR3.out, HB3.out, rfl, .nil, by simp, fun j l hj => by omega⟩⟩
    case round =>
     obtain ⟨i, seen, rfl, HI, HQ2⟩ := hrel
     obtain ⟨gq, rfl⟩ : ∃ gq, gq = gk := ⟨gk, rfl⟩
     have HR := Lib.hid HQ2.out.1
     have HB := Lib.hid HQ2.out.2.1
     have HSE := Lib.hid HQ2.out.2.2
     clear HQ2 HR3 HB3
     by_cases hi : i < ls.length
     ·have d1 : decide ((i : Int) < (ls.length : Int)) = true := decide_eq_true (by omega)
      have dn : i < ls.length := hi
      have hm7 : i ≤ 7 := by have := HOO.out.m; have := HM.out; omega
      have HGK := Lib.hid (show gq - 1 < gq ∧ i + 1 + (gq - 1) = ls.length by have := HI.out; omega)
      have HWR := Lib.hid (show Value.int IntKind.i64 (wrap64 ((i : Int) + 1)) = Value.int IntKind.i64 ((i + 1 : Nat) : Int) by rw [show wrap64 ((i : Int) + 1) = ((i + 1 : Nat) : Int) by unfold wrap64; omega])
      obtain ⟨ad, A1, c1, eA, x0, hc1, hC1⟩ := at_L3 (Kd.C_below HC.out HB2.out) (i : Int) (by omega) (by omega)
      subst eA
      obtain ⟨l, hl⟩ : ∃ l, l = rd_L3 ls (i : Int) := ⟨_, rfl⟩
      rw [← hl] at x0 hc1 hC1
      have hls : ls[i]? = some l := by rw [hl]; simp [rd_L3, hi]
      rw [show ((i : Int)).toNat = i from rfl] at x0
      have x0 := (HB.out.cell (World.block_lt_of_cell? w2 _ x0)).trans x0
      have HL := Lib.hid hls
      have HC1 := Lib.hid hC1
      have HC1L := Lib.hid hc1
      have HI7 := Lib.hid hm7
      clear hls hC1 hc1 hl hi hm7 HI
      go_upto_region 7 with (fail)
      by_cases h1000 : l.length > 1000
      ·have d2 : decide ((1000 : Int) < (l.length : Int)) = true := decide_eq_true (by omega)
       have d3 : decide (1000 < l.length) = true := decide_eq_true h1000
       clear h1000
       go_wp2_with fail
       rw [HQ.out]
       exact ⟨false, rfl, (fun h => by cases h), below_step HB2.out HB.out⟩
      ·have d2 : decide ((1000 : Int) < (l.length : Int)) = false := decide_eq_false (by omega)
       have d3 : decide (1000 < l.length) = false := decide_eq_false h1000
       have HLL := Lib.hid (show l.length ≤ 1000 by omega)
       clear h1000
       go_upto_block 2 with (fail)
       clear d2 d3 x0
       go_wp2_with fail
       go_loopg [5, 35] l.length (fun kq v5 v35 wx => ∃ (k : Nat) (seen2 : List Int), v35 = .int .i64 (k : Int) ∧ Aside0 (k + kq = l.length) ∧ Aside0 (Kd.R (Kd.int .i64) 3 wx w2.heap.size (fun _ => True) v5 seen2 ∧ Below w2.heap.size w2 wx ∧ seen2 = seen ++ (l.take k).map (·.f0) ∧ seen2.Nodup ∧ (∀ t ∈ l.take k, TOk t) ∧ ∀ q t u, q + 1 < k → l[q]? = some t → l[q + 1]? = some u → Adj2 i t u))
       case atStart => exact ⟨0, seen, rfl, ⟨by omega⟩, ⟨HR.out, HB.out, by simp, HSE.out.2.1, by simp, fun q t u hq => by omega⟩⟩
       case round =>
        obtain ⟨k, seen2, rfl, HI2, HQ3⟩ := hrel
        have HR2 := Lib.hid HQ3.out.1
        have HB2' := Lib.hid HQ3.out.2.1
        have HS2 := Lib.hid HQ3.out.2.2
        clear HQ3 HR HB
        by_cases hk : k < l.length
        ·have d2 : decide ((k : Int) < (l.length : Int)) = true := decide_eq_true (by omega)
         have d3 : k < l.length := hk
         have HGK2 := Lib.hid (show gk - 1 < gk ∧ k + 1 + (gk - 1) = l.length by have := HI2.out; omega)
         have HWK := Lib.hid (show Value.int IntKind.i64 (wrap64 ((k : Int) + 1)) = Value.int IntKind.i64 ((k + 1 : Nat) : Int) by rw [show wrap64 ((k : Int) + 1) = ((k + 1 : Nat) : Int) by have := HLL.out; unfold wrap64; omega])
         obtain ⟨A5, c5, rfl⟩ := Kd.R_slice HR2.out
         obtain ⟨n5, l5, hC5⟩ := Kd.R_reads' HR2.out
         have HC5 := Lib.hid hC5
         have HL5 := Lib.hid l5
         obtain ⟨ad1, eA1, y0, y1, y2, y3, y4, y5, y6, y7, y8⟩ := at_T68 (Kd.C_below HC1.out HB2'.out) (k : Int) (by omega) (by omega)
         subst eA1
         have htk : l[k]? = some (rd_T68 l (k : Int)) := by simp [rd_T68, hk]
         have HTK := Lib.hid (show l.take (k + 1) = l.take k ++ [rd_T68 l (k : Int)] by rw [List.take_succ_eq_append_getElem hk]; simp [rd_T68, hk])
         obtain ⟨t, ht⟩ : ∃ t, t = rd_T68 l (k : Int) := ⟨_, rfl⟩
         rw [← ht] at y0 y1 y2 y3 y4 y5 y6 y7 y8 htk HTK
         rw [show ((k : Int)).toNat = k from rfl] at y0 y1 y2 y3 y4 y5 y6 y7 y8
         have HT := Lib.hid htk
         have HSL := Lib.hid (show (seen2.length + 1) * 8 ≤ 140737488355328 ∧ seen2.length ≤ 1000000 by
          have e2 : seen2.length = seen.length + (l.take k).length := by rw [HS2.out.1, List.length_append, List.length_map]
          have := HSE.out.2.2.1
          have := HLL.out
          have := HI7.out
          rw [List.length_take] at e2
          omega)
         obtain ⟨rt, hrt, htok⟩ := table_ok t
         have K54 := Lib.hid (fun W => spec_tableOk.calls t.f0 t.f1 t.f2 t.f3 t.f4 t.f5 t.f6 t.f7 t.f8 rt W hrt)
         have K52 := Lib.hid (fun W hC => spec_Has.calls (seen2.length + 1) A5 c5 seen2 t.f0 (decide (t.f0 ∈ seen2)) W hC HL5.out (has_spec HSL.out.2 t.f0))
         have HTOK := Lib.hid htok
         clear hk HI2 n5 l5 hC5 ht htk hrt htok
         go_upto_region 12 with (fail)
         obtain ⟨w4, hw4⟩ : ∃ w4, w4 = wr.alloc (.cells #[.int .i64 t.f0, .string t.f1, .int .i64 t.f2, .string t.f3, .int .i64 t.f4, .int .i64 t.f5, .int .i64 t.f6, .int .i64 t.f7, .int .i64 t.f8] 68) := ⟨_, rfl⟩
         rw [← hw4]
         obtain ⟨tb, htb⟩ : ∃ b, b = wr.heap.size := ⟨_, rfl⟩
         rw [← htb]
         have HB4 := Lib.hid (show Below wr.heap.size wr w4 by rw [hw4]; exact below_alloc (Below.refl _ _) _)
         have HX4 := Lib.hid (show w4.heap[tb]? = some (.cells #[.int .i64 t.f0, .string t.f1, .int .i64 t.f2, .string t.f3, .int .i64 t.f4, .int .i64 t.f5, .int .i64 t.f6, .int .i64 t.f7, .int .i64 t.f8] 68 (0, 0)) by rw [hw4, htb]; exact blk_new wr _)
         clear hw4 htb y0 y1 y2 y3 y4 y5 y6 y7 y8
         have y0 := blk_cell HX4.out 0
         have y1 := blk_cell HX4.out 1
         have y2 := blk_cell HX4.out 2
         have y3 := blk_cell HX4.out 3
         have y4 := blk_cell HX4.out 4
         have y5 := blk_cell HX4.out 5
         have y6 := blk_cell HX4.out 6
         have y7 := blk_cell HX4.out 7
         have y8 := blk_cell HX4.out 8
         go_wp2_with fail
         refine (K54.out w4).mono ?_
         rintro en w5 ⟨rfl, hb5⟩
         have HB5 := Lib.hid (below_step HB4.out hb5)
         have HX5 := Lib.hid ((hb5.block _ (blk_lt HX4.out)).trans HX4.out)
         clear y0 y1 y2 y3 y4 y5 y6 y7 y8 hb5
         cases rt with
         | false =>
          go_wp2_with fail
          rw [HQ.out]
          exact ⟨false, rfl, (fun h => by cases h), below_step HB2.out (below_step HB2'.out HB5.out)⟩
         | true =>
          have HTOK2 := Lib.hid (HTOK.out rfl)
          have y0 := blk_cell HX5.out 0
          go_wp2_with fail
          refine (K52.out w5 (Kd.C_below HC5.out HB5.out)).mono ?_
          rintro en w6 ⟨rfl, hd6⟩
          have HB6 := Lib.hid (below_step HB5.out hd6.below)
          have HX6 := Lib.hid ((hd6.below.block _ (blk_lt HX5.out)).trans HX5.out)
          clear y0 hd6
          have y0 := blk_cell HX6.out 0
          by_cases hm : t.f0 ∈ seen2
          ·rw [decide_eq_true hm]
           clear hm
           go_wp2_with fail
           rw [HQ.out]
           exact ⟨false, rfl, (fun h => by cases h), below_step HB2.out (below_step HB2'.out HB6.out)⟩
          ·rw [decide_eq_false hm]
           have HNM := Lib.hid hm
           have HRA := Lib.hid (Kd.R_below HR2.out HB6.out)
           have HBA := Lib.hid (below_step HB2'.out HB6.out)
           clear hm
           go_upto_region 15 with (first | ((with_reducible refine gate_builtin (b := .append) (xs := #[.tmp 49, .tmp 52]) rfl ?_); at_builtin; refine Kd.R_append (Kd.int .i64) (w0 := w2) w2.heap.size rfl (.tmp 49) (.tmp 52) 28 3 (.int .i64 0) 8 rfl (by kernel_rfl) info3 rfl (by decide) (by omega) _ seen2 t.f0 [.int .i64 t.f0] (fun _ => True) (fun _ => False) rfl rfl ?aP (fun _ hk => hk.elim) ?aF ?aO ?aB ?aS ?aL ?_; (case aP => exact rfl); (case aB => exact HBA.out); (case aF => exact (fun _ _ => trivial)); (case aO => exact HRA.out); (case aS => exact below_size HBA.out); (case aL => exact HSL.out.1); intro v7 w7 ho hb hg hat; have HR7 := Lib.hid ho; have HB7 := Lib.hid hb; have HG7 := Lib.hid hg; clear ho hb hg hat))
           have HX7 := Lib.hid (show w7.heap[tb]? = some (.cells #[.int .i64 t.f0, .string t.f1, .int .i64 t.f2, .string t.f3, .int .i64 t.f4, .int .i64 t.f5, .int .i64 t.f6, .int .i64 t.f7, .int .i64 t.f8] 68 (0, 0)) by
            refine (HG7.out.block tb (blk_lt HX6.out) (fun e => ?_)).trans HX6.out
            obtain ⟨cs, hc⟩ := Kd.R_typed HRA.out tb e.symm
            rw [HX6.out] at hc
            injection hc with hc
            injection hc with _ e _
            exact absurd e (by decide))
           have HNX := Lib.hid (show ∀ W, Drawn0 w7 W → (∀ q u, q + 1 = k → l[q]? = some u → Adj2 i u t) → Kd.R (Kd.int .i64) 3 W w2.heap.size (fun _ => True) v7 (seen2 ++ [t.f0]) ∧ Below w2.heap.size w2 W ∧ seen2 ++ [t.f0] = seen ++ (l.take (k + 1)).map (·.f0) ∧ (seen2 ++ [t.f0]).Nodup ∧ (∀ t ∈ l.take (k + 1), TOk t) ∧ ∀ q t u, q + 1 < k + 1 → l[q]? = some t → l[q + 1]? = some u → Adj2 i t u from fun W hW hA => by
            obtain ⟨nq, rfl⟩ := hW
            have hs := HS2.out
            refine ⟨Kd.R_drewN HR7.out nq, pw_below_drewN HB7.out nq, ?_, ?_, ?_, fun q x u hq h1 h2 => ?_⟩
            ·rw [HTK.out, hs.1, List.map_append, List.append_assoc]; rfl
            ·rw [List.nodup_append]
             refine ⟨hs.2.1, by simp, fun x hx y hy e => ?_⟩
             rw [List.mem_singleton.1 hy] at e
             exact HNM.out (e ▸ hx)
            ·intro x hx
             rw [HTK.out] at hx
             rcases List.mem_append.1 hx with h | h
             ·exact hs.2.2.1 x h
             ·rw [List.mem_singleton.1 h]; exact HTOK2.out
            ·by_cases e : q + 1 = k
             ·rw [e, HT.out] at h2
              obtain rfl := Option.some.inj h2
              exact hA q x e h1
             ·exact hs.2.2.2 q x u (by omega) h1 h2)
           clear y0 HR2 HRA HBA HX4 HX5 HX6 HB4 HB5 HB6 HTOK HTOK2 HS2 HNM HG7 HR7 K54 K52 HTK
           have y0 := blk_cell HX7.out 0
           have y1 := blk_cell HX7.out 1
           cases k with
           | zero =>
            go_quiet (fail)
            go_wp2_with fail
            go_roundg (gk - 1)
            case measure => exact HGK2.out.1
            case rel => exact ⟨0 + 1, seen2 ++ [t.f0], rfl, ⟨HGK2.out.2⟩, ⟨HNX.out _ ⟨nq, rfl⟩ (fun q u hq => by omega)⟩⟩
           | succ j =>
            obtain ⟨ad2, eA2, z0, -, -, z3, -, -, -, -, -⟩ := at_T68 (Kd.C_below HC1.out HB7.out) (j : Int) (by omega) (by omega)
            obtain rfl := Option.some.inj eA2
            have huk : l[j]? = some (rd_T68 l (j : Int)) := by simp [rd_T68, show j < l.length by omega]
            obtain ⟨u, hu⟩ : ∃ u, u = rd_T68 l (j : Int) := ⟨_, rfl⟩
            rw [← hu] at z0 z3 huk
            rw [show ((j : Int)).toNat = j from rfl] at z0 z3
            have HU := Lib.hid huk
            have dj : j < l.length := by omega
            have p0 : decide ((0 : Int) < (j : Int) + 1) = true := decide_eq_true (by omega)
            have p1 : IntKind.i64.wrap ((j : Int) + 1 - 1) = (j : Int) := by rw [IntWalk.i64_in _ (by have := HLL.out; omega)]; omega
            have p2 : IntKind.i64.wrap (j : Int) = (j : Int) := by rw [IntWalk.i64_in _ (by have := HLL.out; omega)]
            clear hu huk eA2
            by_cases h0 : i = 0
            ·have q0 : ((i : Int) == 0) = true := beq_iff_eq.2 (by omega)
             have q1 : decide ((0 : Int) < (i : Int)) = false := decide_eq_false (by omega)
             have q2 : decide (0 < i) = false := decide_eq_false (by omega)
             have HI0 := Lib.hid h0
             clear h0
             by_cases hn : u.f0 < t.f0
             ·have r0 : decide (t.f0 ≤ u.f0) = false := decide_eq_false (by omega)
              have HNN := Lib.hid hn
              clear hn
              go_quiet (fail)
              go_wp2_with fail
              go_roundg (gk - 1)
              case measure => exact HGK2.out.1
              case rel => exact ⟨j + 1 + 1, seen2 ++ [t.f0], HWK.out, ⟨HGK2.out.2⟩, ⟨HNX.out _ ⟨nq, rfl⟩ (fun q x hq hx => by
               obtain rfl : q = j := by omega
               rw [HU.out] at hx
               obtain rfl := Option.some.inj hx
               exact ⟨fun _ => HNN.out, fun h => absurd HI0.out h⟩)⟩⟩
             ·have r0 : decide (t.f0 ≤ u.f0) = true := decide_eq_true (by omega)
              clear hn
              go_quiet (fail)
              go_wp2_with fail
              rw [HQ.out]
              exact ⟨false, rfl, (fun h => by cases h), below_step HB2.out (pw_below_drewN HB7.out nq)⟩
            ·have q0 : ((i : Int) == 0) = false := beq_eq_false_iff_ne.2 (by omega)
             have q1 : decide ((0 : Int) < (i : Int)) = true := decide_eq_true (by omega)
             have q2 : decide (0 < i) = true := decide_eq_true (by omega)
             have HI0 := Lib.hid h0
             clear h0
             cases hn : Op.bytesLess u.f3.toList t.f1.toList with
             | true =>
              have HNN := Lib.hid hn
              go_quiet (fail)
              go_wp2_with fail
              go_roundg (gk - 1)
              case measure => exact HGK2.out.1
              case rel => exact ⟨j + 1 + 1, seen2 ++ [t.f0], HWK.out, ⟨HGK2.out.2⟩, ⟨HNX.out _ ⟨nq, rfl⟩ (fun q x hq hx => by
               obtain rfl : q = j := by omega
               rw [HU.out] at hx
               obtain rfl := Option.some.inj hx
               exact ⟨fun h => absurd h HI0.out, fun _ => HNN.out⟩)⟩⟩
             | false =>
              go_quiet (fail)
              go_wp2_with fail
              rw [HQ.out]
              exact ⟨false, rfl, (fun h => by cases h), below_step HB2.out (pw_below_drewN HB7.out nq)⟩
        ·have d2 : decide ((k : Int) < (l.length : Int)) = false := decide_eq_false (by omega)
         have d3 : decide (k < l.length) = false := decide_eq_false hk
         have HLK := Lib.hid (show l.take k = l from List.take_of_length_le (by omega))
         have HKE := Lib.hid (show k = l.length by have := HI2.out; omega)
         clear hk HI2
         go_wp2_with fail
         go_roundg (gq - 1)
         case measure => exact HGK.out.1
         case rel =>
          have hs := HS2.out
          rw [HLK.out] at hs
          have hsn := HSE.out
          refine ⟨i + 1, seen2, HWR.out, ⟨HGK.out.2⟩, ⟨HR2.out, HB2'.out, ?_, hs.2.1, ?_, fun j l2 hj hl2 => ?_⟩⟩
          ·rw [hs.1, hsn.1, List.take_add_one, HL.out]
           simp
          ·have e2 : seen2.length = seen.length + l.length := by rw [hs.1, List.length_append, List.length_map]
           have := hsn.2.2.1
           have := HLL.out
           omega
          ·by_cases e : j = i
           ·subst e
            rw [HL.out] at hl2
            obtain rfl := Option.some.inj hl2
            exact ⟨HLL.out, hs.2.2.1, fun q t u h1 h2 => hs.2.2.2 q t u (by rw [HKE.out]; exact (List.getElem?_eq_some_iff.1 h2).1) h1 h2⟩
           ·exact hsn.2.2.2 j l2 (by omega) hl2
     ·have d1 : decide ((i : Int) < (ls.length : Int)) = false := decide_eq_false (by omega)
      have dn : decide (i < ls.length) = false := decide_eq_false hi
      have HE := Lib.hid (show LvOk ls m a b c d e f g from by
       have hs := HSE.out
       rw [List.take_of_length_le (by omega)] at hs
       exact ⟨HOO.out, HM.out, fun j l hj => hs.2.2.2 j l (by have := (List.getElem?_eq_some_iff.1 hj).1; omega) hj, by rw [← hs.1]; exact hs.2.1⟩)
      clear hi HI
      go_wp2_with fail
      go_meet
      case rel => exact ⟨HE.out, HB.out⟩
   case rest =>
    obtain ⟨hlv, hbw⟩ := hcut
    have HLV := Lib.hid hlv
    have HBW := Lib.hid (below_step HB2.out hbw)
    have HO3 := Lib.hid ((hbw.block _ (blk_lt HO2.out)).trans HO2.out)
    clear hlv hbw HR3 HB3
    obtain ⟨n, hn⟩ : ∃ n, ls.length = n + 1 := ⟨ls.length - 1, by have := HOO.out.m; have := HM.out; omega⟩
    have HN := Lib.hid (show n ≤ 100 from by have := HOO.out.m; have := HM.out; omega)
    obtain ⟨ad, A1, c1, eA, x0, hc1, hC1⟩ := at_L3 (Kd.C_below HC.out HBW.out) (n : Int) (by omega) (by omega)
    subst eA
    obtain ⟨l, hl⟩ : ∃ l, l = rd_L3 ls (n : Int) := ⟨_, rfl⟩
    rw [← hl] at x0 hc1 hC1
    have hls : ls[n]? = some l := by rw [hl]; simp [rd_L3, show n < ls.length by omega]
    rw [show ((n : Int)).toNat = n from rfl] at x0
    have hin : ∀ t ∈ l, InTab t := fun t ht => in_tab ((HLV.out.row n l hls).tab t ht) (HTS.out l (List.mem_of_getElem? hls) t ht)
    have hll := (HLV.out.row n l hls).len
    have K50 := Lib.hid (spec_Size.calls (l.length + 1) A1 c1 l (Tl.sizeOf l) wc hC1 hc1 (size_spec (by omega) hin (Nat.le_refl _)))
    have HSZ := Lib.hid (show 0 ≤ Tl.sizeOf l ∧ Tl.sizeOf l ≤ 1000000000000000 from ⟨(size_bd hin).1, by have := (size_bd hin).2; omega⟩)
    have s1 : IntKind.i64.wrap ((n : Int) + 1 - 1) = (n : Int) := by rw [IntWalk.i64_in _ (by have := HN.out; omega)]; omega
    have s2 : wrap64 (n : Int) = (n : Int) := by have := HN.out; unfold wrap64; omega
    have HMU := Lib.hid HOO.out.a
    rw [hn]
    clear hl hls hin hll hc1 hC1 hn HLN HM HOO HOK K53
    go_wp2_with fail
    refine K50.out.mono ?_
    rintro en w9 ⟨rfl, hb9⟩
    have HB9 := Lib.hid (below_step HBW.out hb9)
    have HO9 := Lib.hid ((hb9.block _ (blk_lt HO3.out)).trans HO3.out)
    clear hb9 x0 s1 s2 K50
    generalize Tl.sizeOf l = sz0 at HSZ ⊢
    go_wp2_with fail
    go_loopg [10, 11] (n + 1) (fun kq v10 v11 wr => w9 = wr ∧ ∃ (s : Int) (k : Nat), v10 = .int .i64 s ∧ v11 = .int .i64 (k : Int) ∧ Aside0 (0 ≤ s ∧ s ≤ 1000000000000000 ∧ 2 ≤ k ∧ k ≤ n + 2 ∧ n + 1 ≤ k + kq))
    case atStart => exact ⟨rfl, sz0, 2, rfl, rfl, ⟨HSZ.out.1, HSZ.out.2, by omega, by omega, by omega⟩⟩
    case round =>
     obtain ⟨rfl, s, k, rfl, rfl, HI⟩ := hrel
     by_cases hk : k < n + 1
     ·have d1 : decide ((k : Int) < (n : Int) + 1) = true := decide_eq_true (by omega)
      have d2 : k < n + 1 := hk
      have d3 : 0 ≤ s := HI.out.1
      have d4 : 2 ≤ a := HMU.out.1
      have HTD := Lib.hid (show 0 ≤ wrap64 (s.tdiv a) ∧ wrap64 (s.tdiv a) ≤ s by
       have h := tdiv_in d3 d4
       have := HI.out
       rw [Int.tdiv_eq_ediv_of_nonneg d3]
       unfold wrap64
       omega)
      have HI2 := Lib.hid HI.out
      have HGK := Lib.hid (show gk - 1 < gk ∧ k + 1 ≤ n + 2 ∧ n + 1 ≤ k + 1 + (gk - 1) by have := HI.out; omega)
      have HWR := Lib.hid (show Value.int IntKind.i64 (wrap64 ((k : Int) + 1)) = Value.int IntKind.i64 ((k + 1 : Nat) : Int) by rw [show wrap64 ((k : Int) + 1) = ((k + 1 : Nat) : Int) by have := HN.out; unfold wrap64; omega])
      have x1 := blk_cell HO9.out 1
      clear HI hk
      go_wp2_with fail
      go_roundg (gk - 1)
      case measure => exact HGK.out.1
      case rel => exact ⟨rfl, _, k + 1, rfl, HWR.out, ⟨HTD.out.1, Int.le_trans HTD.out.2 HI2.out.2.1, by have := HI2.out; omega, HGK.out.2.1, HGK.out.2.2⟩⟩
     ·have d1 : decide ((k : Int) < (n : Int) + 1) = false := decide_eq_false (by omega)
      have d2 : decide (k < n + 1) = false := decide_eq_false hk
      have x4 := blk_cell HO9.out 4
      clear HI hk
      go_wp2_with fail
      rw [HQ.out]
      exact ⟨_, rfl, (fun _ => HLV.out), HB9.out⟩
  ·have dm : ((ls.length : Int) != m) = true := bne_iff_ne.2 hm
   clear hm
   go_wp2_with fail
   rw [HQ.out]
   exact ⟨false, rfl, (fun h => by cases h), HB2.out⟩
end Go.Proofs.YtnineoajmgneiaaGreat.Lk
namespace Go.Proofs.YtnineoajmgneiaaGreat.Fl
open Ieee
/-- Double precision. -/
abbrev D : Format := Ieee.double
theorem least_D : D.leastPlace = -1074 := by decide
theorem binade_D : D.binade = 4503599627370496 := by decide
theorem inf_D : D.infRung = 9218868437227405312 := by decide
theorem sign_D : D.signWeight = 9223372036854775808 := by decide
theorem cmp_cast (a b : Nat) : compare (a : Int) (b : Int) = compare a b := by
  simp only [compare, compareOfLessAndEq]
  by_cases h : a < b
  · rw [if_pos (by omega), if_pos h]
  · rw [if_neg (by omega), if_neg h]
    by_cases h2 : a = b
    · rw [if_pos (by omega), if_pos h2]
    · rw [if_neg (by omega), if_neg h2]
theorem cmp_mul (a b k : Nat) (hk : 0 < k) : compare (a * k) (b * k) = compare a b := by
  simp only [compare, compareOfLessAndEq]
  by_cases h : a < b
  · rw [if_pos (Nat.mul_lt_mul_of_pos_right h hk), if_pos h]
  · rw [if_neg (fun x => h (Nat.lt_of_mul_lt_mul_right x)), if_neg h]
    by_cases h2 : a = b
    · rw [if_pos (by rw [h2]), if_pos h2]
    · rw [if_neg (fun x => h2 (Nat.eq_of_mul_eq_mul_right hk x)), if_neg h2]
theorem order_at (m n : Nat) (i j B : Int) (hi : B ≤ i) (hj : B ≤ j) :
    Datum.order (.number false m i) (.number false n j) = some (compare (m * 2 ^ (i - B).toNat) (n * 2 ^ (j - B).toNat)) := by
  simp only [Datum.order, signed, Bool.false_eq_true, if_false]
  rw [cmp_cast, Nat.shiftLeft_eq, Nat.shiftLeft_eq]
  have h1 : (i - B).toNat = (i - min i j).toNat + (min i j - B).toNat := by omega
  have h2 : (j - B).toNat = (j - min i j).toNat + (min i j - B).toNat := by omega
  rw [h1, h2, Nat.pow_add, Nat.pow_add, ← Nat.mul_assoc, ← Nat.mul_assoc, cmp_mul _ _ _ (Nat.pow_pos (by omega))]
/-- The mark of a word: its number in units of the least. -/
def V (r : Nat) : Nat := if r < 4503599627370496 then r else (4503599627370496 + r % 4503599627370496) * 2 ^ (r / 4503599627370496 - 1)
theorem V_lt {r s : Nat} (h : r < s) : V r < V s := by
  unfold V
  by_cases h1 : r < 4503599627370496
  · rw [if_pos h1]
    by_cases h2 : s < 4503599627370496
    · rw [if_pos h2]; exact h
    · rw [if_neg h2]
      have := Nat.pow_pos (n := s / 4503599627370496 - 1) (show 0 < 2 by omega)
      calc r < 4503599627370496 := h1
        _ ≤ 4503599627370496 + s % 4503599627370496 := by omega
        _ ≤ _ := Nat.le_mul_of_pos_right _ this
  · have h2 : ¬ s < 4503599627370496 := by omega
    rw [if_neg h1, if_neg h2]
    by_cases hq : r / 4503599627370496 = s / 4503599627370496
    · rw [hq]
      exact Nat.mul_lt_mul_of_pos_right (by omega) (Nat.pow_pos (by omega))
    · have hlt : r / 4503599627370496 < s / 4503599627370496 := by omega
      obtain ⟨q, hq1⟩ : ∃ q, r / 4503599627370496 = q + 1 := ⟨r / 4503599627370496 - 1, by omega⟩
      obtain ⟨p, hp1⟩ : ∃ p, s / 4503599627370496 = q + 1 + p + 1 := ⟨s / 4503599627370496 - (q + 2), by omega⟩
      rw [hq1, hp1, Nat.add_sub_cancel, Nat.add_sub_cancel]
      have e : 2 ^ (q + 1 + p) = 2 ^ q * 2 * 2 ^ p := by rw [Nat.pow_add, Nat.pow_succ]
      have hp0 := Nat.pow_pos (n := p) (show 0 < 2 by omega)
      have hq0 := Nat.pow_pos (n := q) (show 0 < 2 by omega)
      calc (4503599627370496 + r % 4503599627370496) * 2 ^ q < (4503599627370496 * 2) * 2 ^ q := Nat.mul_lt_mul_of_pos_right (by omega) hq0
        _ = 4503599627370496 * (2 ^ q * 2) := by rw [Nat.mul_assoc, Nat.mul_comm 2]
        _ ≤ 4503599627370496 * (2 ^ q * 2 * 2 ^ p) := Nat.mul_le_mul_left _ (Nat.le_mul_of_pos_right _ hp0)
        _ ≤ (4503599627370496 + s % 4503599627370496) * (2 ^ q * 2 * 2 ^ p) := Nat.mul_le_mul_right _ (by omega)
        _ = _ := by rw [e]
theorem cmp_V (r s : Nat) : compare (V r) (V s) = compare r s := by
  rcases Nat.lt_trichotomy r s with h | h | h
  · rw [Nat.compare_eq_lt.2 h, Nat.compare_eq_lt.2 (V_lt h)]
  · rw [h]; simp
  · rw [Nat.compare_eq_gt.2 h, Nat.compare_eq_gt.2 (V_lt h)]
theorem read_num {r : Nat} (h : r < 9218868437227405312) : ∃ m i, D.read r = .number false m i ∧ -1074 ≤ i ∧ m * 2 ^ (i + 1074).toNat = V r ∧ (0 < r → 0 < m) := by
  unfold Format.read
  rw [sign_D, inf_D, binade_D, least_D]
  have h1 : r / 9223372036854775808 % 2 = 0 := by omega
  have h2 : r % 9223372036854775808 = r := by omega
  rw [h1, h2]
  unfold V
  by_cases h3 : r < 4503599627370496
  · simp only [if_pos h3]
    exact ⟨r, -1074, rfl, by omega, by simp, id⟩
  · simp only [if_neg h3, if_pos h]
    refine ⟨_, _, rfl, by omega, ?_, fun _ => by omega⟩
    congr 2
    omega
theorem read_inf : D.read 9218868437227405312 = .infinity false := by decide
/-- The words of numbers that are not negative, and of infinity, go up as their numbers do. -/
theorem order_words {r s : Nat} (hr : r ≤ 9218868437227405312) (hs : s ≤ 9218868437227405312) : D.order r s = some (compare r s) := by
  unfold Format.order
  by_cases h1 : r = 9218868437227405312
  · subst h1
    rw [read_inf]
    by_cases h2 : s = 9218868437227405312
    · subst h2; rw [read_inf]; simp [Datum.order]
    · obtain ⟨m, i, e, _, _⟩ := read_num (r := s) (by omega)
      rw [e, Nat.compare_eq_gt.2 (by omega)]
      rfl
  · obtain ⟨m, i, e, hi, hv, _⟩ := read_num (r := r) (by omega)
    rw [e]
    by_cases h2 : s = 9218868437227405312
    · subst h2; rw [read_inf, Nat.compare_eq_lt.2 (by omega)]; rfl
    · obtain ⟨n, j, e2, hj, hv2, _⟩ := read_num (r := s) (by omega)
      rw [e2, order_at m n i j (-1074) hi hj]
      rw [show i - -1074 = i + 1074 by omega, show j - -1074 = j + 1074 by omega, hv, hv2, cmp_V]
/-- What is written is a word of this kind. -/
theorem nearest_le (m : Nat) (p : Int) : D.nearest false m p ≤ 9218868437227405312 := by
  unfold Format.nearest
  split
  · simp [Format.word]
  · simp only [Format.word, Bool.false_eq_true, if_false, inf_D]
    exact Nat.min_le_right _ _
theorem write_le {d : Datum} (h : d.neg = false) (hn : d.isNaN = false) : D.write d ≤ 9218868437227405312 := by
  cases d with
  | number s m e => simp only [Datum.neg] at h; subst h; exact nearest_le _ _
  | infinity s => simp only [Datum.neg] at h; subst h; simp [Format.write, Format.word, inf_D]
  | nan s t => simp [Datum.isNaN] at hn
/-- A quotient by what is not nought. -/
theorem div_word {x y : Nat} (hx : x ≤ 9218868437227405312) (h0 : 0 < y) (hy : y < 9218868437227405312) : ∃ r, D.div x y = some r ∧ r ≤ 9218868437227405312 := by
  obtain ⟨n, j, e2, hj, hv2, hn⟩ := read_num hy
  unfold Format.div
  rw [e2]
  by_cases h1 : x = 9218868437227405312
  · subst h1; rw [read_inf]; exact ⟨_, rfl, write_le rfl rfl⟩
  · obtain ⟨m, i, e, hi, hv, _⟩ := read_num (r := x) (by omega)
    rw [e]
    have hn0 : n ≠ 0 := by have := hn h0; omega
    simp only [Datum.quotient, if_neg hn0]
    exact ⟨_, rfl, nearest_le _ _⟩
theorem cut0 (neg : Bool) (n : Nat) : Toward.even.cut neg n 0 = n := by
  unfold Toward.cut
  simp [Nat.mod_one]
theorem cut_le (neg : Bool) (n d : Nat) : Toward.even.cut neg n d ≤ n / (1 <<< min d (n.log2 + 2)) + 1 := by
  unfold Toward.cut
  simp only []
  have := Bool.toNat_le (decide (1 <<< min d (n.log2 + 2) < 2 * (n % 1 <<< min d (n.log2 + 2))) || (1 <<< min d (n.log2 + 2) == 2 * (n % 1 <<< min d (n.log2 + 2)) && n / 1 <<< min d (n.log2 + 2) % 2 == 1))
  omega
theorem cut_ge (neg : Bool) (n d : Nat) : n / (1 <<< min d (n.log2 + 2)) ≤ Toward.even.cut neg n d := by
  unfold Toward.cut
  exact Nat.le_add_right _ _
theorem nearest_pos {m : Nat} (h : m ≠ 0) (p : Int) : D.nearest false m p = min ((max (p + m.log2 - 52) (-1074) + 1074).toNat * 4503599627370496 + Toward.even.cut false (m <<< (p - max (p + m.log2 - 52) (-1074)).toNat) (max (p + m.log2 - 52) (-1074) - p).toNat) 9218868437227405312 := by
  unfold Format.nearest
  rw [if_neg h, least_D, binade_D, inf_D]
  simp only [Format.word, Bool.false_eq_true, if_false]
  rw [show ((D.fractionBits : Nat) : Int) = 52 from rfl, Int.sub_neg]
theorem read_norm {q k : Nat} (h1 : 4503599627370496 ≤ k) (h2 : k < 9007199254740992) (hq : q ≤ 2045) : D.read (q * 4503599627370496 + k) = .number false k (-1074 + q) := by
  unfold Format.read
  rw [sign_D, inf_D, binade_D, least_D]
  have e1 : (q * 4503599627370496 + k) / 9223372036854775808 % 2 = 0 := by omega
  have e2 : (q * 4503599627370496 + k) % 9223372036854775808 = q * 4503599627370496 + k := by omega
  rw [e1, e2]
  simp only []
  rw [if_neg (by omega), if_pos (by omega)]
  have e3 : 4503599627370496 + (q * 4503599627370496 + k) % 4503599627370496 = k := by omega
  have e4 : (q * 4503599627370496 + k) / 4503599627370496 - 1 = q := by omega
  rw [e3, e4]
  rfl
theorem log2_lt_of {n e : Nat} (h : n < 2 ^ e) (h0 : n ≠ 0) : n.log2 < e := (Nat.log2_lt h0).2 h
/-- A whole number under 2^53 is a word of its own. -/
theorem whole {n : Nat} (h0 : n ≠ 0) (h : n < 9007199254740992) : D.read (D.nearest false n 0) = .number false (n * 2 ^ (52 - n.log2)) (n.log2 - 52) ∧ D.nearest false n 0 < 9218868437227405312 ∧ 0 < D.nearest false n 0 := by
  have hl : n.log2 < 53 := log2_lt_of (by simpa using h) h0
  have h1 := Nat.log2_self_le h0
  have h2 := @Nat.lt_log2_self n
  have e : max (0 + (n.log2 : Int) - 52) (-1074) = (n.log2 : Int) - 52 := by omega
  rw [nearest_pos h0, e, show ((n.log2 : Int) - 52 - 0).toNat = 0 by omega, cut0, show (0 - ((n.log2 : Int) - 52)).toNat = 52 - n.log2 by omega, Nat.shiftLeft_eq]
  have k1 : 4503599627370496 ≤ n * 2 ^ (52 - n.log2) := by
    calc 4503599627370496 = 2 ^ n.log2 * 2 ^ (52 - n.log2) := by rw [← Nat.pow_add, show n.log2 + (52 - n.log2) = 52 by omega]
      _ ≤ _ := Nat.mul_le_mul_right _ h1
  have k2 : n * 2 ^ (52 - n.log2) < 9007199254740992 := by
    calc n * 2 ^ (52 - n.log2) < 2 ^ (n.log2 + 1) * 2 ^ (52 - n.log2) := Nat.mul_lt_mul_of_pos_right h2 (Nat.pow_pos (by omega))
      _ = 9007199254740992 := by rw [← Nat.pow_add, show n.log2 + 1 + (52 - n.log2) = 53 by omega]
  have e2 : ((n.log2 : Int) - 52 + 1074).toNat = n.log2 + 1022 := by omega
  rw [e2, Nat.min_eq_left (by omega)]
  refine ⟨?_, by omega, by omega⟩
  rw [read_norm k1 k2 (by omega), show (-1074 : Int) + ((n.log2 + 1022 : Nat) : Int) = (n.log2 : Int) - 52 by omega]
set_option maxRecDepth 4000 in
theorem log2_mul_pow {n : Nat} (h0 : n ≠ 0) (h : n < 9007199254740992) : (n * 2 ^ (52 - n.log2)).log2 = 52 := by
  have hl : n.log2 < 53 := log2_lt_of (by simpa using h) h0
  have h1 := Nat.log2_self_le h0
  have h2 := @Nat.lt_log2_self n
  have k1 : 2 ^ 52 ≤ n * 2 ^ (52 - n.log2) := by
    calc 2 ^ 52 = 2 ^ n.log2 * 2 ^ (52 - n.log2) := by rw [← Nat.pow_add, show n.log2 + (52 - n.log2) = 52 by omega]
      _ ≤ _ := Nat.mul_le_mul_right _ h1
  have k2 : n * 2 ^ (52 - n.log2) < 2 ^ 53 := by
    calc n * 2 ^ (52 - n.log2) < 2 ^ (n.log2 + 1) * 2 ^ (52 - n.log2) := Nat.mul_lt_mul_of_pos_right h2 (Nat.pow_pos (by omega))
      _ = 2 ^ 53 := by rw [← Nat.pow_add, show n.log2 + 1 + (52 - n.log2) = 53 by omega]
  have a1 : (n * 2 ^ (52 - n.log2)) ≠ 0 := by omega
  have a2 := (Nat.log2_lt a1).2 k2
  have a3 := (Nat.le_log2 a1).2 k1
  omega
/-- At least 2^e: the word is at least that of 2^e. -/
theorem nearest_ge {m : Nat} {p : Int} (e : Nat) (h0 : m ≠ 0) (h : (e : Int) ≤ p + m.log2) (he : e ≤ 900) : (e + 1023) * 4503599627370496 ≤ D.nearest false m p := by
  have h1 := Nat.log2_self_le h0
  rw [nearest_pos h0]
  have e1 : max (p + (m.log2 : Int) - 52) (-1074) = p + (m.log2 : Int) - 52 := by omega
  rw [e1]
  have hk : 4503599627370496 ≤ Toward.even.cut false (m <<< (p - (p + (m.log2 : Int) - 52)).toNat) (p + (m.log2 : Int) - 52 - p).toNat := by
    by_cases hs : m.log2 ≤ 52
    · rw [show (p + (m.log2 : Int) - 52 - p).toNat = 0 by omega, cut0, show (p - (p + (m.log2 : Int) - 52)).toNat = 52 - m.log2 by omega, Nat.shiftLeft_eq]
      calc 4503599627370496 = 2 ^ m.log2 * 2 ^ (52 - m.log2) := by rw [← Nat.pow_add, show m.log2 + (52 - m.log2) = 52 by omega]
        _ ≤ _ := Nat.mul_le_mul_right _ h1
    · rw [show (p - (p + (m.log2 : Int) - 52)).toNat = 0 by omega, Nat.shiftLeft_zero, show (p + (m.log2 : Int) - 52 - p).toNat = m.log2 - 52 by omega]
      refine Nat.le_trans ?_ (cut_ge _ _ _)
      rw [show min (m.log2 - 52) (m.log2 + 2) = m.log2 - 52 by omega, Nat.shiftLeft_eq, Nat.one_mul, Nat.le_div_iff_mul_le (Nat.pow_pos (by omega))]
      calc 4503599627370496 * 2 ^ (m.log2 - 52) = 2 ^ m.log2 := by rw [show (4503599627370496 : Nat) = 2 ^ 52 by rfl, ← Nat.pow_add, show 52 + (m.log2 - 52) = m.log2 by omega]
        _ ≤ m := h1
  generalize Toward.even.cut false (m <<< (p - (p + (m.log2 : Int) - 52)).toNat) (p + (m.log2 : Int) - 52 - p).toNat = ct at *
  obtain ⟨q, hq⟩ : ∃ q, q = (p + (m.log2 : Int) - 52 + 1074).toNat := ⟨_, rfl⟩
  have hq2 : e + 1022 ≤ q := by omega
  rw [← hq]
  refine Nat.le_min.2 ⟨?_, ?_⟩
  · rw [show e + 1023 = e + 1022 + 1 from rfl, Nat.succ_mul]
    exact Nat.add_le_add (Nat.mul_le_mul_right _ hq2) hk
  · exact Nat.le_trans (Nat.mul_le_mul_right _ (show e + 1023 ≤ 2047 from Nat.add_le_add_right (Nat.le_trans he (by decide : 900 ≤ 1024)) 1023)) (by decide)
/-- Under 2^(e + 1): the word is at most that of 2^(e + 1). -/
theorem nearest_le_of {m : Nat} {p : Int} (e : Int) (h0 : m ≠ 0) (h : p + m.log2 ≤ e) (he : -1022 ≤ e) : (D.nearest false m p : Int) ≤ (e + 1024) * 4503599627370496 := by
  have h2 := @Nat.lt_log2_self m
  rw [nearest_pos h0]
  obtain ⟨q, hq⟩ : ∃ q, q = max (p + (m.log2 : Int) - 52) (-1074) := ⟨_, rfl⟩
  rw [← hq]
  have hk : Toward.even.cut false (m <<< (p - q).toNat) (q - p).toNat ≤ 9007199254740992 := by
    by_cases hs : q ≤ p
    · rw [show (q - p).toNat = 0 by omega, cut0, Nat.shiftLeft_eq]
      have : m * 2 ^ (p - q).toNat < 2 ^ 53 := by
        calc m * 2 ^ (p - q).toNat < 2 ^ (m.log2 + 1) * 2 ^ (p - q).toNat := Nat.mul_lt_mul_of_pos_right h2 (Nat.pow_pos (by omega))
          _ = 2 ^ (m.log2 + 1 + (p - q).toNat) := (Nat.pow_add 2 _ _).symm
          _ ≤ 2 ^ 53 := Nat.pow_le_pow_right (by omega) (by omega)
      omega
    · rw [show (p - q).toNat = 0 by omega, Nat.shiftLeft_zero]
      refine Nat.le_trans (cut_le _ _ _) ?_
      have : m / (1 <<< min (q - p).toNat (m.log2 + 2)) < 2 ^ 53 := by
        rw [Nat.shiftLeft_eq, Nat.one_mul, Nat.div_lt_iff_lt_mul (Nat.pow_pos (by omega)), ← Nat.pow_add]
        exact Nat.lt_of_lt_of_le h2 (Nat.pow_le_pow_right (by omega) (by omega))
      omega
  omega
/-- At most 1 - 2^-53: the word is under that of 1. -/
theorem nearest_lt_one {m s : Nat} (h0 : m ≠ 0) (hs : 53 ≤ s) (hs2 : s ≤ 900) (h : m + 2 ^ (s - 53) ≤ 2 ^ s) : D.nearest false m (-(s : Int)) < 4607182418800017408 := by
  have hl : m.log2 < s := log2_lt_of (by have := Nat.pow_pos (n := s - 53) (show 0 < 2 by omega); omega) h0
  by_cases h1 : m.log2 + 1 < s
  · have := nearest_le_of (m := m) (p := -(s : Int)) (-2) h0 (by omega) (by omega)
    omega
  · have e0 : (m.log2 : Int) = s - 1 := by omega
    rw [nearest_pos h0]
    have e1 : max (-(s : Int) + (m.log2 : Int) - 52) (-1074) = -53 := by omega
    rw [e1, show (-(s : Int) - -53).toNat = 0 by omega, Nat.shiftLeft_zero, show (-53 - -(s : Int)).toNat = s - 53 by omega]
    have hk : Toward.even.cut false m (s - 53) < 9007199254740992 := by
      have e2 : 1 <<< min (s - 53) (m.log2 + 2) = 2 ^ (s - 53) := by rw [Nat.shiftLeft_eq, Nat.one_mul, show min (s - 53) (m.log2 + 2) = s - 53 by omega]
      have hg := Nat.pow_pos (n := s - 53) (show 0 < 2 by omega)
      have e3 : 2 ^ s = 9007199254740992 * 2 ^ (s - 53) := by rw [show (9007199254740992 : Nat) = 2 ^ 53 by rfl, ← Nat.pow_add, show 53 + (s - 53) = s by omega]
      have hlow : m / 2 ^ (s - 53) ≤ 9007199254740991 := by
        have : m / 2 ^ (s - 53) < 9007199254740992 := by
          rw [Nat.div_lt_iff_lt_mul hg]; omega
        omega
      by_cases hq : m / 2 ^ (s - 53) = 9007199254740991
      · have hr : m % 2 ^ (s - 53) = 0 := by
          have := Nat.div_add_mod m (2 ^ (s - 53))
          rw [hq, Nat.mul_comm] at this
          omega
        unfold Toward.cut
        simp only [e2]
        rw [hr, hq]
        have h3 : decide (2 ^ (s - 53) < 2 * 0) = false := decide_eq_false (by omega)
        have h4 : (2 ^ (s - 53) == 2 * 0) = false := by rw [beq_eq_false_iff_ne]; omega
        rw [h3, h4]
        decide
      · have := cut_le false m (s - 53)
        rw [e2] at this
        omega
    omega
/-- The quotient of two whole numbers: some word, under infinity, and at least 1 just where the one is at least the other. -/
theorem div_whole {a b : Nat} (ha : a < 9007199254740992) (hb : b < 9007199254740992) (hb0 : b ≠ 0) : ∃ r, D.div (D.nearest false a 0) (D.nearest false b 0) = some r ∧ r < 9218868437227405312 ∧ (4607182418800017408 ≤ r ↔ b ≤ a) := by
  obtain ⟨rb, _, _⟩ := whole hb0 hb
  have hlb : b.log2 < 53 := log2_lt_of (by simpa using hb) hb0
  have gb := log2_mul_pow hb0 hb
  have nb : b * 2 ^ (52 - b.log2) ≠ 0 := Nat.mul_ne_zero hb0 (by have := Nat.pow_pos (n := 52 - b.log2) (show 0 < 2 by omega); omega)
  unfold Format.div
  rw [rb]
  by_cases ha0 : a = 0
  · subst ha0
    have r0 : D.read (D.nearest false 0 0) = .number false 0 (-1074) := by decide
    rw [r0]
    simp only [Datum.quotient, if_neg nb, Nat.zero_shiftLeft, Nat.zero_div, Nat.zero_mod]
    refine ⟨_, rfl, ?_, ?_⟩
    · simp [Format.write, Format.nearest, Format.word]
    · simp [Format.write, Format.nearest, Format.word]; exact hb0
  · obtain ⟨ra, _, _⟩ := whole ha0 ha
    have hla : a.log2 < 53 := log2_lt_of (by simpa using ha) ha0
    have ga := log2_mul_pow ha0 ha
    rw [ra]
    simp only [Datum.quotient, if_neg nb]
    rw [ga, gb, show D.fractionBits + 2 + 52 - 52 = 54 by rfl, Nat.shiftLeft_eq]
    obtain ⟨t, ht⟩ : ∃ t, t = 54 + b.log2 - a.log2 := ⟨_, rfl⟩
    have eX : a * 2 ^ (52 - a.log2) * 2 ^ 54 = a * 2 ^ t * 2 ^ (52 - b.log2) := by
      rw [Nat.mul_assoc, Nat.mul_assoc, ← Nat.pow_add, ← Nat.pow_add]
      congr 2
      omega
    have eD : a * 2 ^ (52 - a.log2) * 2 ^ 54 / (b * 2 ^ (52 - b.log2)) = a * 2 ^ t / b := by
      rw [eX, Nat.mul_div_mul_right _ _ (Nat.pow_pos (by omega))]
    rw [eD]
    generalize (a * 2 ^ (52 - a.log2) * 2 ^ 54 % (b * 2 ^ (52 - b.log2)) != 0) = st
    have hst := Bool.toNat_le st
    obtain ⟨Q, hQ⟩ : ∃ Q, Q = 2 * (a * 2 ^ t / b) + st.toNat := ⟨_, rfl⟩
    rw [← hQ]
    have ep : (a.log2 : Int) - 52 - ((b.log2 : Int) - 52) - ((54 : Nat) : Int) - 1 = -((t + 1 : Nat) : Int) := by omega
    rw [ep]
    have pt := Nat.pow_pos (n := t) (show 0 < 2 by omega)
    have hQ0 : Q ≠ 0 ∨ Q = 0 := by omega
    refine ⟨_, rfl, ?_, ?_⟩
    · show D.nearest false Q _ < _
      by_cases hz : Q = 0
      · rw [hz]; simp [Format.nearest, Format.word]
      · have hlog : Q.log2 < 53 + t + 1 + 1 := by
          refine log2_lt_of ?_ hz
          have h1 : a * 2 ^ t / b ≤ a * 2 ^ t := Nat.div_le_self _ _
          have h2 : a * 2 ^ t < 9007199254740992 * 2 ^ t := Nat.mul_lt_mul_of_pos_right ha pt
          have h3 : 2 ^ (53 + t + 1 + 1) = 4 * (9007199254740992 * 2 ^ t) := by
            rw [show 53 + t + 1 + 1 = 2 + 53 + t by omega, Nat.pow_add, Nat.pow_add]
            omega
          omega
        have := nearest_le_of (m := Q) (p := -((t + 1 : Nat) : Int)) 54 hz (by omega) (by omega)
        omega
    · show _ ≤ D.nearest false Q _ ↔ _
      constructor
      · intro hge
        refine Nat.le_of_not_lt (fun hlt => ?_)
        have hz : Q ≠ 0 := by
          intro hz
          rw [hz] at hge
          simp [Format.nearest, Format.word] at hge
        have hab : a.log2 ≤ b.log2 := by
          have h1 := Nat.log2_self_le ha0
          have h2 := @Nat.lt_log2_self b
          have h3 : 2 ^ a.log2 < 2 ^ (b.log2 + 1) := by omega
          have := (Nat.pow_lt_pow_iff_right (show 1 < 2 by omega)).1 h3
          omega
        have hb2 : a * 2 ^ t / b + 2 ^ (t - 53) + 1 ≤ 2 ^ t := by
          have e1 : 2 ^ t = 9007199254740992 * 2 ^ (t - 53) := by rw [show (9007199254740992 : Nat) = 2 ^ 53 by rfl, ← Nat.pow_add, show 53 + (t - 53) = t by omega]
          have pg := Nat.pow_pos (n := t - 53) (show 0 < 2 by omega)
          have h1 : a * 2 ^ t ≤ (b - 1) * 2 ^ t := Nat.mul_le_mul_right _ (by omega)
          have h2 : (b - 1) * 2 ^ t = b * 2 ^ t - 2 ^ t := by rw [Nat.sub_mul, Nat.one_mul]
          have h3 : b * 2 ^ (t - 53) < 2 ^ t := by
            rw [e1]; exact Nat.mul_lt_mul_of_pos_right hb pg
          have h4 : a * 2 ^ t / b < 2 ^ t - 2 ^ (t - 53) := by
            rw [Nat.div_lt_iff_lt_mul (by omega), Nat.sub_mul, Nat.mul_comm (2 ^ t) b, Nat.mul_comm (2 ^ (t - 53)) b]
            have h5 : 2 ^ t ≤ b * 2 ^ t := Nat.le_mul_of_pos_left _ (by omega)
            omega
          omega
        have hlt1 := nearest_lt_one (m := Q) (s := t + 1) hz (by omega) (by omega) (by
          have e1 : 2 ^ (t + 1) = 2 ^ t * 2 := Nat.pow_succ 2 t
          have e2 : 2 ^ (t + 1 - 53) = 2 ^ (t - 53) * 2 := by rw [show t + 1 - 53 = t - 53 + 1 by omega, Nat.pow_succ]
          omega)
        omega
      · intro hle
        have h1 : 2 ^ t ≤ a * 2 ^ t / b := by
          rw [Nat.le_div_iff_mul_le (by omega), Nat.mul_comm]
          exact Nat.mul_le_mul_right _ hle
        have hz : Q ≠ 0 := by omega
        have h2 : t + 1 ≤ Q.log2 := (Nat.le_log2 hz).2 (by rw [Nat.pow_succ]; omega)
        have := nearest_ge (m := Q) (p := -((t + 1 : Nat) : Int)) 0 hz (by omega) (by omega)
        omega
end Go.Proofs.YtnineoajmgneiaaGreat.Fl
namespace Go.Proofs.YtnineoajmgneiaaGreat.Pk
open Go.RowKit YtnineoajmgneiaaGreatW YtnineoajmgneiaaGreatW.PrintWords YtnineoajmgneiaaGreatW.PrintLast YtnineoajmgneiaaGreatW.PrintMore Fr L Ky Tm Lm It
set_option linter.unusedVariables false
set_option linter.unusedSimpArgs false
section
variable {β : Type}
theorem flat_get {k : Nat} (hk : 0 < k) : ∀ (ls : List (List β)) (h : ∀ x ∈ ls, x.length = k) (j : Nat), ls.flatten[j]? = (ls[j / k]?).bind (fun x => x[j % k]?)
  | [], _, j => by simp
  | x :: r, h, j => by
    have hx := h x (by simp)
    rw [List.flatten_cons]
    by_cases hj : j < k
    · rw [List.getElem?_append_left (by omega), Nat.div_eq_of_lt hj, Nat.mod_eq_of_lt hj]; rfl
    · rw [List.getElem?_append_right (by omega), hx, flat_get hk r (fun y hy => h y (by simp [hy])) (j - k)]
      obtain ⟨m, rfl⟩ : ∃ m, j = m + k := ⟨j - k, by omega⟩
      rw [Nat.add_sub_cancel, Nat.add_div_right m hk, Nat.add_mod_right]
      rfl
theorem flat_len {k : Nat} : ∀ (ls : List (List β)) (h : ∀ x ∈ ls, x.length = k), ls.flatten.length = ls.length * k
  | [], _ => by simp
  | x :: r, h => by
    rw [List.flatten_cons, List.length_append, h x (by simp), flat_len r (fun y hy => h y (by simp [hy])), List.length_cons, Nat.add_mul, Nat.one_mul, Nat.add_comm]
end
structure Pr where
  lv : Int
  s : Nat
  a : Nat
  bl : Int
  A : Option Addr
  n : Nat
  c : Nat
  B : Option Addr
  m : Nat
  d : Nat
def prC (q : Pr) : List Value := [.int .i64 q.lv, .float .f64 q.s, .float .f64 q.a, .slice none 0 0, .int .i64 q.bl, .slice q.A q.n q.c, .slice q.B q.m q.d]
def flatP (qs : List Pr) : List Value := (qs.map prC).flatten
theorem prC_len (q : Pr) : (prC q).length = 7 := rfl
theorem map7 (qs : List Pr) : ∀ x ∈ qs.map prC, x.length = 7 := fun x hx => by
  obtain ⟨q, _, rfl⟩ := List.mem_map.1 hx
  rfl
theorem one7 (qs : List Pr) : ∀ x ∈ qs.map prC, x.length = 7 ∧ ∀ v ∈ x, v.oneCell' = true := fun x hx => by
  obtain ⟨q, _, rfl⟩ := List.mem_map.1 hx
  refine ⟨rfl, fun v hv => ?_⟩
  simp only [prC, List.mem_cons, List.not_mem_nil, or_false] at hv
  rcases hv with rfl | rfl | rfl | rfl | rfl | rfl | rfl <;> rfl
theorem flatP_len (qs : List Pr) : (flatP qs).length = qs.length * 7 := by
  unfold flatP
  rw [flat_len _ (map7 qs), List.length_map]
theorem flatP_app (qs rs : List Pr) : flatP (qs ++ rs) = flatP qs ++ flatP rs := by simp [flatP]
theorem flatP_one (q : Pr) : flatP [q] = prC q := by simp [flatP]
theorem flatP_get {qs : List Pr} {i : Nat} {q : Pr} (hi : qs[i]? = some q) (c : Nat) (hc : c < 7) (rest : List Value) : (flatP qs ++ rest)[i * 7 + c]? = (prC q)[c]? := by
  have hl : i < qs.length := by
    rcases Nat.lt_or_ge i qs.length with h | h
    · exact h
    · rw [List.getElem?_eq_none h] at hi; cases hi
  rw [List.getElem?_append_left (by rw [flatP_len]; omega)]
  unfold flatP
  rw [flat_get (by omega) _ (map7 qs), show (i * 7 + c) / 7 = i by omega, show (i * 7 + c) % 7 = c by omega, List.getElem?_map, hi]
  rfl
theorem row_cell {w : World} {g i : Nat} {qs : List Pr} {rest : List Value} {t : TypeId} (hb : w.heap[g]? = some (.cells (flatP qs ++ rest).toArray t (0, 0))) {q : Pr} (hi : qs[i]? = some q) (c : Nat) (hc : c < 7) (v : Value) (hv : (prC q)[c]? = some v) : w.cell? ⟨g, i * 7 + c, none⟩ = some v := by
  rw [blk_cell hb, List.getElem?_toArray, flatP_get hi c hc rest, hv]
theorem flatP_set {qs : List Pr} {i : Nat} {q : Pr} (hi : qs[i]? = some q) (x : Nat) (rest : List Value) : (flatP qs ++ rest).set (i * 7 + 2) (.float .f64 x) = flatP (qs.set i { q with a := x }) ++ rest := by
  have hl : i < qs.length := by
    rcases Nat.lt_or_ge i qs.length with h | h
    · exact h
    · rw [List.getElem?_eq_none h] at hi; cases hi
  have e : qs = qs.take i ++ q :: qs.drop (i + 1) := by
    rw [List.getElem?_eq_getElem hl] at hi
    have := Option.some.inj hi
    rw [← this, ← List.drop_eq_getElem_cons hl, List.take_append_drop]
  have hset : qs.set i { q with a := x } = qs.take i ++ { q with a := x } :: qs.drop (i + 1) := by
    rw [List.set_eq_take_append_cons_drop, if_pos hl]
  rw [hset]
  conv => lhs; rw [e]
  rw [flatP_app, flatP_app, show q :: qs.drop (i + 1) = [q] ++ qs.drop (i + 1) from rfl, show { q with a := x } :: qs.drop (i + 1) = [{ q with a := x }] ++ qs.drop (i + 1) from rfl, flatP_app, flatP_app, flatP_one, flatP_one, List.append_assoc, List.append_assoc]
  have hl7 : (flatP (qs.take i)).length = i * 7 := by rw [flatP_len, List.length_take, Nat.min_eq_left (by omega)]
  rw [List.set_append_right _ _ (by omega), hl7, show i * 7 + 2 - i * 7 = 2 by omega, List.append_assoc]
  rfl
theorem row_set {w : World} {g i : Nat} {qs : List Pr} {rest : List Value} {t : TypeId} (hb : w.heap[g]? = some (.cells (flatP qs ++ rest).toArray t (0, 0))) {q : Pr} (hi : qs[i]? = some q) (x : Nat) : (w.setCell ⟨g, i * 7 + 2, none⟩ (.float .f64 x)).heap[g]? = some (.cells (flatP (qs.set i { q with a := x }) ++ rest).toArray t (0, 0)) := by
  refine (blk_put hb (i * 7 + 2) (.float .f64 x) rfl).trans ?_
  rw [← flatP_set hi x rest]
  simp
section
variable {ops : Array Oper} {rest' : List Oper} {o : Oper} {a : Act} {Q : Exit → Act → World → Prop}
set_option maxRecDepth 100000 in
/-- An append onto a row of priorities with room: the next seven cells are written. -/
theorem wpL_roomP {W : World} (hgd : o.guard = none) (s x : Operand) (ho : o.op = .call { callee := .builtin .append, args := #[s, x], argTypes := #[109, 109] })
    (g b k cap : Nat) (tb : TypeId) (qs : List Pr) (q : Pr) (rest : List Value)
    (hs : a.eval s = .slice (some ⟨g, 0, none⟩) k cap) (hx : a.eval x = .slice (some ⟨b, 0, none⟩) 1 1) (hb : W.heap[g]? = some (.cells (flatP qs ++ rest).toArray 113 (0, 0))) (hq : W.heap[b]? = some (.cells (prC q).toArray tb (0, 0))) (hk : k = qs.length) (hlt : k < cap) (hr : 7 ≤ rest.length)
    (h : ∀ w', w'.heap[g]? = some (.cells (flatP (qs ++ [q]) ++ rest.drop 7).toArray 113 (0, 0)) → W.grownBy w' (some g) → wpList Tryz.prog ops Q rest' (a.put o.dst (.slice (some ⟨g, 0, none⟩) (k + 1) cap)) w') :
    wpList Tryz.prog ops Q (o :: rest') a W := by
  have ht : Tryz.prog.underlying 109 = some (.slice 113) := by kernel_rfl
  obtain ⟨i, hi, hie⟩ := Option.map_eq_some_iff.1 (show (Tryz.prog.info? 113).map (fun i => i.size) = some 7 by kernel_rfl)
  have hsz : i.size = 7 := hie
  have hl : (flatP qs).length = k * 7 := by rw [flatP_len, hk]
  have hr' := run_append_room (P := Tryz.prog) W 109 o.type 113 i ht hi g k cap _ hb ⟨b, 0, none⟩ 1 1 (prC q) (by rw [hsz]; rfl) (fun j v hj => by
    rw [Addr.add_lit, Nat.zero_add, blk_cell hq j, List.getElem?_toArray]
    exact hj) (fun v hv => (one7 [q] (prC q) (by simp)).2 v hv) (by omega) (by rw [hsz, prC_len]; simp [hl]; omega)
  refine wpList_plain hgd fun _ hK => ?_
  unfold Oper.wp execOp
  simp only [ho, resolve, invoke, builtin, Sem.run_bind, Sem.run_pure, Result.andThen_ok, List.map_toArray, List.map_cons, List.map_nil, hs, hx, hr']
  refine hK _ _ (h _ ?_ ?_)
  · rw [setRow_heap _ g _ _ _ _ hb]
    have e : (flatP qs ++ rest).toArray.toList.take (k * i.size) ++ prC q ++ (flatP qs ++ rest).toArray.toList.drop (k * i.size + (prC q).length) = flatP (qs ++ [q]) ++ rest.drop 7 := by
      rw [hsz, flatP_app, flatP_one, prC_len]
      show (flatP qs ++ rest).take (k * 7) ++ prC q ++ (flatP qs ++ rest).drop (k * 7 + 7) = _
      rw [List.take_append, List.drop_append, hl, List.take_of_length_le (by omega), List.drop_eq_nil_of_le (by omega)]
      simp
    rw [e]
  · refine ⟨rfl, rfl, rfl, by simp, fun j hj hne => ?_⟩
    exact setRow_other _ g j _ (fun e => hne (by simp [e]))
end
/-- What is told of a priority. -/
structure Q3 where
  lv : Int
  s : Nat
  a : Nat
def z3 : Q3 := ⟨0, 0, 0⟩
def fl : Kd Nat := Kd.scalar (Value.float .f64) (fun _ => rfl)
def k3 : Kd Q3 := Kd.iso (Kd.pair (Kd.int .i64) (Kd.pair fl fl)) (fun x : Q3 => (x.lv, x.s, x.a))
theorem k3_open {w : World} {x : Q3} {cs : List Value} (h : k3.K w x cs) : cs = [.int .i64 x.lv, .float .f64 x.s, .float .f64 x.a] := by
  obtain ⟨_, _, rfl, rfl, ⟨_, _, rfl, rfl, rfl⟩⟩ := h
  exact rfl
theorem k3_mkM (w : World) (base : Nat) (ok : Nat → Prop) (x : Q3) : k3.M w base ok x [.int .i64 x.lv, .float .f64 x.s, .float .f64 x.a] := ⟨[.int .i64 x.lv], [.float .f64 x.s, .float .f64 x.a], rfl, rfl, ⟨[.float .f64 x.s], [.float .f64 x.a], rfl, rfl, rfl⟩⟩
def rd3 (xs : List Q3) (i : Int) : Q3 := xs.getD i.toNat z3
theorem at3 {w : World} {A : Option Addr} {n : Nat} {xs : List Q3} (h : Kd.C k3 w A n xs) (i : Int) (h0 : 0 ≤ i) (h1 : i < n) : ∃ ad , A = some ad ∧ w.cell? (ad.add (i.toNat * 3)) = some (.int .i64 (rd3 xs i).lv) ∧ w.cell? ⟨(ad.add (i.toNat * 3)).block, (ad.add (i.toNat * 3)).off + 1, none⟩ = some (.float .f64 (rd3 xs i).s) ∧ w.cell? ⟨(ad.add (i.toNat * 3)).block, (ad.add (i.toNat * 3)).off + 2, none⟩ = some (.float .f64 (rd3 xs i).a) := by
  obtain ⟨ad, c, e, _, hK, hc0⟩ := Kd.C_get h z3 i h0 h1
  have hc : ∀ j u, c[j]? = some u → w.cell? (ad.add (i.toNat * 3 + j)) = some u := hc0
  obtain rfl := k3_open hK
  exact ⟨ad, e, hc 0 _ rfl, by rw [← add_field _ _ 1 (by omega)]; exact hc 1 _ rfl, by rw [← add_field _ _ 2 (by omega)]; exact hc 2 _ rfl⟩
end Go.Proofs.YtnineoajmgneiaaGreat.Pk
