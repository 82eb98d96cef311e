/- Targets: the walk of levelTargets. Printed: lists of numbers; the numbers at a key's end. impl.Targets: the walk. -/
import Derived.Test.YtnineoajmgneiaaGreatYb
import Derived.Test.YtnineoajmgneiaaGreatYa
set_option linter.unusedSimpArgs false
set_option linter.unusedVariables false
namespace Go.Proofs.YtnineoajmgneiaaGreat.Tg
open Lib (hid)
open List renaming setIfInBounds_toArray → zA,set_cons_zero → zB,set_cons_succ → zC
open Go.RowKit YtnineoajmgneiaaGreatW.PrintWords YtnineoajmgneiaaGreatW.PrintLast YtnineoajmgneiaaGreatW.PrintMore Fr L Ky Tm Lm Sr Ls It Nw
theorem info2:(Tryz.prog.info? 2).map (fun i=>(i.zero,i.size,i.bytes))=some (some (.int .i64 0),1,8):=by kernel_rfl
/-- Levels as the planner reads them: their sizes. -/
structure Lv (w:World) (sb ob blk c:Nat) (o:Lm.Op) (sz:List Int):Prop where
 s0:w.cell? ⟨sb,0,none⟩=some (.slice (some ⟨blk,0,none⟩) sz.length c)
 s1:w.cell? ⟨sb,1,none⟩=some (ptr ob)
 op:w.heap[ob]? = some (.cells (optC o) 100 (0,0))
 at_:∀ i,i<sz.length→∃ hp,w.cell? ⟨blk,i,none⟩=some (ptr hp)∧w.cell? ⟨hp,1,none⟩=some (.int .i64 (sz.getD i 0))
theorem Lv.below {w w1:World} {sb ob blk c:Nat} {o:Lm.Op} {sz:List Int} (h:Lv w sb ob blk c o sz) (hb:Below w.heap.size w w1):Lv w1 sb ob blk c o sz:=by
 have mv:∀ {a:Addr} {v:Value},w.cell? a=some v→w1.cell? a=some v:=fun hc=>(hb.cell (World.block_lt_of_cell? w _ hc)).trans hc
 refine ⟨mv h.s0,mv h.s1,(hb.block _ (blk_lt h.op)).trans h.op,fun i hi=>?_⟩
 obtain ⟨hp,h1,h2⟩:=h.at_ i hi
 exact ⟨hp,mv h1,mv h2⟩
theorem tot_calls {w:World} {hp:Nat} {v:Value} (h:w.cell? ⟨hp,1,none⟩=some v):Calls Tryz.prog 83 #[.pointer (some ⟨hp,0,none⟩)] w fun e w'=>e=.returned v∧w=w':=by
 go_enter Tryz.func83,Tryz.ntmps83
 go_wp2
 go_ret
 exact ⟨rfl,rfl⟩
set_option maxHeartbeats 2000000 in
theorem last_calls {w:World} {sb blk c k hp:Nat} (hk:k≤100) (h0:w.cell? ⟨sb,0,none⟩=some (.slice (some ⟨blk,0,none⟩) (k+1) c)) (h1:w.cell? ⟨blk,k,none⟩=some (ptr hp)) :
  Calls Tryz.prog 82 #[.pointer (some ⟨sb,0,none⟩)] w fun e w'=>e=.returned (ptr hp)∧∃ q,w'=w.drewN q:=by
 unfold ptr at *
 have s1:IntKind.i64.wrap ((k:Int)+1 - 1)=(k:Int):=by rw [IntWalk.i64_in _ (by omega)];omega
 have s2:IntKind.i64.wrap (k:Int)=(k:Int):=by rw [IntWalk.i64_in _ (by omega)]
 have s3:((k+1:Nat):Int)=(k:Int)+1:=rfl
 go_enter Tryz.func82,Tryz.ntmps82
 go_wp2_with fail
 go_quiet (fail)
 go_wp2
 go_ret
 exact ⟨rfl,nq,rfl⟩
def adj (o:Lm.Op) (x:Int):Int:=if x<o.base then o.base else x
set_option maxHeartbeats 2000000 in
theorem adj_calls {w:World} {b1 sb ob:Nat} {o:Lm.Op} {x:Int} (h0:w.cell? ⟨b1,0,none⟩=some (ptr sb)) (h1:w.cell? ⟨sb,1,none⟩=some (ptr ob)) (h2:w.heap[ob]? = some (.cells (optC o) 100 (0,0))) :
  Calls Tryz.prog 81 #[.int .i64 x,.pointer (some ⟨b1,0,none⟩)] w fun e w'=>e=.returned (.int .i64 (adj o x))∧w=w':=by
 have h3:w.cell? ⟨ob,4,none⟩=some (.int .i64 o.base):=blk_cell h2 4
 unfold ptr at *
 clear h2
 unfold adj
 by_cases hx:x<o.base
 ·rw [if_pos hx]
  have d:=decide_eq_true hx
  clear hx
  go_enter Tryz.func81,Tryz.ntmps81
  go_wp2
  go_ret
  exact ⟨rfl,rfl⟩
 ·rw [if_neg hx]
  have d:=decide_eq_false hx
  clear hx
  go_enter Tryz.func81,Tryz.ntmps81
  go_wp2
  go_ret
  exact ⟨rfl,rfl⟩
/-! ### what it computes -/
def lp1 (o:Lm.Op):Nat→Int→List Int→Int→Int × List Int
 | 0,bl,T,_=>(bl,T)
 | i+1,bl,T,db=>lp1 o i (if bl=0∧adj o db≤o.base then ((i+1:Nat):Int) else bl) (T.set (i+1) (adj o db)) (db / o.mult)
def lp2 (sz:List Int):Nat→Nat→Int→Int
 | 0,_,bl=>bl
 | k+1,i,bl=>if i+1<sz.length then (if sz.getD i 0 > 0 then bl else lp2 sz k (i+1) (i:Int)) else bl
def lp3 (sz:List Int):Nat→Nat→Int→Int
 | 0,_,bl=>bl
 | k+1,i,bl=>if (i:Int)<bl then (if sz.getD i 0 > 0 then (i:Int) else lp3 sz k (i+1) bl) else bl
def lp4 (o:Lm.Op) (bl:Int):Nat→Nat→Int→List Int→List Int
 | 0,_,_,F=>F
 | k+1,i,t,F=>if i=0 then lp4 o bl k (i+1) t (F.set i o.mem) else (if (i:Int)≤bl then lp4 o bl k (i+1) t (F.set i t) else lp4 o bl k (i+1) (wrap64 (t*o.tmul)) (F.set i (wrap64 (t*o.tmul))))
def blT (o:Lm.Op) (sz:List Int):Int × List Int:=lp1 o (sz.length - 1) 0 (List.replicate sz.length 0) (sz.getD (sz.length - 1) 0)
def bl2 (o:Lm.Op) (sz:List Int):Int:=lp2 sz sz.length (if (blT o sz).1=0 then 1 else (blT o sz).1).toNat (if (blT o sz).1=0 then 1 else (blT o sz).1)
def up (o:Lm.Op) (sz T:List Int) (bl:Int):Prop:=bl+1<sz.length∧sz.getD bl.toNat 0=0∧sz.getD (bl.toNat+1) 0<T.getD (bl.toNat+1) 0∧sz.getD (bl.toNat+1) 0<o.base
open Classical in
noncomputable def bl3 (o:Lm.Op) (sz:List Int):Int:=if up o sz (blT o sz).2 (bl2 o sz) then bl2 o sz+1 else bl2 o sz
noncomputable def bl4 (o:Lm.Op) (sz:List Int):Int:=lp3 sz sz.length 1 (bl3 o sz)
noncomputable def files (o:Lm.Op) (sz:List Int):List Int:=lp4 o (bl4 o sz) sz.length 0 o.tab (List.replicate sz.length 0)
/-! ### the planner's own memory -/
structure TS (w0:World) (n b4 tb fb cT cF:Nat) (bl:Int) (T F:List Int) (w:World):Prop where
 blk:w.heap[b4]? = some (.cells #[.int .i64 bl,.slice (some ⟨tb,0,none⟩) n cT,.slice (some ⟨fb,0,none⟩) n cF] 103 (0,0))
 t:Kd.R (Kd.int .i64) 2 w w0.heap.size (fun _=>True) (.slice (some ⟨tb,0,none⟩) n cT) T
 f:Kd.R (Kd.int .i64) 2 w w0.heap.size (fun _=>True) (.slice (some ⟨fb,0,none⟩) n cF) F
 ne:tb≠fb
 bel:Below w0.heap.size w0 w
 low:w0.heap.size≤b4
theorem ri_typed {w:World} {base g n c:Nat} {xs:List Int} (h:Kd.R (Kd.int .i64) 2 w base (fun _=>True) (.slice (some ⟨g,0,none⟩) n c) xs):∃ cells,w.heap[g]? = some (.cells cells 2 (0,0)):=Kd.R_typed h g (by simp [Value.ownBlock])
theorem ri_low {w:World} {base g n c:Nat} {xs:List Int} (h:Kd.R (Kd.int .i64) 2 w base (fun _=>True) (.slice (some ⟨g,0,none⟩) n c) xs):base≤g:=Kd.R_base h g (by simp [Value.ownBlock])
theorem TS.setB {w0 w:World} {n b4 tb fb cT cF:Nat} {bl:Int} {T F:List Int} (h:TS w0 n b4 tb fb cT cF bl T F w) (b:Int):TS w0 n b4 tb fb cT cF b T F (w.setCell ⟨b4,0,none⟩ (.int .i64 b)):=by
 refine ⟨by have:=blk_set h.blk 0 (.int .i64 b);simpa using this,Kd.R_set h.t h.blk (fun q hq=>?_) _ _,Kd.R_set h.f h.blk (fun q hq=>?_) _ _,h.ne,below_set h.bel h.low,h.low⟩
 all_goals
  have:q∈[2]:=hq
  rw [List.mem_singleton.1 this]
  decide
theorem ri_ok {w:World} {base g n c:Nat} {xs:List Int} (h:Kd.R (Kd.int .i64) 2 w base (fun _=>True) (.slice (some ⟨g,0,none⟩) n c) xs):Kd.R (Kd.int .i64) 2 w base (fun k=>k=g) (.slice (some ⟨g,0,none⟩) n c) xs:=
 Kd.R_of_own (Kd.own_of_R h) (fun k hk=>by simpa [Value.ownBlock] using hk.symm)
theorem TS.setT {w0 w:World} {n b4 tb fb cT cF:Nat} {bl:Int} {T F:List Int} (h:TS w0 n b4 tb fb cT cF bl T F w) (i:Nat) (x:Int):TS w0 n b4 tb fb cT cF bl (T.set i x) F (w.setCell ⟨tb,i,none⟩ (.int .i64 x)):=by
 obtain ⟨ct,hct⟩:=ri_typed h.t
 refine ⟨blk_far h.blk (fun e=>blk_ne h.blk hct (by decide) e) _,?_,Kd.R_mono (Kd.R_far (ri_ok h.f) (fun k hk e=>h.ne (e.symm.trans hk)) _) (fun _ _=>trivial),h.ne,below_set h.bel (ri_low h.t),h.low⟩
 have q:=Kd.R_putn h.t (i:Int) x
 rwa [Int.toNat_natCast] at q
theorem TS.setF {w0 w:World} {n b4 tb fb cT cF:Nat} {bl:Int} {T F:List Int} (h:TS w0 n b4 tb fb cT cF bl T F w) (i:Nat) (x:Int):TS w0 n b4 tb fb cT cF bl T (F.set i x) (w.setCell ⟨fb,i,none⟩ (.int .i64 x)):=by
 obtain ⟨ct,hct⟩:=ri_typed h.f
 refine ⟨blk_far h.blk (fun e=>blk_ne h.blk hct (by decide) e) _,Kd.R_mono (Kd.R_far (ri_ok h.t) (fun k hk e=>h.ne (hk.symm.trans e)) _) (fun _ _=>trivial),?_,h.ne,below_set h.bel (ri_low h.f),h.low⟩
 have q:=Kd.R_putn h.f (i:Int) x
 rwa [Int.toNat_natCast] at q
theorem TS.drewN {w0 w:World} {n b4 tb fb cT cF:Nat} {bl:Int} {T F:List Int} (h:TS w0 n b4 tb fb cT cF bl T F w) (q:Nat):TS w0 n b4 tb fb cT cF bl T F (w.drewN q):=⟨h.blk,Kd.R_drewN h.t q,Kd.R_drewN h.f q,h.ne,pw_below_drewN h.bel q,h.low⟩
theorem TS.cellT {w0 w:World} {n b4 tb fb cT cF:Nat} {bl:Int} {T F:List Int} (h:TS w0 n b4 tb fb cT cF bl T F w) {i:Nat} (hi:i<n):w.cell? ⟨tb,i,none⟩=some (.int .i64 (T.getD i 0))∧w.frozen? ⟨tb,i,none⟩=false:=by
 have q:=Kd.R_celln (0:Int) h.t (i:Int) (by omega) (by omega)
 rw [Int.toNat_natCast] at q
 refine ⟨q.1.trans ?_,q.2⟩
 simp [rdOf]
theorem TS.cellF {w0 w:World} {n b4 tb fb cT cF:Nat} {bl:Int} {T F:List Int} (h:TS w0 n b4 tb fb cT cF bl T F w) {i:Nat} (hi:i<n):w.cell? ⟨fb,i,none⟩=some (.int .i64 (F.getD i 0))∧w.frozen? ⟨fb,i,none⟩=false:=by
 have q:=Kd.R_celln (0:Int) h.f (i:Int) (by omega) (by omega)
 rw [Int.toNat_natCast] at q
 refine ⟨q.1.trans ?_,q.2⟩
 simp [rdOf]
theorem ts_made {w1 W W2:World} {n b4 tb fb cT cF:Nat} (hy:W2=((W.setCell ⟨b4,0,none⟩ (.int .i64 0)).setCell ⟨b4,1,none⟩ (.slice (some ⟨tb,0,none⟩) n cT)).setCell ⟨b4,2,none⟩ (.slice (some ⟨fb,0,none⟩) n cF)) {x0 x1 x2:Value} (hb:W.heap[b4]? = some (.cells #[x0,x1,x2] 103 (0,0)))
  (ht:Kd.R (Kd.int .i64) 2 W w1.heap.size (fun _=>True) (.slice (some ⟨tb,0,none⟩) n cT) (List.replicate n 0)) (hf:Kd.R (Kd.int .i64) 2 W w1.heap.size (fun _=>True) (.slice (some ⟨fb,0,none⟩) n cF) (List.replicate n 0)) (ne:tb≠fb) (hB:Below w1.heap.size w1 W) (hl:w1.heap.size≤b4) :
  TS w1 n b4 tb fb cT cF 0 (List.replicate n 0) (List.replicate n 0) W2:=by
 subst hy
 have k0:=blk_set hb 0 (.int .i64 0)
 have k1:=blk_set k0 1 (.slice (some ⟨tb,0,none⟩) n cT)
 have k2:=blk_set k1 2 (.slice (some ⟨fb,0,none⟩) n cF)
 have hq:∀ q,q∈2 :: (Kd.int .i64).E→q≠103:=fun q hq=>by
  have:q∈[2]:=hq
  rw [List.mem_singleton.1 this]
  decide
 exact ⟨by simpa using k2,Kd.R_set (Kd.R_set (Kd.R_set ht hb hq _ _) k0 hq _ _) k1 hq _ _,Kd.R_set (Kd.R_set (Kd.R_set hf hb hq _ _) k0 hq _ _) k1 hq _ _,ne,below_set (below_set (below_set hB hl) hl) hl,hl⟩
theorem grown_none {w1 W W2:World} (hB:Below w1.heap.size w1 W) (hb:Below w1.heap.size w1 W2) (hg:W.grownBy W2 none):Below W.heap.size W W2:=
 ⟨hb.os.trans hB.os.symm,hb.tape.trans hB.tape.symm,hb.output.trans hB.output.symm,hg.size,fun i hi=>hg.block i hi (by simp)⟩
theorem made_ne {W:World} {base g c n:Nat} {xs:List Int} {v:Value} {g2 c2 n2:Nat} (h:Kd.R (Kd.int .i64) 2 W base (fun _=>True) (.slice (some ⟨g,0,none⟩) n c) xs) (hv:v=.slice (some ⟨g2,0,none⟩) n2 c2) (hat:∃ b,v.ownBlock=some b∧W.heap.size≤b):g≠g2:=by
 obtain ⟨b,h1,h2⟩:=hat
 subst hv
 have h1:g2=b:=by simpa [Value.ownBlock] using h1
 have:=Kd.R_lt h g (by simp [Value.ownBlock])
 omega
theorem rd {w1 W:World} {sb ob blk c b1 n:Nat} {o:Lm.Op} {sz:List Int} (hn:n=sz.length) (hL:Lv w1 sb ob blk c o sz) (h1:w1.cell? ⟨b1,0,none⟩=some (.pointer (some ⟨sb,0,none⟩))) (hB:Below w1.heap.size w1 W) :
  W.cell? ⟨b1,0,none⟩=some (.pointer (some ⟨sb,0,none⟩))∧W.cell? ⟨sb,0,none⟩=some (.slice (some ⟨blk,0,none⟩) n c)∧W.cell? ⟨sb,1,none⟩=some (.pointer (some ⟨ob,0,none⟩))∧W.cell? ⟨ob,1,none⟩=some (.int .i64 o.mult)∧W.cell? ⟨ob,2,none⟩=some (.int .i64 o.tmul)∧W.cell? ⟨ob,4,none⟩=some (.int .i64 o.base)∧W.cell? ⟨ob,5,none⟩=some (.int .i64 o.tab)∧W.cell? ⟨ob,6,none⟩=some (.int .i64 o.mem):=by
 subst hn
 have h:=hL.below hB
 exact ⟨(hB.cell (World.block_lt_of_cell? w1 _ h1)).trans h1,h.s0,h.s1,blk_cell h.op 1,blk_cell h.op 2,blk_cell h.op 4,blk_cell h.op 5,blk_cell h.op 6⟩
theorem adj_rd {W:World} {b1 sb ob:Nat} {o:Lm.Op} {x:Int} (h0:W.cell? ⟨b1,0,none⟩=some (.pointer (some ⟨sb,0,none⟩))) (h1:W.cell? ⟨sb,1,none⟩=some (.pointer (some ⟨ob,0,none⟩))) (h2:W.heap[ob]? = some (.cells (optC o) 100 (0,0))) :
  Calls Tryz.prog 81 #[.int .i64 x,.pointer (some ⟨b1,0,none⟩)] W fun e w'=>e=.returned (.int .i64 (adj o x))∧W=w':=adj_calls h0 h1 h2
theorem tdiv_in {a b:Int} (h:0≤a) (hb:2≤b):0≤a / b∧a / b≤a:=⟨Int.ediv_nonneg h (by omega),Int.ediv_le_self _ h⟩
theorem lp1_step {o:Lm.Op} {m:Nat} {bl:Int} {T:List Int} {db:Int}:lp1 o (m+1) bl T db=lp1 o m (if bl=0∧adj o db≤o.base then ((m+1:Nat):Int) else bl) (T.set (m+1) (adj o db)) (db / o.mult):=rfl
theorem lp1_range (o:Lm.Op):∀ (i:Nat) (bl:Int) (T:List Int) (db:Int) (k:Nat),i≤k→0≤bl→bl≤k→0≤(lp1 o i bl T db).1∧(lp1 o i bl T db).1≤k
 | 0,bl,T,db,k,_,h0,h1=>⟨h0,h1⟩
 | i+1,bl,T,db,k,hi,h0,h1=>by
  rw [lp1_step]
  split
  ·exact lp1_range o i _ _ _ k (by omega) (by omega) (by omega)
  ·exact lp1_range o i _ _ _ k (by omega) h0 h1
theorem blT_range (o:Lm.Op) (sz:List Int) (h:2≤sz.length):0≤(blT o sz).1∧(blT o sz).1≤(sz.length - 1:Nat):=lp1_range o _ _ _ _ _ (Nat.le_refl _) (Int.le_refl _) (by omega)
theorem lp2_range (sz:List Int):∀ (k i:Nat) (bl:Int),1≤i→1≤bl→bl≤(sz.length - 1:Nat)→1≤lp2 sz k i bl∧lp2 sz k i bl≤(sz.length - 1:Nat)
 | 0,i,bl,_,h0,h1=>⟨h0,h1⟩
 | k+1,i,bl,hi,h0,h1=>by
  rw [lp2]
  split
  ·split
   ·exact ⟨h0,h1⟩
   ·exact lp2_range sz k (i+1) _ (by omega) (by omega) (by omega)
  ·exact ⟨h0,h1⟩
theorem bl2_range (o:Lm.Op) (sz:List Int) (h:2≤sz.length):1≤bl2 o sz∧bl2 o sz≤(sz.length - 1:Nat):=by
 have h1:=blT_range o sz h
 unfold bl2
 split
 ·exact lp2_range sz _ _ _ (by simp) (by omega) (by omega)
 ·exact lp2_range sz _ _ _ (by omega) (by omega) (by omega)
theorem bl3_range (o:Lm.Op) (sz:List Int) (h:2≤sz.length):1≤bl3 o sz∧bl3 o sz≤(sz.length - 1:Nat):=by
 have h1:=bl2_range o sz h
 unfold bl3
 split
 ·rename_i hu
  have:=hu.1
  omega
 ·exact h1
theorem lp3_range (sz:List Int):∀ (k i:Nat) (bl:Int) (m:Int),1≤i→1≤bl→bl≤m→1≤lp3 sz k i bl∧lp3 sz k i bl≤m
 | 0,i,bl,m,_,h0,h1=>⟨h0,h1⟩
 | k+1,i,bl,m,hi,h0,h1=>by
  rw [lp3]
  split
  ·split
   ·omega
   ·exact lp3_range sz k (i+1) _ _ (by omega) h0 h1
  ·exact ⟨h0,h1⟩
theorem bl4_range (o:Lm.Op) (sz:List Int) (h:2≤sz.length):1≤bl4 o sz∧bl4 o sz≤(sz.length - 1:Nat):=by
 have h1:=bl3_range o sz h
 exact lp3_range sz _ _ _ _ (by omega) h1.1 h1.2
theorem ts_end {w w1 wr wz:World} {n b4 tb fb cT cF b2:Nat} {bl E:Int} {T F:List Int} {x0 x1 x2:Value} (hz:wz=((wr.setCell ⟨b2,0,none⟩ (.int .i64 E)).setCell ⟨b2,1,none⟩ (.slice (some ⟨tb,0,none⟩) n cT)).setCell ⟨b2,2,none⟩ (.slice (some ⟨fb,0,none⟩) n cF)) (h:TS w1 n b4 tb fb cT cF bl T F wr) (h2:wr.heap[b2]? = some (.cells #[x0,x1,x2] 103 (0,0))) (hb:Below w.heap.size w w1) (hl:w.heap.size≤b2) :
  wz.heap[b2]? = some (.cells #[.int .i64 E,.slice (some ⟨tb,0,none⟩) n cT,.slice (some ⟨fb,0,none⟩) n cF] 103 (0,0))∧Kd.R (Kd.int .i64) 2 wz w1.heap.size (fun _=>True) (.slice (some ⟨tb,0,none⟩) n cT) T∧Kd.R (Kd.int .i64) 2 wz w1.heap.size (fun _=>True) (.slice (some ⟨fb,0,none⟩) n cF) F∧Below w.heap.size w wz:=by
 subst hz
 have k0:=blk_set h2 0 (.int .i64 E)
 have k1:=blk_set k0 1 (.slice (some ⟨tb,0,none⟩) n cT)
 have k2:=blk_set k1 2 (.slice (some ⟨fb,0,none⟩) n cF)
 have hq:∀ q,q∈2 :: (Kd.int .i64).E→q≠103:=fun q hq=>by
  have:q∈[2]:=hq
  rw [List.mem_singleton.1 this]
  decide
 have hB:Below w.heap.size w wr:=hb.trans (h.bel.mono hb.size)
 exact ⟨by simpa using k2,Kd.R_set (Kd.R_set (Kd.R_set h.t h2 hq _ _) k0 hq _ _) k1 hq _ _,Kd.R_set (Kd.R_set (Kd.R_set h.f h2 hq _ _) k0 hq _ _) k1 hq _ _,below_set (below_set (below_set hB hl) hl) hl⟩
def TargetsPost (w:World) (o:Lm.Op) (sz:List Int) (e:Ending) (w':World):Prop:=
 ∃ A c B d,e=.returned (.agg #[.int .i64 (bl4 o sz),.slice A sz.length c,.slice B sz.length d])∧Kd.C (Kd.int .i64) w' A sz.length (blT o sz).2∧Kd.C (Kd.int .i64) w' B sz.length (files o sz)∧sz.length≤c∧sz.length≤d∧Below w.heap.size w w'
theorem targets_end {w w1 wz:World} {o:Lm.Op} {sz T F:List Int} {n tb fb cT cF:Nat} {E:Int} (hn:n=sz.length) (hE:E=bl4 o sz) (hT:T=(blT o sz).2) (hF:F=files o sz) (t:Kd.R (Kd.int .i64) 2 wz w1.heap.size (fun _=>True) (.slice (some ⟨tb,0,none⟩) n cT) T) (f:Kd.R (Kd.int .i64) 2 wz w1.heap.size (fun _=>True) (.slice (some ⟨fb,0,none⟩) n cF) F) (hb:Below w.heap.size w wz) :
  TargetsPost w o sz (.returned (.agg #[.int .i64 E,.slice (some ⟨tb,0,none⟩) n cT,.slice (some ⟨fb,0,none⟩) n cF])) wz:=by
 subst hE
 have h1:=Kd.R_reads' t
 have h2:=Kd.R_reads' f
 subst hn
 refine ⟨_,_,_,_,rfl,?_,?_,h1.2.1,h2.2.1,hb⟩
 ·rw [← hT,h1.1];exact h1.2.2
 ·rw [← hF,h2.1];exact h2.2.2
set_option maxRecDepth 100000 in
set_option maxHeartbeats 8000000 in
theorem levelTargets_calls {w:World} {sb ob blk c:Nat} {o:Lm.Op} {sz:List Int} (hL:Lv w sb ob blk c o sz) (hn:2≤sz.length) (hx:sz.length≤100) (hz:∀ i,0≤sz.getD i 0∧sz.getD i 0≤1000000000000000) (hmul:2≤o.mult) (hbase:0≤o.base) :
  Calls Tryz.prog 70 #[.pointer (some ⟨sb,0,none⟩)] w (TargetsPost w o sz):=by
 have HL0:=hid hL
 have HZ:=hid hz
 clear hL hz
 obtain ⟨n,hnn⟩ : ∃ n,n=sz.length:=⟨_,rfl⟩
 rw [← hnn] at hn hx
 have HN:=hid hnn
 clear hnn
 have hs0:=HL0.out.s0
 rw [← HN.out] at hs0
 have HS0:=hid hs0
 clear hs0
 go_enter Tryz.func70,Tryz.ntmps70
 go_upto_region 2 with (fail)
 obtain ⟨w1,hw1⟩ : ∃ w1,w1=(w.alloc (.cells #[.pointer (some ⟨sb,0,none⟩)] 104)).alloc (.cells #[.int .i64 0,.slice none 0 0,.slice none 0 0] 103):=⟨_,rfl⟩
 rw [← hw1]
 obtain ⟨b1,hb1⟩ : ∃ b1,b1=w.heap.size:=⟨_,rfl⟩
 obtain ⟨b2,hb2⟩ : ∃ b2,b2=b1+1:=⟨_,rfl⟩
 rw [← hb1,← hb2]
 have HB1:=hid (show Below w.heap.size w w1 by rw [hw1];exact below_alloc (below_alloc (Below.refl _ _) _) _)
 have HX2:=hid (show w1.heap[b2]? = some (.cells #[.int .i64 0,.slice none 0 0,.slice none 0 0] 103 (0,0)) by
  rw [hw1,hb2,hb1,← szA w (.cells #[.pointer (some ⟨sb,0,none⟩)] 104)];exact blk_new _ _)
 have HX0:=hid (show w1.heap[b1]? = some (.cells #[.pointer (some ⟨sb,0,none⟩)] 104 (0,0)) by rw [hw1,hb1];exact up1 (blk_new w _))
 have HX1:=hid (blk_cell HX0.out 0)
 have HLV:=hid (HL0.out.below HB1.out)
 have HB2:=hid (show w.heap.size≤b2 by omega)
 clear hw1 hb1 hb2
 have s0:w1.cell? ⟨sb,0,none⟩=some (.slice (some ⟨blk,0,none⟩) n c):=by rw [HN.out];exact HLV.out.s0
 go_cut [4] from 17 to 29 (fun v4 wc=>∃ b4 tb fb cT cF,v4=.pointer (some ⟨b4,0,none⟩)∧TS w1 n b4 tb fb cT cF 0 (List.replicate n 0) (List.replicate n 0) wc)
 case first =>
  have HK:=hid (fun (x:World) (hx:Below w1.heap.size w1 x)=>(show x.cell? ⟨b1,0,none⟩=some (.pointer (some ⟨sb,0,none⟩))∧x.cell? ⟨sb,0,none⟩=some (.slice (some ⟨blk,0,none⟩) n c) from ⟨(hx.cell (World.block_lt_of_cell? w1 _ HX1.out)).trans HX1.out,(hx.cell (World.block_lt_of_cell? w1 _ s0)).trans s0⟩))
  refine wp_region_held_drew (S:=(fun x=>x.cell? ⟨b1,0,none⟩=some (.pointer (some ⟨sb,0,none⟩))∧x.cell? ⟨sb,0,none⟩=some (.slice (some ⟨blk,0,none⟩) n c))) (by kernel_rfl) ?_ (fun hHeld=>?_)
  ·exact HK.out _ (below_drew (Below.refl _ _))
  obtain ⟨wz,hwz⟩ : ∃ x,x=w1.drew:=⟨_,rfl⟩
  rw [← hwz]
  rw [← hwz] at hHeld
  have HZW:=hid (show Below w1.heap.size w1 wz by rw [hwz];exact below_drew (Below.refl w1.heap.size w1))
  clear hwz
  refine wpAnyH_take (i:=0) (v:=?_) rfl (by kernel_rfl) (by kernel_rfl) (by kernel_rfl) (fun _ _ _ h=>h) (Or.inl ⟨by rfl,?_⟩) (by assumption) ?_
  rotate_left
  ·intro w hSw
   try dsimp only at hSw
   go_simp
   try with_reducible rfl
  simp only [Act.put,List.getElem_toArray,List.getElem_cons_succ,List.getElem_cons_zero,zA,zB,zC]
  refine wpAnyH_take (i:=1) (v:=?_) rfl (by kernel_rfl) (by kernel_rfl) (by kernel_rfl) (fun _ _ _ h=>h) (Or.inl ⟨by rfl,?_⟩) (by assumption) ?_
  rotate_left
  ·intro w hSw
   try dsimp only at hSw
   go_simp
   try with_reducible rfl
  simp only [Act.put,List.getElem_toArray,List.getElem_cons_succ,List.getElem_cons_zero,zA,zB,zC]
  refine wpAnyH_take (i:=2) (v:=?_) rfl (by kernel_rfl) (by kernel_rfl) (by kernel_rfl) (fun _ _ _ h=>h) (Or.inl ⟨by rfl,?_⟩) (by assumption) ?_
  rotate_left
  ·intro w hSw
   try dsimp only at hSw
   go_simp
   try with_reducible rfl
  simp only [Act.put,List.getElem_toArray,List.getElem_cons_succ,List.getElem_cons_zero,zA,zB,zC]
  refine wpAnyH_take (i:=3) (v:=?_) rfl (by kernel_rfl) (by kernel_rfl) (by kernel_rfl) (fun _ _ _ h=>h) (Or.inl ⟨by rfl,?_⟩) (by assumption) ?_
  rotate_left
  ·intro w hSw
   try dsimp only at hSw
   go_simp
   try with_reducible rfl
  simp only [Act.put,List.getElem_toArray,List.getElem_cons_succ,List.getElem_cons_zero,zA,zB,zC]
  refine wpAnyH_take (i:=4) (v:=?_) rfl (by kernel_rfl) (by kernel_rfl) (by kernel_rfl) (fun _ _ _ h=>h) (Or.inl ⟨by rfl,?_⟩) (by assumption) ?_
  rotate_left
  ·intro w hSw
   try dsimp only at hSw
   go_simp
   try with_reducible rfl
  simp only [Act.put,List.getElem_toArray,List.getElem_cons_succ,List.getElem_cons_zero,zA,zB,zC]
  refine wpAnyH_take (i:=6) (v:=?_) rfl (by kernel_rfl) (by kernel_rfl) (by kernel_rfl) (fun _ _ _ h=>h) (Or.inl ⟨by rfl,?_⟩) (by assumption) ?_
  rotate_left
  ·intro w hSw
   try dsimp only at hSw
   go_simp
   try with_reducible rfl
  simp only [Act.put,List.getElem_toArray,List.getElem_cons_succ,List.getElem_cons_zero,zA,zB,zC]
  refine wpAnyH_take (i:=7) (v:=?_) rfl (by kernel_rfl) (by kernel_rfl) (by kernel_rfl) (fun _ _ _ h=>h) (Or.inl ⟨by rfl,?_⟩) (by assumption) ?_
  rotate_left
  ·intro w hSw
   try dsimp only at hSw
   go_simp
   try with_reducible rfl
  simp only [Act.put,List.getElem_toArray,List.getElem_cons_succ,List.getElem_cons_zero,zA,zB,zC]
  refine wpAnyH_take (i:=8) (v:=?_) rfl (by kernel_rfl) (by kernel_rfl) (by kernel_rfl) (fun _ _ _ h=>h) (Or.inl ⟨by rfl,?_⟩) (by assumption) ?_
  rotate_left
  ·intro w hSw
   try dsimp only at hSw
   go_simp
   try with_reducible rfl
  simp only [Act.put,List.getElem_toArray,List.getElem_cons_succ,List.getElem_cons_zero,zA,zB,zC]
  refine wpAnyH_take (i:=9) (v:=?_) rfl (by kernel_rfl) (by kernel_rfl) (by kernel_rfl) (fun _ _ _ h=>h) (Or.inl ⟨by rfl,?_⟩) (by assumption) ?_
  rotate_left
  ·intro w hSw
   try dsimp only at hSw
   go_simp
   try with_reducible rfl
  simp only [Act.put,List.getElem_toArray,List.getElem_cons_succ,List.getElem_cons_zero,zA,zB,zC]
  refine wpAnyH_take (i:=10) (v:=?_) rfl (by kernel_rfl) (by kernel_rfl) (by kernel_rfl) (fun _ _ _ h=>h) (Or.inl ⟨by rfl,?_⟩) (by assumption) ?_
  rotate_left
  ·intro w hSw
   try dsimp only at hSw
   go_simp
   try with_reducible rfl
  simp only [Act.put,List.getElem_toArray,List.getElem_cons_succ,List.getElem_cons_zero,zA,zB,zC]
  refine wpAnyH_ready (rs:=[5,11,13]) (by kernel_rfl) (by simp) ?_
  refine AllReadyH.cons rfl (fun K hK=>?_) ?_
  ·refine Kd.R_make_step (Kd.int .i64) (w0:=w1) w1.heap.size 2 (by first | rfl | simp [Region.wanted]) (N:=22) rfl 71 (.tmp 21) (.tmp 21) rfl (n:Int) rfl rfl Tryz.underlying71 (.int .i64 0) 8 info2 rfl (by decide) (by omega) (0:Int) (ok:=fun _=>True) (okp:=fun _=>True) rfl (fun _ hk=>hk) trivial (by omega) (by rw [Int.toNat_natCast];omega) HZW.out (HZW.out).size ?_
   intro v22 x1 hn hb hg_ hat_
   rw [Int.toNat_natCast] at hn
   obtain ⟨g22,cap22,e22,hge22,hlt22,_⟩:=Kd.R_form hn (by rw [List.length_replicate];omega)
   rw [List.length_replicate] at e22
   have hbz:Below (wz).heap.size (wz) x1:=grown_none HZW.out hb hg_
   have hb1:=hid hb
   have HT1:=hid (show Kd.R (Kd.int .i64) 2 x1 w1.heap.size (fun _=>True) (.slice (some ⟨g22,0,none⟩) n cap22) (List.replicate n 0) by rw [← e22];exact hn)
   subst e22
   clear hn hb hg_ hat_ hbz hge22 hlt22
   refine hK.out _ _ ?_ (fun hHeld=>?_)
   ·exact HK.out _ hb1.out
   ·clear hK K
    try simp only [Act.put,List.getElem_toArray,List.getElem_cons_succ,List.getElem_cons_zero,zA,zB,zC]
    refine wpAnyH_ready (rs:=[11,13]) (by kernel_rfl) (by simp) ?_
    refine AllReadyH.cons rfl (fun K hK=>?_) ?_
    ·refine Kd.R_make_step (Kd.int .i64) (w0:=w1) w1.heap.size 2 (by first | rfl | simp [Region.wanted]) (N:=28) rfl 71 (.tmp 27) (.tmp 27) rfl (n:Int) rfl rfl Tryz.underlying71 (.int .i64 0) 8 info2 rfl (by decide) (by omega) (0:Int) (ok:=fun _=>True) (okp:=fun _=>True) rfl (fun _ hk=>hk) trivial (by omega) (by rw [Int.toNat_natCast];omega) hb1.out (hb1.out).size ?_
     intro v28 x2 hn hb hg_ hat_
     rw [Int.toNat_natCast] at hn
     obtain ⟨g28,cap28,e28,hge28,hlt28,_⟩:=Kd.R_form hn (by rw [List.length_replicate];omega)
     rw [List.length_replicate] at e28
     have hbz:Below (x1).heap.size (x1) x2:=grown_none hb1.out hb hg_
     have hb2:=hid hb
     have HNE:=hid (made_ne HT1.out e28 hat_)
     have HT2:=hid (Kd.R_grown HT1.out hg_ (fun _ _=>by simp))
     have HF2:=hid (show Kd.R (Kd.int .i64) 2 x2 w1.heap.size (fun _=>True) (.slice (some ⟨g28,0,none⟩) n cap28) (List.replicate n 0) by rw [← e28];exact hn)
     subst e28
     clear hn hb hg_ hat_ hbz hge28 hlt28
     refine hK.out _ _ ?_ (fun hHeld=>?_)
     ·exact HK.out _ hb2.out
     ·clear hK K
      try simp only [Act.put,List.getElem_toArray,List.getElem_cons_succ,List.getElem_cons_zero,zA,zB,zC]
      refine wpAnyH_take (i:=12) (v:=?_) rfl (by kernel_rfl) (by kernel_rfl) (by kernel_rfl) (fun _ _ _ h=>h) (Or.inl ⟨by rfl,?_⟩) (by assumption) ?_
      rotate_left
      ·intro w hSw
       try dsimp only at hSw
       go_simp
       try with_reducible rfl
      simp only [Act.put,List.getElem_toArray,List.getElem_cons_succ,List.getElem_cons_zero,zA,zB,zC]
      refine wpAnyH_ready (rs:=[13]) (by kernel_rfl) (by simp) ?_
      refine AllReadyH.cons rfl (fun K hK=>?_) ?_
      ·go_simp
       obtain ⟨x3,hy⟩ : ∃ y,y=(x2).alloc (.cells #[.int .i64 0,.slice none 0 0,.slice none 0 0] 103):=⟨_,rfl⟩
       rw [← hy]
       have hbz:Below (x2).heap.size (x2) x3:=by rw [hy];exact below_alloc (Below.refl _ _) _
       have hbx:x3.heap[(x2).heap.size]? = some (.cells #[.int .i64 0,.slice none 0 0,.slice none 0 0] 103 (0,0)):=by rw [hy];exact blk_new _ _
       have hg_:(x2).grownBy x3 none:=by rw [hy];exact World.grownBy_alloc _ _ none
       obtain ⟨b4,hb4⟩ : ∃ b,b=(x2).heap.size:=⟨_,rfl⟩
       rw [← hb4] at hbx
       rw [← hb4]
       have HLO:=hid (show w1.heap.size≤b4 by rw [hb4];exact below_size (hb2.out))
       clear hy hb4
       have hb3:=hid (below_step (hb2.out) hbz)
       have HT3:=hid (Kd.R_grown HT2.out hg_ (fun _ _=>by simp))
       have HF3:=hid (Kd.R_grown HF2.out hg_ (fun _ _=>by simp))
       have HX3:=hid hbx
       clear hbx hbz hg_
       refine hK.out _ _ ?_ (fun hHeld=>?_)
       ·exact HK.out _ hb3.out
       ·clear hK K
        try simp only [Act.put,List.getElem_toArray,List.getElem_cons_succ,List.getElem_cons_zero,zA,zB,zC]
        refine wpAnyH_ready (rs:=[14]) (by kernel_rfl) (by simp) ?_
        refine AllReadyH.cons rfl (fun K hK=>?_) ?_
        ·have m0:=blk_cell HX3.out 0
         have m1:=blk_cell HX3.out 1
         have m2:=blk_cell HX3.out 2
         have f0:=blk_frozen HX3.out 0
         have f1:=blk_frozen HX3.out 1
         have f2:=blk_frozen HX3.out 2
         go_simp
         obtain ⟨x4,hy⟩ : ∃ y,y=(((x3).setCell ⟨b4,0,none⟩ (.int .i64 0)).setCell ⟨b4,1,none⟩ (.slice (some ⟨g22,0,none⟩) n cap22)).setCell ⟨b4,2,none⟩ (.slice (some ⟨g28,0,none⟩) n cap28):=⟨_,rfl⟩
         rw [← hy]
         clear m0 m1 m2 f0 f1 f2
         have HTS:=hid (ts_made hy HX3.out HT3.out HF3.out HNE.out hb3.out HLO.out)
         clear hy
         have hb4:=hid HTS.out.bel
         refine hK.out _ _ ?_ (fun hHeld=>?_)
         ·exact HK.out _ hb4.out
         ·clear hK K
          try simp only [Act.put,List.getElem_toArray,List.getElem_cons_succ,List.getElem_cons_zero,zA,zB,zC]
          refine wpAnyH_done (by kernel_rfl) ?_ _
          go_wp2_with fail
          go_meet
          case rel=>exact ⟨b4,g22,g28,cap22,cap28,rfl,HTS.out⟩
        exact AllReadyH.nil
      exact AllReadyH.nil
    refine AllReadyH.cons rfl (fun K hK=>?_) ?_
    ·go_simp
     obtain ⟨x5,hy⟩ : ∃ y,y=(x1).alloc (.cells #[.int .i64 0,.slice none 0 0,.slice none 0 0] 103):=⟨_,rfl⟩
     rw [← hy]
     have hbz:Below (x1).heap.size (x1) x5:=by rw [hy];exact below_alloc (Below.refl _ _) _
     have hbx:x5.heap[(x1).heap.size]? = some (.cells #[.int .i64 0,.slice none 0 0,.slice none 0 0] 103 (0,0)):=by rw [hy];exact blk_new _ _
     have hg_:(x1).grownBy x5 none:=by rw [hy];exact World.grownBy_alloc _ _ none
     obtain ⟨b4,hb4⟩ : ∃ b,b=(x1).heap.size:=⟨_,rfl⟩
     rw [← hb4] at hbx
     rw [← hb4]
     have HLO:=hid (show w1.heap.size≤b4 by rw [hb4];exact below_size (hb1.out))
     clear hy hb4
     have hb5:=hid (below_step (hb1.out) hbz)
     have HT5:=hid (Kd.R_grown HT1.out hg_ (fun _ _=>by simp))
     have HX5:=hid hbx
     clear hbx hbz hg_
     refine hK.out _ _ ?_ (fun hHeld=>?_)
     ·exact HK.out _ hb5.out
     ·clear hK K
      try simp only [Act.put,List.getElem_toArray,List.getElem_cons_succ,List.getElem_cons_zero,zA,zB,zC]
      refine wpAnyH_ready (rs:=[11]) (by kernel_rfl) (by simp) ?_
      refine AllReadyH.cons rfl (fun K hK=>?_) ?_
      ·refine Kd.R_make_step (Kd.int .i64) (w0:=w1) w1.heap.size 2 (by first | rfl | simp [Region.wanted]) (N:=28) rfl 71 (.tmp 27) (.tmp 27) rfl (n:Int) rfl rfl Tryz.underlying71 (.int .i64 0) 8 info2 rfl (by decide) (by omega) (0:Int) (ok:=fun _=>True) (okp:=fun _=>True) rfl (fun _ hk=>hk) trivial (by omega) (by rw [Int.toNat_natCast];omega) hb5.out (hb5.out).size ?_
       intro v28 x6 hn hb hg_ hat_
       rw [Int.toNat_natCast] at hn
       obtain ⟨g28,cap28,e28,hge28,hlt28,_⟩:=Kd.R_form hn (by rw [List.length_replicate];omega)
       rw [List.length_replicate] at e28
       have hbz:Below (x5).heap.size (x5) x6:=grown_none hb5.out hb hg_
       have hb6:=hid hb
       have HNE:=hid (made_ne HT5.out e28 hat_)
       have HT6:=hid (Kd.R_grown HT5.out hg_ (fun _ _=>by simp))
       have HX6:=hid ((hbz.block _ (blk_lt HX5.out)).trans HX5.out)
       have HF6:=hid (show Kd.R (Kd.int .i64) 2 x6 w1.heap.size (fun _=>True) (.slice (some ⟨g28,0,none⟩) n cap28) (List.replicate n 0) by rw [← e28];exact hn)
       subst e28
       clear hn hb hg_ hat_ hbz hge28 hlt28
       refine hK.out _ _ ?_ (fun hHeld=>?_)
       ·exact HK.out _ hb6.out
       ·clear hK K
        try simp only [Act.put,List.getElem_toArray,List.getElem_cons_succ,List.getElem_cons_zero,zA,zB,zC]
        refine wpAnyH_take (i:=12) (v:=?_) rfl (by kernel_rfl) (by kernel_rfl) (by kernel_rfl) (fun _ _ _ h=>h) (Or.inl ⟨by rfl,?_⟩) (by assumption) ?_
        rotate_left
        ·intro w hSw
         try dsimp only at hSw
         go_simp
         try with_reducible rfl
        simp only [Act.put,List.getElem_toArray,List.getElem_cons_succ,List.getElem_cons_zero,zA,zB,zC]
        refine wpAnyH_ready (rs:=[14]) (by kernel_rfl) (by simp) ?_
        refine AllReadyH.cons rfl (fun K hK=>?_) ?_
        ·have m0:=blk_cell HX6.out 0
         have m1:=blk_cell HX6.out 1
         have m2:=blk_cell HX6.out 2
         have f0:=blk_frozen HX6.out 0
         have f1:=blk_frozen HX6.out 1
         have f2:=blk_frozen HX6.out 2
         go_simp
         obtain ⟨x7,hy⟩ : ∃ y,y=(((x6).setCell ⟨b4,0,none⟩ (.int .i64 0)).setCell ⟨b4,1,none⟩ (.slice (some ⟨g22,0,none⟩) n cap22)).setCell ⟨b4,2,none⟩ (.slice (some ⟨g28,0,none⟩) n cap28):=⟨_,rfl⟩
         rw [← hy]
         clear m0 m1 m2 f0 f1 f2
         have HTS:=hid (ts_made hy HX6.out HT6.out HF6.out HNE.out hb6.out HLO.out)
         clear hy
         have hb7:=hid HTS.out.bel
         refine hK.out _ _ ?_ (fun hHeld=>?_)
         ·exact HK.out _ hb7.out
         ·clear hK K
          try simp only [Act.put,List.getElem_toArray,List.getElem_cons_succ,List.getElem_cons_zero,zA,zB,zC]
          refine wpAnyH_done (by kernel_rfl) ?_ _
          go_wp2_with fail
          go_meet
          case rel=>exact ⟨b4,g22,g28,cap22,cap28,rfl,HTS.out⟩
        exact AllReadyH.nil
      exact AllReadyH.nil
    exact AllReadyH.nil
  refine AllReadyH.cons rfl (fun K hK=>?_) ?_
  ·refine Kd.R_make_step (Kd.int .i64) (w0:=w1) w1.heap.size 2 (by first | rfl | simp [Region.wanted]) (N:=28) rfl 71 (.tmp 27) (.tmp 27) rfl (n:Int) rfl rfl Tryz.underlying71 (.int .i64 0) 8 info2 rfl (by decide) (by omega) (0:Int) (ok:=fun _=>True) (okp:=fun _=>True) rfl (fun _ hk=>hk) trivial (by omega) (by rw [Int.toNat_natCast];omega) HZW.out (HZW.out).size ?_
   intro v28 x8 hn hb hg_ hat_
   rw [Int.toNat_natCast] at hn
   obtain ⟨g28,cap28,e28,hge28,hlt28,_⟩:=Kd.R_form hn (by rw [List.length_replicate];omega)
   rw [List.length_replicate] at e28
   have hbz:Below (wz).heap.size (wz) x8:=grown_none HZW.out hb hg_
   have hb8:=hid hb
   have HF8:=hid (show Kd.R (Kd.int .i64) 2 x8 w1.heap.size (fun _=>True) (.slice (some ⟨g28,0,none⟩) n cap28) (List.replicate n 0) by rw [← e28];exact hn)
   subst e28
   clear hn hb hg_ hat_ hbz hge28 hlt28
   refine hK.out _ _ ?_ (fun hHeld=>?_)
   ·exact HK.out _ hb8.out
   ·clear hK K
    try simp only [Act.put,List.getElem_toArray,List.getElem_cons_succ,List.getElem_cons_zero,zA,zB,zC]
    refine wpAnyH_ready (rs:=[5,13]) (by kernel_rfl) (by simp) ?_
    refine AllReadyH.cons rfl (fun K hK=>?_) ?_
    ·refine Kd.R_make_step (Kd.int .i64) (w0:=w1) w1.heap.size 2 (by first | rfl | simp [Region.wanted]) (N:=22) rfl 71 (.tmp 21) (.tmp 21) rfl (n:Int) rfl rfl Tryz.underlying71 (.int .i64 0) 8 info2 rfl (by decide) (by omega) (0:Int) (ok:=fun _=>True) (okp:=fun _=>True) rfl (fun _ hk=>hk) trivial (by omega) (by rw [Int.toNat_natCast];omega) hb8.out (hb8.out).size ?_
     intro v22 x9 hn hb hg_ hat_
     rw [Int.toNat_natCast] at hn
     obtain ⟨g22,cap22,e22,hge22,hlt22,_⟩:=Kd.R_form hn (by rw [List.length_replicate];omega)
     rw [List.length_replicate] at e22
     have hbz:Below (x8).heap.size (x8) x9:=grown_none hb8.out hb hg_
     have hb9:=hid hb
     have HNE:=hid (made_ne HF8.out e22 hat_)
     have HF9:=hid (Kd.R_grown HF8.out hg_ (fun _ _=>by simp))
     have HT9:=hid (show Kd.R (Kd.int .i64) 2 x9 w1.heap.size (fun _=>True) (.slice (some ⟨g22,0,none⟩) n cap22) (List.replicate n 0) by rw [← e22];exact hn)
     subst e22
     clear hn hb hg_ hat_ hbz hge22 hlt22
     refine hK.out _ _ ?_ (fun hHeld=>?_)
     ·exact HK.out _ hb9.out
     ·clear hK K
      try simp only [Act.put,List.getElem_toArray,List.getElem_cons_succ,List.getElem_cons_zero,zA,zB,zC]
      refine wpAnyH_take (i:=12) (v:=?_) rfl (by kernel_rfl) (by kernel_rfl) (by kernel_rfl) (fun _ _ _ h=>h) (Or.inl ⟨by rfl,?_⟩) (by assumption) ?_
      rotate_left
      ·intro w hSw
       try dsimp only at hSw
       go_simp
       try with_reducible rfl
      simp only [Act.put,List.getElem_toArray,List.getElem_cons_succ,List.getElem_cons_zero,zA,zB,zC]
      refine wpAnyH_ready (rs:=[13]) (by kernel_rfl) (by simp) ?_
      refine AllReadyH.cons rfl (fun K hK=>?_) ?_
      ·go_simp
       obtain ⟨x10,hy⟩ : ∃ y,y=(x9).alloc (.cells #[.int .i64 0,.slice none 0 0,.slice none 0 0] 103):=⟨_,rfl⟩
       rw [← hy]
       have hbz:Below (x9).heap.size (x9) x10:=by rw [hy];exact below_alloc (Below.refl _ _) _
       have hbx:x10.heap[(x9).heap.size]? = some (.cells #[.int .i64 0,.slice none 0 0,.slice none 0 0] 103 (0,0)):=by rw [hy];exact blk_new _ _
       have hg_:(x9).grownBy x10 none:=by rw [hy];exact World.grownBy_alloc _ _ none
       obtain ⟨b4,hb4⟩ : ∃ b,b=(x9).heap.size:=⟨_,rfl⟩
       rw [← hb4] at hbx
       rw [← hb4]
       have HLO:=hid (show w1.heap.size≤b4 by rw [hb4];exact below_size (hb9.out))
       clear hy hb4
       have hb10:=hid (below_step (hb9.out) hbz)
       have HT10:=hid (Kd.R_grown HT9.out hg_ (fun _ _=>by simp))
       have HF10:=hid (Kd.R_grown HF9.out hg_ (fun _ _=>by simp))
       have HX10:=hid hbx
       clear hbx hbz hg_
       refine hK.out _ _ ?_ (fun hHeld=>?_)
       ·exact HK.out _ hb10.out
       ·clear hK K
        try simp only [Act.put,List.getElem_toArray,List.getElem_cons_succ,List.getElem_cons_zero,zA,zB,zC]
        refine wpAnyH_ready (rs:=[14]) (by kernel_rfl) (by simp) ?_
        refine AllReadyH.cons rfl (fun K hK=>?_) ?_
        ·have m0:=blk_cell HX10.out 0
         have m1:=blk_cell HX10.out 1
         have m2:=blk_cell HX10.out 2
         have f0:=blk_frozen HX10.out 0
         have f1:=blk_frozen HX10.out 1
         have f2:=blk_frozen HX10.out 2
         go_simp
         obtain ⟨x11,hy⟩ : ∃ y,y=(((x10).setCell ⟨b4,0,none⟩ (.int .i64 0)).setCell ⟨b4,1,none⟩ (.slice (some ⟨g22,0,none⟩) n cap22)).setCell ⟨b4,2,none⟩ (.slice (some ⟨g28,0,none⟩) n cap28):=⟨_,rfl⟩
         rw [← hy]
         clear m0 m1 m2 f0 f1 f2
         have HTS:=hid (ts_made hy HX10.out HT10.out HF10.out (fun e=>HNE.out e.symm) hb10.out HLO.out)
         clear hy
         have hb11:=hid HTS.out.bel
         refine hK.out _ _ ?_ (fun hHeld=>?_)
         ·exact HK.out _ hb11.out
         ·clear hK K
          try simp only [Act.put,List.getElem_toArray,List.getElem_cons_succ,List.getElem_cons_zero,zA,zB,zC]
          refine wpAnyH_done (by kernel_rfl) ?_ _
          go_wp2_with fail
          go_meet
          case rel=>exact ⟨b4,g22,g28,cap22,cap28,rfl,HTS.out⟩
        exact AllReadyH.nil
      exact AllReadyH.nil
    refine AllReadyH.cons rfl (fun K hK=>?_) ?_
    ·go_simp
     obtain ⟨x12,hy⟩ : ∃ y,y=(x8).alloc (.cells #[.int .i64 0,.slice none 0 0,.slice none 0 0] 103):=⟨_,rfl⟩
     rw [← hy]
     have hbz:Below (x8).heap.size (x8) x12:=by rw [hy];exact below_alloc (Below.refl _ _) _
     have hbx:x12.heap[(x8).heap.size]? = some (.cells #[.int .i64 0,.slice none 0 0,.slice none 0 0] 103 (0,0)):=by rw [hy];exact blk_new _ _
     have hg_:(x8).grownBy x12 none:=by rw [hy];exact World.grownBy_alloc _ _ none
     obtain ⟨b4,hb4⟩ : ∃ b,b=(x8).heap.size:=⟨_,rfl⟩
     rw [← hb4] at hbx
     rw [← hb4]
     have HLO:=hid (show w1.heap.size≤b4 by rw [hb4];exact below_size (hb8.out))
     clear hy hb4
     have hb12:=hid (below_step (hb8.out) hbz)
     have HF12:=hid (Kd.R_grown HF8.out hg_ (fun _ _=>by simp))
     have HX12:=hid hbx
     clear hbx hbz hg_
     refine hK.out _ _ ?_ (fun hHeld=>?_)
     ·exact HK.out _ hb12.out
     ·clear hK K
      try simp only [Act.put,List.getElem_toArray,List.getElem_cons_succ,List.getElem_cons_zero,zA,zB,zC]
      refine wpAnyH_ready (rs:=[5]) (by kernel_rfl) (by simp) ?_
      refine AllReadyH.cons rfl (fun K hK=>?_) ?_
      ·refine Kd.R_make_step (Kd.int .i64) (w0:=w1) w1.heap.size 2 (by first | rfl | simp [Region.wanted]) (N:=22) rfl 71 (.tmp 21) (.tmp 21) rfl (n:Int) rfl rfl Tryz.underlying71 (.int .i64 0) 8 info2 rfl (by decide) (by omega) (0:Int) (ok:=fun _=>True) (okp:=fun _=>True) rfl (fun _ hk=>hk) trivial (by omega) (by rw [Int.toNat_natCast];omega) hb12.out (hb12.out).size ?_
       intro v22 x13 hn hb hg_ hat_
       rw [Int.toNat_natCast] at hn
       obtain ⟨g22,cap22,e22,hge22,hlt22,_⟩:=Kd.R_form hn (by rw [List.length_replicate];omega)
       rw [List.length_replicate] at e22
       have hbz:Below (x12).heap.size (x12) x13:=grown_none hb12.out hb hg_
       have hb13:=hid hb
       have HNE:=hid (made_ne HF12.out e22 hat_)
       have HF13:=hid (Kd.R_grown HF12.out hg_ (fun _ _=>by simp))
       have HX13:=hid ((hbz.block _ (blk_lt HX12.out)).trans HX12.out)
       have HT13:=hid (show Kd.R (Kd.int .i64) 2 x13 w1.heap.size (fun _=>True) (.slice (some ⟨g22,0,none⟩) n cap22) (List.replicate n 0) by rw [← e22];exact hn)
       subst e22
       clear hn hb hg_ hat_ hbz hge22 hlt22
       refine hK.out _ _ ?_ (fun hHeld=>?_)
       ·exact HK.out _ hb13.out
       ·clear hK K
        try simp only [Act.put,List.getElem_toArray,List.getElem_cons_succ,List.getElem_cons_zero,zA,zB,zC]
        refine wpAnyH_take (i:=12) (v:=?_) rfl (by kernel_rfl) (by kernel_rfl) (by kernel_rfl) (fun _ _ _ h=>h) (Or.inl ⟨by rfl,?_⟩) (by assumption) ?_
        rotate_left
        ·intro w hSw
         try dsimp only at hSw
         go_simp
         try with_reducible rfl
        simp only [Act.put,List.getElem_toArray,List.getElem_cons_succ,List.getElem_cons_zero,zA,zB,zC]
        refine wpAnyH_ready (rs:=[14]) (by kernel_rfl) (by simp) ?_
        refine AllReadyH.cons rfl (fun K hK=>?_) ?_
        ·have m0:=blk_cell HX13.out 0
         have m1:=blk_cell HX13.out 1
         have m2:=blk_cell HX13.out 2
         have f0:=blk_frozen HX13.out 0
         have f1:=blk_frozen HX13.out 1
         have f2:=blk_frozen HX13.out 2
         go_simp
         obtain ⟨x14,hy⟩ : ∃ y,y=(((x13).setCell ⟨b4,0,none⟩ (.int .i64 0)).setCell ⟨b4,1,none⟩ (.slice (some ⟨g22,0,none⟩) n cap22)).setCell ⟨b4,2,none⟩ (.slice (some ⟨g28,0,none⟩) n cap28):=⟨_,rfl⟩
         rw [← hy]
         clear m0 m1 m2 f0 f1 f2
         have HTS:=hid (ts_made hy HX13.out HT13.out HF13.out (fun e=>HNE.out e.symm) hb13.out HLO.out)
         clear hy
         have hb14:=hid HTS.out.bel
         refine hK.out _ _ ?_ (fun hHeld=>?_)
         ·exact HK.out _ hb14.out
         ·clear hK K
          try simp only [Act.put,List.getElem_toArray,List.getElem_cons_succ,List.getElem_cons_zero,zA,zB,zC]
          refine wpAnyH_done (by kernel_rfl) ?_ _
          go_wp2_with fail
          go_meet
          case rel=>exact ⟨b4,g22,g28,cap22,cap28,rfl,HTS.out⟩
        exact AllReadyH.nil
      exact AllReadyH.nil
    exact AllReadyH.nil
  refine AllReadyH.cons rfl (fun K hK=>?_) ?_
  ·go_simp
   obtain ⟨x15,hy⟩ : ∃ y,y=(wz).alloc (.cells #[.int .i64 0,.slice none 0 0,.slice none 0 0] 103):=⟨_,rfl⟩
   rw [← hy]
   have hbz:Below (wz).heap.size (wz) x15:=by rw [hy];exact below_alloc (Below.refl _ _) _
   have hbx:x15.heap[(wz).heap.size]? = some (.cells #[.int .i64 0,.slice none 0 0,.slice none 0 0] 103 (0,0)):=by rw [hy];exact blk_new _ _
   have hg_:(wz).grownBy x15 none:=by rw [hy];exact World.grownBy_alloc _ _ none
   obtain ⟨b4,hb4⟩ : ∃ b,b=(wz).heap.size:=⟨_,rfl⟩
   rw [← hb4] at hbx
   rw [← hb4]
   have HLO:=hid (show w1.heap.size≤b4 by rw [hb4];exact below_size (HZW.out))
   clear hy hb4
   have hb15:=hid (below_step (HZW.out) hbz)
   have HX15:=hid hbx
   clear hbx hbz hg_
   refine hK.out _ _ ?_ (fun hHeld=>?_)
   ·exact HK.out _ hb15.out
   ·clear hK K
    try simp only [Act.put,List.getElem_toArray,List.getElem_cons_succ,List.getElem_cons_zero,zA,zB,zC]
    refine wpAnyH_ready (rs:=[5,11]) (by kernel_rfl) (by simp) ?_
    refine AllReadyH.cons rfl (fun K hK=>?_) ?_
    ·refine Kd.R_make_step (Kd.int .i64) (w0:=w1) w1.heap.size 2 (by first | rfl | simp [Region.wanted]) (N:=22) rfl 71 (.tmp 21) (.tmp 21) rfl (n:Int) rfl rfl Tryz.underlying71 (.int .i64 0) 8 info2 rfl (by decide) (by omega) (0:Int) (ok:=fun _=>True) (okp:=fun _=>True) rfl (fun _ hk=>hk) trivial (by omega) (by rw [Int.toNat_natCast];omega) hb15.out (hb15.out).size ?_
     intro v22 x16 hn hb hg_ hat_
     rw [Int.toNat_natCast] at hn
     obtain ⟨g22,cap22,e22,hge22,hlt22,_⟩:=Kd.R_form hn (by rw [List.length_replicate];omega)
     rw [List.length_replicate] at e22
     have hbz:Below (x15).heap.size (x15) x16:=grown_none hb15.out hb hg_
     have hb16:=hid hb
     have HX16:=hid ((hbz.block _ (blk_lt HX15.out)).trans HX15.out)
     have HT16:=hid (show Kd.R (Kd.int .i64) 2 x16 w1.heap.size (fun _=>True) (.slice (some ⟨g22,0,none⟩) n cap22) (List.replicate n 0) by rw [← e22];exact hn)
     subst e22
     clear hn hb hg_ hat_ hbz hge22 hlt22
     refine hK.out _ _ ?_ (fun hHeld=>?_)
     ·exact HK.out _ hb16.out
     ·clear hK K
      try simp only [Act.put,List.getElem_toArray,List.getElem_cons_succ,List.getElem_cons_zero,zA,zB,zC]
      refine wpAnyH_ready (rs:=[11]) (by kernel_rfl) (by simp) ?_
      refine AllReadyH.cons rfl (fun K hK=>?_) ?_
      ·refine Kd.R_make_step (Kd.int .i64) (w0:=w1) w1.heap.size 2 (by first | rfl | simp [Region.wanted]) (N:=28) rfl 71 (.tmp 27) (.tmp 27) rfl (n:Int) rfl rfl Tryz.underlying71 (.int .i64 0) 8 info2 rfl (by decide) (by omega) (0:Int) (ok:=fun _=>True) (okp:=fun _=>True) rfl (fun _ hk=>hk) trivial (by omega) (by rw [Int.toNat_natCast];omega) hb16.out (hb16.out).size ?_
       intro v28 x17 hn hb hg_ hat_
       rw [Int.toNat_natCast] at hn
       obtain ⟨g28,cap28,e28,hge28,hlt28,_⟩:=Kd.R_form hn (by rw [List.length_replicate];omega)
       rw [List.length_replicate] at e28
       have hbz:Below (x16).heap.size (x16) x17:=grown_none hb16.out hb hg_
       have hb17:=hid hb
       have HNE:=hid (made_ne HT16.out e28 hat_)
       have HT17:=hid (Kd.R_grown HT16.out hg_ (fun _ _=>by simp))
       have HX17:=hid ((hbz.block _ (blk_lt HX16.out)).trans HX16.out)
       have HF17:=hid (show Kd.R (Kd.int .i64) 2 x17 w1.heap.size (fun _=>True) (.slice (some ⟨g28,0,none⟩) n cap28) (List.replicate n 0) by rw [← e28];exact hn)
       subst e28
       clear hn hb hg_ hat_ hbz hge28 hlt28
       refine hK.out _ _ ?_ (fun hHeld=>?_)
       ·exact HK.out _ hb17.out
       ·clear hK K
        try simp only [Act.put,List.getElem_toArray,List.getElem_cons_succ,List.getElem_cons_zero,zA,zB,zC]
        refine wpAnyH_take (i:=12) (v:=?_) rfl (by kernel_rfl) (by kernel_rfl) (by kernel_rfl) (fun _ _ _ h=>h) (Or.inl ⟨by rfl,?_⟩) (by assumption) ?_
        rotate_left
        ·intro w hSw
         try dsimp only at hSw
         go_simp
         try with_reducible rfl
        simp only [Act.put,List.getElem_toArray,List.getElem_cons_succ,List.getElem_cons_zero,zA,zB,zC]
        refine wpAnyH_ready (rs:=[14]) (by kernel_rfl) (by simp) ?_
        refine AllReadyH.cons rfl (fun K hK=>?_) ?_
        ·have m0:=blk_cell HX17.out 0
         have m1:=blk_cell HX17.out 1
         have m2:=blk_cell HX17.out 2
         have f0:=blk_frozen HX17.out 0
         have f1:=blk_frozen HX17.out 1
         have f2:=blk_frozen HX17.out 2
         go_simp
         obtain ⟨x18,hy⟩ : ∃ y,y=(((x17).setCell ⟨b4,0,none⟩ (.int .i64 0)).setCell ⟨b4,1,none⟩ (.slice (some ⟨g22,0,none⟩) n cap22)).setCell ⟨b4,2,none⟩ (.slice (some ⟨g28,0,none⟩) n cap28):=⟨_,rfl⟩
         rw [← hy]
         clear m0 m1 m2 f0 f1 f2
         have HTS:=hid (ts_made hy HX17.out HT17.out HF17.out HNE.out hb17.out HLO.out)
         clear hy
         have hb18:=hid HTS.out.bel
         refine hK.out _ _ ?_ (fun hHeld=>?_)
         ·exact HK.out _ hb18.out
         ·clear hK K
          try simp only [Act.put,List.getElem_toArray,List.getElem_cons_succ,List.getElem_cons_zero,zA,zB,zC]
          refine wpAnyH_done (by kernel_rfl) ?_ _
          go_wp2_with fail
          go_meet
          case rel=>exact ⟨b4,g22,g28,cap22,cap28,rfl,HTS.out⟩
        exact AllReadyH.nil
      exact AllReadyH.nil
    refine AllReadyH.cons rfl (fun K hK=>?_) ?_
    ·refine Kd.R_make_step (Kd.int .i64) (w0:=w1) w1.heap.size 2 (by first | rfl | simp [Region.wanted]) (N:=28) rfl 71 (.tmp 27) (.tmp 27) rfl (n:Int) rfl rfl Tryz.underlying71 (.int .i64 0) 8 info2 rfl (by decide) (by omega) (0:Int) (ok:=fun _=>True) (okp:=fun _=>True) rfl (fun _ hk=>hk) trivial (by omega) (by rw [Int.toNat_natCast];omega) hb15.out (hb15.out).size ?_
     intro v28 x19 hn hb hg_ hat_
     rw [Int.toNat_natCast] at hn
     obtain ⟨g28,cap28,e28,hge28,hlt28,_⟩:=Kd.R_form hn (by rw [List.length_replicate];omega)
     rw [List.length_replicate] at e28
     have hbz:Below (x15).heap.size (x15) x19:=grown_none hb15.out hb hg_
     have hb19:=hid hb
     have HX19:=hid ((hbz.block _ (blk_lt HX15.out)).trans HX15.out)
     have HF19:=hid (show Kd.R (Kd.int .i64) 2 x19 w1.heap.size (fun _=>True) (.slice (some ⟨g28,0,none⟩) n cap28) (List.replicate n 0) by rw [← e28];exact hn)
     subst e28
     clear hn hb hg_ hat_ hbz hge28 hlt28
     refine hK.out _ _ ?_ (fun hHeld=>?_)
     ·exact HK.out _ hb19.out
     ·clear hK K
      try simp only [Act.put,List.getElem_toArray,List.getElem_cons_succ,List.getElem_cons_zero,zA,zB,zC]
      refine wpAnyH_ready (rs:=[5]) (by kernel_rfl) (by simp) ?_
      refine AllReadyH.cons rfl (fun K hK=>?_) ?_
      ·refine Kd.R_make_step (Kd.int .i64) (w0:=w1) w1.heap.size 2 (by first | rfl | simp [Region.wanted]) (N:=22) rfl 71 (.tmp 21) (.tmp 21) rfl (n:Int) rfl rfl Tryz.underlying71 (.int .i64 0) 8 info2 rfl (by decide) (by omega) (0:Int) (ok:=fun _=>True) (okp:=fun _=>True) rfl (fun _ hk=>hk) trivial (by omega) (by rw [Int.toNat_natCast];omega) hb19.out (hb19.out).size ?_
       intro v22 x20 hn hb hg_ hat_
       rw [Int.toNat_natCast] at hn
       obtain ⟨g22,cap22,e22,hge22,hlt22,_⟩:=Kd.R_form hn (by rw [List.length_replicate];omega)
       rw [List.length_replicate] at e22
       have hbz:Below (x19).heap.size (x19) x20:=grown_none hb19.out hb hg_
       have hb20:=hid hb
       have HNE:=hid (made_ne HF19.out e22 hat_)
       have HF20:=hid (Kd.R_grown HF19.out hg_ (fun _ _=>by simp))
       have HX20:=hid ((hbz.block _ (blk_lt HX19.out)).trans HX19.out)
       have HT20:=hid (show Kd.R (Kd.int .i64) 2 x20 w1.heap.size (fun _=>True) (.slice (some ⟨g22,0,none⟩) n cap22) (List.replicate n 0) by rw [← e22];exact hn)
       subst e22
       clear hn hb hg_ hat_ hbz hge22 hlt22
       refine hK.out _ _ ?_ (fun hHeld=>?_)
       ·exact HK.out _ hb20.out
       ·clear hK K
        try simp only [Act.put,List.getElem_toArray,List.getElem_cons_succ,List.getElem_cons_zero,zA,zB,zC]
        refine wpAnyH_take (i:=12) (v:=?_) rfl (by kernel_rfl) (by kernel_rfl) (by kernel_rfl) (fun _ _ _ h=>h) (Or.inl ⟨by rfl,?_⟩) (by assumption) ?_
        rotate_left
        ·intro w hSw
         try dsimp only at hSw
         go_simp
         try with_reducible rfl
        simp only [Act.put,List.getElem_toArray,List.getElem_cons_succ,List.getElem_cons_zero,zA,zB,zC]
        refine wpAnyH_ready (rs:=[14]) (by kernel_rfl) (by simp) ?_
        refine AllReadyH.cons rfl (fun K hK=>?_) ?_
        ·have m0:=blk_cell HX20.out 0
         have m1:=blk_cell HX20.out 1
         have m2:=blk_cell HX20.out 2
         have f0:=blk_frozen HX20.out 0
         have f1:=blk_frozen HX20.out 1
         have f2:=blk_frozen HX20.out 2
         go_simp
         obtain ⟨x21,hy⟩ : ∃ y,y=(((x20).setCell ⟨b4,0,none⟩ (.int .i64 0)).setCell ⟨b4,1,none⟩ (.slice (some ⟨g22,0,none⟩) n cap22)).setCell ⟨b4,2,none⟩ (.slice (some ⟨g28,0,none⟩) n cap28):=⟨_,rfl⟩
         rw [← hy]
         clear m0 m1 m2 f0 f1 f2
         have HTS:=hid (ts_made hy HX20.out HT20.out HF20.out (fun e=>HNE.out e.symm) hb20.out HLO.out)
         clear hy
         have hb21:=hid HTS.out.bel
         refine hK.out _ _ ?_ (fun hHeld=>?_)
         ·exact HK.out _ hb21.out
         ·clear hK K
          try simp only [Act.put,List.getElem_toArray,List.getElem_cons_succ,List.getElem_cons_zero,zA,zB,zC]
          refine wpAnyH_done (by kernel_rfl) ?_ _
          go_wp2_with fail
          go_meet
          case rel=>exact ⟨b4,g22,g28,cap22,cap28,rfl,HTS.out⟩
        exact AllReadyH.nil
      exact AllReadyH.nil
    exact AllReadyH.nil
  exact AllReadyH.nil
 case rest =>
  obtain ⟨b4,tb,fb,cT,cF,rfl,hts⟩:=hcut
  have HT0:=hid hts
  clear hts s0
  obtain ⟨k,rfl⟩ : ∃ k,n=k+1:=⟨n - 1,by omega⟩
  obtain ⟨hpk,e1,e2⟩:=(HLV.out.below HT0.out.bel).at_ k (by have:=HN.out;omega)
  obtain ⟨x1,s0,s1,q1,q2,q4,q5,q6⟩:=rd HN.out HLV.out HX1.out HT0.out.bel
  have b0:=blk_cell HT0.out.blk 0
  have bT:=blk_cell HT0.out.blk 1
  have bF:=blk_cell HT0.out.blk 2
  have z0:=blk_frozen HT0.out.blk 0
  have K82:=hid (last_calls (w:=wc) (k:=k) (by omega) s0 e1)
  have K83:=hid (fun q=>tot_calls (w:=wc.drewN q) (hp:=hpk) e2)
  have hzk:=HZ.out k
  have hsl:sz.length - 1=k:=by have:=HN.out;omega
  have HBT:=hid (show lp1 o k 0 (List.replicate (k+1) 0) (sz.getD k 0)=blT o sz by unfold blT;rw [hsl,← HN.out])
  clear hsl e1 e2
  generalize sz.getD k 0=db0 at *
  go_upto_region 4 with (first | (go_at_call 82;refine K82.out.mono ?_;rintro e w' ⟨rfl,nd,rfl⟩;simp only [ptr]) | (go_at_call 83;refine (K83.out _).mono ?_;rintro e w' ⟨rfl,rfl⟩))
  obtain ⟨w2,hw2⟩ : ∃ w2,w2=wc.drewN nd:=⟨_,rfl⟩
  rw [← hw2]
  have HT1:=hid (show TS w1 (k+1) b4 tb fb cT cF 0 (List.replicate (k+1) 0) (List.replicate (k+1) 0) w2 by rw [hw2];exact HT0.out.drewN nd)
  clear hw2 K82 K83
  clear x1 s0 s1 q1 q2 q4 q5 q6 b0 bT bF z0
  obtain ⟨x1,s0,s1,q1,q2,q4,q5,q6⟩:=rd HN.out HLV.out HX1.out HT1.out.bel
  have b0:=blk_cell HT1.out.blk 0
  have bT:=blk_cell HT1.out.blk 1
  have bF:=blk_cell HT1.out.blk 2
  have z0:=blk_frozen HT1.out.blk 0
  have HZ0:=hid hzk
  clear hzk
  go_upto_block 0 with (fail)
  clear x1 s0 s1 q1 q2 q4 q5 q6 b0 bT bF z0
  go_cut [5,6] from 39 to 75 (fun v5 v6 w5=>TS w1 (k+1) b4 tb fb cT cF (blT o sz).1 (blT o sz).2 (List.replicate (k+1) 0) w5)
  case first =>
   go_wp2_with fail
   go_loopg [5,6] k (fun kq v5 v6 wr=>∃ (i:Nat) (db bl:Int) (T:List Int),v5=.int .i64 db∧v6=.int .i64 (i:Int)∧Aside0 (kq=i)∧Aside0 (i≤k∧0≤db∧db≤1000000000000000∧lp1 o i bl T db=blT o sz∧TS w1 (k+1) b4 tb fb cT cF bl T (List.replicate (k+1) 0) wr))
   case atStart=>exact ⟨k,db0,0,_,rfl,rfl,⟨rfl⟩,⟨Nat.le_refl _,HZ0.out.1,HZ0.out.2,HBT.out,HT1.out⟩⟩
   case round =>
    obtain ⟨i,db,bl,T,rfl,rfl,HI,HQ⟩:=hrel
    obtain ⟨hik,hdb0,hdb1,hres,hts⟩:=HQ.out
    have HT:=hid hts
    have HRES0:=hid hres
    have HBD:=hid hdb1
    have hgk:=HI.out
    clear HQ hres hts HI HT1 HBT HZ0
    cases i with
    | zero =>
     have HE:=hid (show bl=(blT o sz).1∧T=(blT o sz).2 by have h:=HRES0.out;simp only [lp1] at h;rw [← h];exact ⟨rfl,rfl⟩)
     go_wp2_with fail
     go_meet
     case rel=>rw [← HE.out.1,← HE.out.2];exact HT.out
    | succ m =>
     have HTD:=hid (tdiv_in hdb0 hmul)
     obtain ⟨lt,hlt⟩ : ∃ lt,adj o db=lt:=⟨_,rfl⟩
     have HRES:=HRES0
     have HLT:=hid hlt
     have K81:=hid (adj_rd (W:=wr) (x:=db) (rd HN.out HLV.out HX1.out HT.out.bel).1 (rd HN.out HLV.out HX1.out HT.out.bel).2.2.1 (HLV.out.below HT.out.bel).op)
     rw [hlt] at K81
     clear hlt HRES0
     obtain ⟨cT0,cT1⟩:=HT.out.cellT (i:=m+1) (by omega)
     obtain ⟨x1,s0,s1,q1,q2,q4,q5,q6⟩:=rd HN.out HLV.out HX1.out HT.out.bel
     have b0:=blk_cell HT.out.blk 0
     have bT:=blk_cell HT.out.blk 1
     have bF:=blk_cell HT.out.blk 2
     have z0:=blk_frozen HT.out.blk 0
     have d1:((m:Int)+1<(k:Int)+1):=by omega
     go_upto_region 9 with (first | (go_at_call 81;refine K81.out.mono ?_;rintro e w' ⟨rfl,rfl⟩))
     obtain ⟨w3,hw3⟩ : ∃ w3,w3=wr.setCell ⟨tb,m+1,none⟩ (.int .i64 lt):=⟨_,rfl⟩
     rw [← hw3]
     have HT3:=hid (show TS w1 (k+1) b4 tb fb cT cF bl (T.set (m+1) lt) (List.replicate (k+1) 0) w3 by rw [hw3];exact HT.out.setT (m+1) lt)
     clear hw3 cT0 cT1 d1 K81
     clear x1 s0 s1 q1 q2 q4 q5 q6 b0 bT bF z0
     by_cases hb:bl=0
     ·subst hb
      by_cases hc:lt≤o.base
      ·have d2:decide (lt≤o.base)=true:=decide_eq_true hc
       obtain ⟨x1,s0,s1,q1,q2,q4,q5,q6⟩:=rd HN.out HLV.out HX1.out HT3.out.bel
       have b0:=blk_cell HT3.out.blk 0
       have bT:=blk_cell HT3.out.blk 1
       have bF:=blk_cell HT3.out.blk 2
       have z0:=blk_frozen HT3.out.blk 0
       have HTb:=hid (show lp1 o m ((m:Int)+1) (T.set (m+1) lt) (db / o.mult)=blT o sz by rw [← HRES.out,lp1_step,HLT.out];rw [if_pos ⟨rfl,hc⟩];rfl)
       go_upto_region 11 with (fail)
       obtain ⟨w4,hw4⟩ : ∃ w4,w4=w3.setCell ⟨b4,0,none⟩ (.int .i64 ((m:Int)+1)):=⟨_,rfl⟩
       rw [← hw4]
       have HT4:=hid (show TS w1 (k+1) b4 tb fb cT cF ((m:Int)+1) (T.set (m+1) lt) (List.replicate (k+1) 0) w4 by rw [hw4];exact HT3.out.setB _)
       clear hw4
       clear x1 s0 s1 q1 q2 q4 q5 q6 b0 bT bF z0
       obtain ⟨x1,s0,s1,q1,q2,q4,q5,q6⟩:=rd HN.out HLV.out HX1.out HT4.out.bel
       have b0:=blk_cell HT4.out.blk 0
       have bT:=blk_cell HT4.out.blk 1
       have bF:=blk_cell HT4.out.blk 2
       have z0:=blk_frozen HT4.out.blk 0
       go_wp2_with fail
       go_roundg m
       case measure=>omega
       case rel=>exact ⟨m,_,_,_,rfl,rfl,⟨rfl⟩,⟨by omega,HTD.out.1,Int.le_trans HTD.out.2 HBD.out,HTb.out,HT4.out⟩⟩
      ·have d2:decide (lt≤o.base)=false:=decide_eq_false hc
       obtain ⟨x1,s0,s1,q1,q2,q4,q5,q6⟩:=rd HN.out HLV.out HX1.out HT3.out.bel
       have b0:=blk_cell HT3.out.blk 0
       have bT:=blk_cell HT3.out.blk 1
       have bF:=blk_cell HT3.out.blk 2
       have z0:=blk_frozen HT3.out.blk 0
       have HTb:=hid (show lp1 o m 0 (T.set (m+1) lt) (db / o.mult)=blT o sz by rw [← HRES.out,lp1_step,HLT.out];rw [if_neg (fun h=>hc h.2)])
       go_wp2_with fail
       go_roundg m
       case measure=>omega
       case rel=>exact ⟨m,_,_,_,rfl,rfl,⟨rfl⟩,⟨by omega,HTD.out.1,Int.le_trans HTD.out.2 HBD.out,HTb.out,HT3.out⟩⟩
     ·have d2:(bl == 0)=false:=by simp [hb]
      have HNB:=hid hb
      clear hb
      obtain ⟨x1,s0,s1,q1,q2,q4,q5,q6⟩:=rd HN.out HLV.out HX1.out HT3.out.bel
      have b0:=blk_cell HT3.out.blk 0
      have bT:=blk_cell HT3.out.blk 1
      have bF:=blk_cell HT3.out.blk 2
      have z0:=blk_frozen HT3.out.blk 0
      have HTb:=hid (show lp1 o m bl (T.set (m+1) lt) (db / o.mult)=blT o sz by rw [← HRES.out,lp1_step,HLT.out];rw [if_neg (fun h=>HNB.out h.1)])
      go_wp2_with fail
      go_roundg m
      case measure=>omega
      case rel=>exact ⟨m,_,_,_,rfl,rfl,⟨rfl⟩,⟨by omega,HTD.out.1,Int.le_trans HTD.out.2 HBD.out,HTb.out,HT3.out⟩⟩
  case rest =>
   have HT5:=hid hcut
   have HR1:=hid (blT_range o sz (by have:=HN.out;omega))
   clear hcut HT1 HBT HZ0
   obtain ⟨B1,hB1⟩ : ∃ B,B=(blT o sz).1:=⟨_,rfl⟩
   obtain ⟨T1,hT1⟩ : ∃ T,T=(blT o sz).2:=⟨_,rfl⟩
   rw [← hB1,← hT1] at HT5
   rw [← hB1] at HR1
   have HB1E:=hid hB1
   have HT1E:=hid hT1
   clear hB1 hT1
   obtain ⟨x1,s0,s1,q1,q2,q4,q5,q6⟩:=rd HN.out HLV.out HX1.out HT5.out.bel
   have b0:=blk_cell HT5.out.blk 0
   have bT:=blk_cell HT5.out.blk 1
   have bF:=blk_cell HT5.out.blk 2
   have z0:=blk_frozen HT5.out.blk 0
   go_upto_if 78 with (fail)
   clear x1 s0 s1 q1 q2 q4 q5 q6 b0 bT bF z0
   go_cut [] from 79 to 79 (fun wx=>TS w1 (k+1) b4 tb fb cT cF (if B1=0 then 1 else B1) T1 (List.replicate (k+1) 0) wx)
   case first =>
    obtain ⟨x1,s0,s1,q1,q2,q4,q5,q6⟩:=rd HN.out HLV.out HX1.out HT5.out.bel
    have b0:=blk_cell HT5.out.blk 0
    have bT:=blk_cell HT5.out.blk 1
    have bF:=blk_cell HT5.out.blk 2
    have z0:=blk_frozen HT5.out.blk 0
    by_cases hb:B1=0
    ·subst hb
     go_wp2_with fail
     go_meet
     case rel=>rw [if_pos trivial];exact HT5.out.setB 1
    ·have HNB:=hid hb
     have d2:(B1 == 0)=false:=by simp [hb]
     clear hb
     go_wp2_with fail
     go_meet
     case rel=>rw [if_neg HNB.out];exact HT5.out
   case rest =>
    have HT6:=hid hcut
    clear hcut HT5
    obtain ⟨C,hC⟩ : ∃ C:Nat,(C:Int)=(if B1=0 then 1 else B1):=⟨(if B1=0 then 1 else B1).toNat,by have:=HR1.out;split<;>omega⟩
    have HC:=hid (show 1≤C∧C≤k∧lp2 sz (k+1) C (C:Int)=bl2 o sz by
     have h1:=HR1.out
     have h2:=HN.out
     refine ⟨by split at hC<;>omega,by split at hC<;>omega,?_⟩
     unfold bl2
     rw [← HB1E.out,← hC,Int.toNat_natCast,h2])
    rw [← hC] at HT6
    clear hC
    obtain ⟨x1,s0,s1,q1,q2,q4,q5,q6⟩:=rd HN.out HLV.out HX1.out HT6.out.bel
    have b0:=blk_cell HT6.out.blk 0
    have bT:=blk_cell HT6.out.blk 1
    have bF:=blk_cell HT6.out.blk 2
    have z0:=blk_frozen HT6.out.blk 0
    go_upto_block 2 with (fail)
    clear x1 s0 s1 q1 q2 q4 q5 q6 b0 bT bF z0
    have HR2:=hid (bl2_range o sz (by have:=HN.out;omega))
    go_cut [8] from 82 to 102 (fun v8 wx=>TS w1 (k+1) b4 tb fb cT cF (bl2 o sz) T1 (List.replicate (k+1) 0) wx)
    case first =>
     go_wp2_with fail
     go_loopg [8] (k+1) (fun kq v8 wr=>∃ (i:Nat) (bl:Int),v8=.int .i64 (i:Int)∧Aside0 (1≤i∧k+1≤i+kq∧lp2 sz kq i bl=bl2 o sz∧TS w1 (k+1) b4 tb fb cT cF bl T1 (List.replicate (k+1) 0) wr))
     case atStart=>exact ⟨C,_,rfl,⟨HC.out.1,by omega,HC.out.2.2,HT6.out⟩⟩
     case round =>
      clear HT6 HC
      obtain ⟨i,bl,rfl,HQ⟩:=hrel
      have HT:=hid HQ.out.2.2.2
      by_cases hi:i<k
      ·cases gk with
       | zero=>exact absurd HQ.out.2.1 (by omega)
       | succ g =>
        have hres:=HQ.out.2.2.1
        have HQ1:=hid HQ.out.1
        have HQ2:=hid HQ.out.2.1
        rw [lp2,if_pos (by have:=HN.out;omega)] at hres
        obtain ⟨hpi,e1,e2⟩:=(HLV.out.below HT.out.bel).at_ i (by have:=HN.out;omega)
        have K83:=hid (tot_calls e2)
        clear HQ e2
        generalize sz.getD i 0=tt at *
        obtain ⟨x1,s0,s1,q1,q2,q4,q5,q6⟩:=rd HN.out HLV.out HX1.out HT.out.bel
        have b0:=blk_cell HT.out.blk 0
        have bT:=blk_cell HT.out.blk 1
        have bF:=blk_cell HT.out.blk 2
        have z0:=blk_frozen HT.out.blk 0
        have d1:decide (i<k)=true:=decide_eq_true hi
        have d3:i<k+1:=by omega
        by_cases ht:tt > 0
        ·rw [if_pos ht] at hres
         have HRES:=hid hres
         have d2:decide (0<tt)=true:=decide_eq_true ht
         clear hres ht
         go_wp2_with (go_at_call 83;refine K83.out.mono ?_;rintro e w' ⟨rfl,rfl⟩)
         go_meet
         case rel=>rw [← HRES.out];exact HT.out
        ·rw [if_neg ht] at hres
         have HRES:=hid hres
         have d2:decide (0<tt)=false:=decide_eq_false ht
         clear hres ht
         go_wp2_with (go_at_call 83;refine K83.out.mono ?_;rintro e w' ⟨rfl,rfl⟩)
         go_roundg g
         case measure=>omega
         case rel=>exact ⟨i+1,(i:Int),rfl,⟨by have:=HQ1.out;omega,by have:=HQ2.out;omega,HRES.out,HT.out.setB _⟩⟩
      ·have HRES:=hid (show bl=bl2 o sz by
        have h:=HQ.out.2.2.1
        cases gk with
        | zero=>exact h
        | succ g=>rw [lp2,if_neg (by have:=HN.out;omega)] at h;exact h)
       have d1:decide (i<k)=false:=decide_eq_false hi
       clear HQ hi
       obtain ⟨x1,s0,s1,q1,q2,q4,q5,q6⟩:=rd HN.out HLV.out HX1.out HT.out.bel
       have b0:=blk_cell HT.out.blk 0
       have bT:=blk_cell HT.out.blk 1
       have bF:=blk_cell HT.out.blk 2
       have z0:=blk_frozen HT.out.blk 0
       go_wp2_with fail
       go_meet
       case rel=>rw [← HRES.out];exact HT.out
    case rest =>
     have HT7:=hid hcut
     clear hcut HT6 HC
     obtain ⟨b,hb⟩ : ∃ b:Nat,(b:Int)=bl2 o sz:=⟨(bl2 o sz).toNat,by have:=HR2.out;omega⟩
     have HBE:=hid hb
     have hb1:1≤b:=by have:=HR2.out;omega
     have hbk:b≤k:=by have:=HR2.out;have:=HN.out;omega
     rw [← hb] at HT7
     clear hb
     obtain ⟨x1,s0,s1,q1,q2,q4,q5,q6⟩:=rd HN.out HLV.out HX1.out HT7.out.bel
     have b0:=blk_cell HT7.out.blk 0
     have bT:=blk_cell HT7.out.blk 1
     have bF:=blk_cell HT7.out.blk 2
     have z0:=blk_frozen HT7.out.blk 0
     obtain ⟨hpb,e1,e2⟩:=(HLV.out.below HT7.out.bel).at_ b (by have:=HN.out;omega)
     have K83:=hid (tot_calls e2)
     have d3:b<k+1:=by omega
     obtain ⟨u,hu⟩ : ∃ u,u=sz.getD b 0:=⟨_,rfl⟩
     rw [← hu] at e2 K83
     have HU:=hid hu
     clear hu
     go_upto_region 23 with (go_at_call 83;refine K83.out.mono ?_;rintro e w' ⟨rfl,rfl⟩)
     clear d3 e1 e2 K83
     obtain ⟨r11,h11⟩ : ∃ r,r=(u == 0):=⟨_,rfl⟩
     rw [← h11]
     obtain ⟨r12,h12⟩ : ∃ r,r=decide (b<k):=⟨_,rfl⟩
     rw [← h12]
     have H11:=hid h11
     have H12:=hid h12
     clear h11 h12
     go_cut [154] from 120 to 154 (fun v154 wx=>∃ r:Bool,v154=.bool r∧(r=true↔up o sz T1 (b:Int))∧TS w1 (k+1) b4 tb fb cT cF (b:Int) T1 (List.replicate (k+1) 0) wx)
     case first =>
      cases r12 with
      | true =>
       have hbk2:b<k:=of_decide_eq_true H12.out.symm
       cases r11 with
       | true =>
        have hu0:u=0:=by have:=H11.out;simpa using this.symm
        subst hu0
        obtain ⟨hpc,e1,e2⟩:=(HLV.out.below HT7.out.bel).at_ (b+1) (by have:=HN.out;omega)
        replace e1:wc.cell? ⟨blk,b+1,none⟩=some (.pointer (some ⟨hpc,0,none⟩)):=e1
        have cc:=(HT7.out.cellT (i:=b+1) (by omega)).1
        obtain ⟨p,hp⟩ : ∃ p,p=sz.getD (b+1) 0:=⟨_,rfl⟩
        obtain ⟨q,hq⟩ : ∃ q,q=T1.getD (b+1) 0:=⟨_,rfl⟩
        rw [← hp] at e2
        rw [← hq] at cc
        have HP:=hid hp
        have HQ:=hid hq
        have HUP:=hid (show up o sz T1 (b:Int)↔p<q∧p<o.base by
         unfold up
         rw [Int.toNat_natCast,hp,hq]
         exact ⟨fun h=>h.2.2,fun h=>⟨by have:=HN.out;omega,HU.out.symm,h.1,h.2⟩⟩)
        have HA:=hid (fun n=>q_same (tot_calls (w:=wc.drewN n) (hp:=hpc) e2))
        have w5:IntKind.i64.wrap ((b:Int)+1)=(b:Int)+1:=IntWalk.i64_in _ (by omega)
        have w6:0≤(b:Int)+1:=by omega
        have w7:((b:Int)+1).toNat=b+1:=by omega
        have w8:(b:Int)+1<(k:Int)+1:=by omega
        have w9:b+1<k+1:=by omega
        clear hp hq hbk2
        by_cases h1:p<q
        ·by_cases h2:p<o.base
         ·have HE:=hid (HUP.out.2 ⟨h1,h2⟩)
          have g1:=decide_eq_true h1
          have g2:=decide_eq_true h2
          clear h1 h2
          go_quiet ((go_at_call 83;with_reducible exact HA.out _))
          go_wp2_with fail
          go_meet
          case rel=>exact ⟨true,rfl,⟨fun _=>HE.out,fun _=>rfl⟩,HT7.out.drewN _⟩
         ·have HE:=hid (fun h=>h2 (HUP.out.1 h).2)
          have g1:=decide_eq_true h1
          have g2:=decide_eq_false h2
          clear h1 h2
          go_quiet ((go_at_call 83;with_reducible exact HA.out _))
          go_wp2_with fail
          go_meet
          case rel=>exact ⟨false,rfl,⟨fun h=>by simp at h,fun h=>(HE.out h).elim⟩,HT7.out.drewN _⟩
        ·have HE:=hid (fun h=>h1 (HUP.out.1 h).1)
         have g1:=decide_eq_false h1
         clear h1
         go_quiet ((go_at_call 83;with_reducible exact HA.out _))
         go_wp2_with fail
         go_meet
         case rel=>exact ⟨false,rfl,⟨fun h=>by simp at h,fun h=>(HE.out h).elim⟩,HT7.out.drewN _⟩
       | false =>
        have hu0:¬ u=0:=by have:=H11.out;simpa using this.symm
        have HE:=hid (show ¬ up o sz T1 (b:Int) from fun h=>hu0 (by have:=h.2.1;rw [Int.toNat_natCast] at this;rw [HU.out];exact this))
        clear hu0 hbk2
        go_quiet (fail)
        go_wp2_with fail
        go_meet
        case rel=>exact ⟨false,rfl,⟨fun h=>by simp at h,fun h=>(HE.out h).elim⟩,HT7.out.drewN _⟩
      | false =>
       have hbk2:¬ b<k:=of_decide_eq_false H12.out.symm
       have HE:=hid (show ¬ up o sz T1 (b:Int) from fun h=>by have:=h.1;have:=HN.out;omega)
       clear hbk2
       go_quiet (fail)
       go_wp2_with fail
       go_meet
       case rel=>exact ⟨false,rfl,⟨fun h=>by simp at h,fun h=>(HE.out h).elim⟩,HT7.out.drewN _⟩
     case rest =>
      obtain ⟨r,rfl,hr,hts⟩:=hcut
      have HUP:=hid hr
      have HT8:=hid hts
      clear hr hts HT7
      clear x1 s0 s1 q1 q2 q4 q5 q6 b0 bT bF z0
      go_upto_if 154 with (fail)
      go_cut [] from 155 to 158 (fun wx=>TS w1 (k+1) b4 tb fb cT cF (bl3 o sz) T1 (List.replicate (k+1) 0) wx)
      case first =>
       obtain ⟨x1,s0,s1,q1,q2,q4,q5,q6⟩:=rd HN.out HLV.out HX1.out HT8.out.bel
       have b0:=blk_cell HT8.out.blk 0
       have bT:=blk_cell HT8.out.blk 1
       have bF:=blk_cell HT8.out.blk 2
       have z0:=blk_frozen HT8.out.blk 0
       have HE:=hid (show bl3 o sz=if r then (b:Int)+1 else b by
        unfold bl3
        rw [← HT1E.out,← HBE.out]
        by_cases h:up o sz T1 (b:Int)
        ·rw [if_pos h,if_pos (HUP.out.2 h)]
        ·rw [if_neg h,if_neg (fun h2=>h (HUP.out.1 h2))])
       cases r with
       | true =>
        go_wp2_with fail
        go_meet
        case rel=>rw [HE.out];exact HT8.out.setB _
       | false =>
        go_wp2_with fail
        go_meet
        case rel=>rw [HE.out];exact HT8.out
      case rest =>
       have HT9:=hid hcut
       clear hcut HT8
       have HR3:=hid (bl3_range o sz (by have:=HN.out;omega))
       obtain ⟨D,hD⟩ : ∃ D,D=bl3 o sz:=⟨_,rfl⟩
       rw [← hD] at HT9 HR3
       have HDE:=hid (show lp3 sz (k+1) 1 D=bl4 o sz by unfold bl4;rw [← hD,← HN.out])
       clear hD
       go_upto_block 4 with (fail)
       go_cut [13] from 159 to 175 (fun v13 wx=>TS w1 (k+1) b4 tb fb cT cF (bl4 o sz) T1 (List.replicate (k+1) 0) wx)
       case first =>
        go_wp2_with fail
        go_loopg [13] (k+1) (fun kq v13 wr=>∃ (i:Nat),v13=.int .i64 (i:Int)∧Aside0 (k+1≤i+kq∧lp3 sz kq i D=bl4 o sz∧TS w1 (k+1) b4 tb fb cT cF D T1 (List.replicate (k+1) 0) wr))
        case atStart=>exact ⟨1,rfl,⟨by omega,HDE.out,HT9.out⟩⟩
        case round =>
         clear HT9 HDE
         obtain ⟨i,rfl,HQ⟩:=hrel
         have HT:=hid HQ.out.2.2
         by_cases hi:(i:Int)<D
         ·cases gk with
          | zero=>exact absurd HQ.out.1 (by have:=HR3.out;have:=HN.out;omega)
          | succ g =>
           have hres:=HQ.out.2.1
           have HQ2:=hid HQ.out.1
           have hik:i<k:=by have:=HR3.out;have:=HN.out;omega
           rw [lp3,if_pos hi] at hres
           obtain ⟨hpi,e1,e2⟩:=(HLV.out.below HT.out.bel).at_ i (by have:=HN.out;omega)
           have K83:=hid (tot_calls e2)
           clear HQ e2
           generalize sz.getD i 0=tt at *
           obtain ⟨x1,s0,s1,q1,q2,q4,q5,q6⟩:=rd HN.out HLV.out HX1.out HT.out.bel
           have b0:=blk_cell HT.out.blk 0
           have bT:=blk_cell HT.out.blk 1
           have bF:=blk_cell HT.out.blk 2
           have z0:=blk_frozen HT.out.blk 0
           have d1:decide ((i:Int)<D)=true:=decide_eq_true hi
           have d3:i<k+1:=by omega
           clear hi
           by_cases ht:tt > 0
           ·rw [if_pos ht] at hres
            have HRES:=hid hres
            have d2:decide (0<tt)=true:=decide_eq_true ht
            clear hres ht
            go_wp2_with (go_at_call 83;refine K83.out.mono ?_;rintro e w' ⟨rfl,rfl⟩)
            go_meet
            case rel=>rw [← HRES.out];exact HT.out.setB _
           ·rw [if_neg ht] at hres
            have HRES:=hid hres
            have d2:decide (0<tt)=false:=decide_eq_false ht
            clear hres ht
            go_wp2_with (go_at_call 83;refine K83.out.mono ?_;rintro e w' ⟨rfl,rfl⟩)
            go_roundg g
            case measure=>omega
            case rel=>exact ⟨i+1,rfl,⟨by have:=HQ2.out;omega,HRES.out,HT.out⟩⟩
         ·have HRES:=hid (show D=bl4 o sz by
           have h:=HQ.out.2.1
           cases gk with
           | zero=>exact h
           | succ g=>rw [lp3,if_neg hi] at h;exact h)
          have d1:decide ((i:Int)<D)=false:=decide_eq_false hi
          clear HQ hi
          obtain ⟨x1,s0,s1,q1,q2,q4,q5,q6⟩:=rd HN.out HLV.out HX1.out HT.out.bel
          have b0:=blk_cell HT.out.blk 0
          have bT:=blk_cell HT.out.blk 1
          have bF:=blk_cell HT.out.blk 2
          have z0:=blk_frozen HT.out.blk 0
          go_wp2_with fail
          go_meet
          case rel=>rw [← HRES.out];exact HT.out
       case rest =>
        have HTA:=hid hcut
        have HR4:=hid (bl4_range o sz (by have:=HN.out;omega))
        clear hcut HT9 HDE
        obtain ⟨E,hE⟩ : ∃ E,E=bl4 o sz:=⟨_,rfl⟩
        rw [← hE] at HTA HR4
        have HFE:=hid (show lp4 o E (k+1) 0 o.tab (List.replicate (k+1) 0)=files o sz by unfold files;rw [← hE,← HN.out])
        have HEE:=hid hE
        clear hE
        obtain ⟨x1,s0,s1,q1,q2,q4,q5,q6⟩:=rd HN.out HLV.out HX1.out HTA.out.bel
        have b0:=blk_cell HTA.out.blk 0
        have bT:=blk_cell HTA.out.blk 1
        have bF:=blk_cell HTA.out.blk 2
        have z0:=blk_frozen HTA.out.blk 0
        go_wp2_with fail
        go_loopg [14,15] (k+1) (fun kq v14 v15 wr=>∃ (i:Nat) (ts:Int) (F:List Int),v14=.int .i64 ts∧v15=.int .i64 (i:Int)∧Aside0 (i+kq=k+1∧lp4 o E kq i ts F=files o sz∧TS w1 (k+1) b4 tb fb cT cF E T1 F wr))
        case atStart=>exact ⟨0,_,_,rfl,rfl,⟨by omega,HFE.out,HTA.out⟩⟩
        case round =>
         clear HTA HFE x1 s0 s1 q1 q2 q4 q5 q6 b0 bT bF z0
         obtain ⟨i,ts,F,rfl,rfl,HQ⟩:=hrel
         have HT:=hid HQ.out.2.2
         cases gk with
         | zero =>
          have HRES:=hid (show F=files o sz from HQ.out.2.1)
          have hi:i=k+1:=by have:=HQ.out.1;omega
          subst hi
          clear HQ
          obtain ⟨x1,s0,s1,q1,q2,q4,q5,q6⟩:=rd HN.out HLV.out HX1.out HT.out.bel
          have b0:=blk_cell HT.out.blk 0
          have bT:=blk_cell HT.out.blk 1
          have bF:=blk_cell HT.out.blk 2
          have z0:=blk_frozen HT.out.blk 0
          have d1:(E == 0)=false:=by have:=HR4.out;simp;omega
          have hx2:=hid ((HT.out.bel.block _ (blk_lt HX2.out)).trans HX2.out)
          have y0:=blk_cell hx2.out 0
          have y1:=blk_cell hx2.out 1
          have y2:=blk_cell hx2.out 2
          have p0:=blk_frozen hx2.out 0
          have p1:=blk_frozen hx2.out 1
          have p2:=blk_frozen hx2.out 2
          go_wp2_with fail
          obtain ⟨wz,hwz⟩ : ∃ wz,wz=((wr.setCell ⟨b2,0,none⟩ (.int .i64 E)).setCell ⟨b2,1,none⟩ (.slice (some ⟨tb,0,none⟩) (k+1) cT)).setCell ⟨b2,2,none⟩ (.slice (some ⟨fb,0,none⟩) (k+1) cF):=⟨_,rfl⟩
          rw [← hwz]
          have HE:=hid (ts_end hwz HT.out hx2.out HB1.out HB2.out)
          have hz2:=hid HE.out.1
          clear hwz y0 y1 y2 p0 p1 p2 x1 s0 s1 q1 q2 q4 q5 q6 b0 bT bF z0
          have y0:=blk_cell hz2.out 0
          have y1:=blk_cell hz2.out 1
          have y2:=blk_cell hz2.out 2
          refine bodyPost_ret (results_cell_row rfl _ _ b2 103 #[.int .i64 E,.slice (some ⟨tb,0,none⟩) (k+1) cT,.slice (some ⟨fb,0,none⟩) (k+1) cF] (0,0) _ rfl hz2.out Tryz.underlying103 rfl (by kernel_rfl)) rfl ?_
          exact targets_end HN.out HEE.out HT1E.out HRES.out HE.out.2.1 HE.out.2.2.1 HE.out.2.2.2
         | succ g =>
          have hres:=HQ.out.2.1
          have hik:i<k+1:=by have:=HQ.out.1;omega
          have HQ2:=hid HQ.out.1
          clear HQ
          obtain ⟨cF0,cF1⟩:=HT.out.cellF hik
          obtain ⟨x1,s0,s1,q1,q2,q4,q5,q6⟩:=rd HN.out HLV.out HX1.out HT.out.bel
          have b0:=blk_cell HT.out.blk 0
          have bT:=blk_cell HT.out.blk 1
          have bF:=blk_cell HT.out.blk 2
          have z0:=blk_frozen HT.out.blk 0
          by_cases hi0:i=0
          ·subst hi0
           rw [lp4,if_pos rfl] at hres
           have HRES:=hid hres
           clear hres hik
           go_upto_region 35 with (fail)
           refine wp_region_still_tail 11 (by kernel_rfl) (by kernel_rfl) ?_
           simp only [List.take_succ_cons,List.take_zero,List.drop_succ_cons,List.drop_zero]
           repeat still_step
           refine wpStill_nil ?_
           change wpList _ _ _ _ _ wr.drew
           go_wp2_with fail
           go_roundg g
           case measure=>omega
           case rel=>exact ⟨1,ts,_,rfl,rfl,⟨by have:=HQ2.out;omega,HRES.out,(HT.out.drewN 1).setF 0 o.mem⟩⟩
          ·rw [lp4,if_neg hi0] at hres
           have d2:decide (i=0)=false:=decide_eq_false hi0
           have d3:((i:Int) == 0)=false:=by simp;omega
           clear hi0
           by_cases hie:(i:Int)≤E
           ·rw [if_pos hie] at hres
            have HRES:=hid hres
            have d4:decide ((i:Int)≤E)=true:=decide_eq_true hie
            clear hres hie
            go_wp2_with fail
            go_roundg g
            case measure=>omega
            case rel=>exact ⟨i+1,ts,_,rfl,rfl,⟨by have:=HQ2.out;omega,HRES.out,HT.out.setF i ts⟩⟩
           ·rw [if_neg hie] at hres
            have HRES:=hid hres
            have d4:decide ((i:Int)≤E)=false:=decide_eq_false hie
            clear hres hie
            go_wp2_with fail
            go_roundg g
            case measure=>omega
            case rel=>exact ⟨i+1,wrap64 (ts*o.tmul),_,rfl,rfl,⟨by have:=HQ2.out;omega,HRES.out,HT.out.setF i _⟩⟩
end Go.Proofs.YtnineoajmgneiaaGreat.Tg
namespace Go.Proofs.YtnineoajmgneiaaGreat.L
open Go.RowKit Go.Proofs.YtnineoajmgneiaaGreatW.PrintWords Go.Proofs.YtnineoajmgneiaaGreatW.PrintLast Go.Proofs.YtnineoajmgneiaaGreatW.PrintMore
attribute [local go_sem] max2_int min2_int max_two min_two max_three min_three max_four min_four   -- for this text's walks alone
/-! ### impl_ints_int64: function 58 -/
def impl_ints_int64.l0:Nat→List Int→List Int→Int→Int→Option (List Int)
 | 0,_,_,_,_=>none
 | k+1,x3,x7,x8,x9=>if x9<x8 then (if 0≤x9 then (if x9<(x7.length:Int) then (if x3.length<17592186044416 then (impl_ints_int64.l0 k (x3++[rd x7 x9]) x7 x8 (wrap64 (x9+1))) else (none)) else (none)) else (none)) else (some x3)
def impl_ints_int64.f (k:Nat) (l0:List Int):Option (List Int):=impl_ints_int64.l0 k (([]:List Int)) l0 (l0.length:Int) 0
set_option maxHeartbeats 8000000 in
set_option maxRecDepth 100000 in
theorem impl_ints_int64.calls (k:Nat) (A0:Option Addr) (c0:Nat) (l0:List Int) (r:List Int) (w:World) (hr0:Kd.C (Kd.int .i64) w A0 l0.length l0) (hc0:l0.length≤c0) (h:impl_ints_int64.f k l0=some r) :
  Calls Tryz.prog 58 #[.slice A0 l0.length c0] w fun e w'=>∃ v0_:Value,e=.returned (v0_)∧Kd.R (Kd.int .i64) 3 w' w.heap.size (fun _=>True) v0_ r∧Below w.heap.size w w':=by
 have HR0:=Aside0.mk hr0
 have HC0:=Aside0.mk hc0
 clear hr0 hc0
 have HB:=Aside0.mk (Below.refl w.heap.size w)
 have H:(impl_ints_int64.l0 k (([]:List Int)) l0 (l0.length:Int) 0)=some r:=h
 clear h
 obtain ⟨y139,hy139⟩ : ∃ y_:List Int,y_=(([]:List Int)):=⟨_,rfl⟩
 replace H:(impl_ints_int64.l0 k y139 l0 (l0.length:Int) 0)=some r:=by first | (rw [hy139];with_reducible exact H) | (have H2_:=(Option.bind_some _ _).symm.trans H;rw [hy139];with_reducible exact H2_) | (have H2_:=(Option.bind_some _ _).symm.trans H;with_reducible exact H2_) | with_reducible exact H | (rw [hy139];exact H) | exact H
 have Ny139:=Aside0.mk hy139
 clear hy139
 have H':=Aside0.mk H
 clear H
 go_enter Tryz.func58,Tryz.ntmps58
 go_wp2_with (first | ((with_reducible refine gate_dst (N:=6) rfl ?_);refine Kd.R_lit (Kd.int .i64) _ 3 ?hg (N:=6) ?hd (xs:=([]:List Int)) (inner:=[]) (ok:=fun _=>True) (okp:=fun _=>True) ?hr ?hp (fun _ hk=>hk) trivial (Below.refl _ _) (Nat.le_refl _) (by simp) ?_;(case hd=>rfl);(case hg=>rfl);(case hr=>first | (go_simp;done) | (go_simp;rfl));(case hp=>exact (Reps.none _ _));intro v140 w2 ho3 hb hg_ hnew_;clear hg_ hnew_;(first | rw [← Ny139.out] at ho3 | (simp only [Int.reduceToNat] at ho3;rw [← Ny139.out] at ho3));have n0_:=Aside0.mk (Kd.R_lower ho3 (below_size (by repeat (first | (with_reducible first | exact HB.out | apply below_alloc | apply pw_below_drewN | apply below_drew1) | exact HB.out))));have n1_:=Aside0.mk (below_step (by repeat (first | (with_reducible first | exact HB.out | apply below_alloc | apply pw_below_drewN | apply below_drew1) | exact HB.out)) hb);clear HB;have HO141:=n0_;have HB:=n1_;clear n0_ n1_;clear hb ho3))
 go_loopg [3,9] k (fun kq v3 v9 w'=>∃ (x3_1:List Int) (x9_1:Int),v9=.int .i64 x9_1∧Aside0 (impl_ints_int64.l0 kq x3_1 l0 (l0.length:Int) x9_1=some r)∧Aside0 (kq≤k)∧Aside0 (Kd.R (Kd.int .i64) 3 w' w.heap.size (fun _=>True) v3 x3_1)∧Aside0 (Below w.heap.size w w'))
 case atStart=>exact ⟨(y139),(0),(by first | rfl | (simp;done) | (simp [*];done)),H',⟨Nat.le_refl _⟩,⟨by (with_reducible repeat (first | apply Kd.R_alloc | apply Kd.R_drewN | apply Kd.R_drew));exact HO141.out⟩,⟨by repeat (first | (with_reducible first | exact HB.out | apply below_alloc | apply pw_below_drewN | apply below_drew1) | exact HB.out)⟩⟩
 case round =>
  clear H'
  try clear p2
  obtain ⟨x3_1,x9_1,rfl,HA,HK1,HO_3,HB⟩:=hrel
  cases gk with
  | zero=>exact absurd HA.out (by simp [impl_ints_int64.l0])
  | succ k1 =>
   have H:=HA.out
   clear HA
   simp only [impl_ints_int64.l0] at H
   by_cases c4:x9_1<(l0.length:Int)
   ·rw [if_pos c4] at H
    have c4b0:decide (x9_1<(l0.length:Int))=true:=decide_eq_true c4
    clear c4
    by_cases c5:0≤x9_1
    ·rw [if_pos c5] at H
     have c5b0:decide (0≤x9_1)=true:=decide_eq_true c5
     clear c5
     by_cases c6:x9_1<(l0.length:Int)
     ·rw [if_pos c6] at H
      have c6b0:decide (x9_1<(l0.length:Int))=true:=decide_eq_true c6
      clear c6
      by_cases c7:x3_1.length<17592186044416
      ·rw [if_pos c7] at H
       have LMc7:=Aside0.mk c7
       clear c7
       obtain ⟨y143,hy143⟩ : ∃ y_:List Int,y_=(x3_1++[rd l0 x9_1]):=⟨_,rfl⟩
       replace H:(impl_ints_int64.l0 k1 y143 l0 (l0.length:Int) (wrap64 (x9_1+1)))=some r:=by first | (rw [hy143];with_reducible exact H) | (have H2_:=(Option.bind_some _ _).symm.trans H;rw [hy143];with_reducible exact H2_) | (have H2_:=(Option.bind_some _ _).symm.trans H;with_reducible exact H2_) | with_reducible exact H | (rw [hy143];exact H) | exact H
       have Ny143:=Aside0.mk hy143
       clear hy143
       have H':=Aside0.mk H
       clear H
       have p142:0≤(x9_1:Int):=of_decide_eq_true (by first | (with_reducible assumption) | assumption)
       have q142:x9_1<(l0.length:Int):=of_decide_eq_true (by first | (with_reducible assumption) | assumption)
       obtain ⟨ad142,e142,hx142_0⟩:=Kd.at_int HR0.out x9_1 p142 q142
       cases e142
       replace hx142_0:=(HB.out.cell (World.block_lt_of_cell? w _ hx142_0)).trans hx142_0
       replace p142:=eq_true p142
       replace q142:=eq_true q142
       go_wp2_with (first | ((with_reducible refine gate_builtin (b:=.append) (xs:=#[.tmp 13,.tmp 15]) rfl ?_);at_builtin;refine Kd.R_append (Kd.int .i64) (w0:=w) w.heap.size rfl (.tmp 13) (.tmp 15) 28 3 (.int .i64 0) 8 rfl Tryz.underlying28 info3 rfl (by decide) (by omega) u3 x3_1 (rd l0 x9_1) [.int .i64 (rd l0 x9_1)] (fun _=>True) (fun _=>False) rfl rfl ?aP (fun _ hk=>hk.elim) ?aF ?aO ?aB ?aS ?aL ?_;(case aP=>exact rfl);(case aB=>exact (by repeat (first | (with_reducible first | exact HB.out | apply below_alloc | apply pw_below_drewN | apply below_drew1) | exact HB.out)));(case aF=>exact (fun _ _=>trivial));(case aO=>exact (by (with_reducible repeat (first | apply Kd.R_alloc | apply Kd.R_drewN | apply Kd.R_drew));exact HO_3.out));(case aS=>exact (below_size (by repeat (first | (with_reducible first | exact HB.out | apply below_alloc | apply pw_below_drewN | apply below_drew1) | exact HB.out))));(case aL=>have:=LMc7.out;omega);intro v144 w8 ho hb hg hat;rw [← Ny143.out] at ho;have n0_:=Aside0.mk (hb);have n1_:=Aside0.mk (ho);clear HB;clear HO_3;have HB:=n0_;have HO145:=n1_;clear n0_ n1_;clear ho hb hg hat))
       go_roundg k1
       case measure=>have:=HK1.out;omega
       case rel=>exact ⟨(y143),(wrap64 (x9_1+1)),(by first | rfl | (simp;done) | (simp [*];done)),H',⟨by have:=HK1.out;omega⟩,⟨by (with_reducible repeat (first | apply Kd.R_alloc | apply Kd.R_drewN | apply Kd.R_drew));exact HO145.out⟩,⟨by repeat (first | (with_reducible first | exact HB.out | apply below_alloc | apply pw_below_drewN | apply below_drew1) | exact HB.out)⟩⟩
      ·rw [if_neg c7] at H
       exact absurd H (by simp)
     ·rw [if_neg c6] at H
      exact absurd H (by simp)
    ·rw [if_neg c5] at H
     exact absurd H (by simp)
   ·rw [if_neg c4] at H
    have c4b0:decide (x9_1<(l0.length:Int))=false:=decide_eq_false c4
    clear c4
    obtain rfl:=Option.some.inj H
    go_wp2
    go_ret
    exact ⟨_,by first | rfl | (simp [errW_none,errW_some]<;>rfl) | (simp [*,errW_none,errW_some]<;>rfl),by (with_reducible repeat (first | apply Kd.R_alloc | apply Kd.R_drewN | apply Kd.R_drew));exact HO_3.out,by repeat (first | (with_reducible first | exact HB.out | apply below_alloc | apply pw_below_drewN | apply below_drew1) | exact HB.out)⟩
/-! ### impl_ints_uint64: function 63 -/
def impl_ints_uint64.l0:Nat→List Int→List Int→Int→Int→Option (List Int)
 | 0,_,_,_,_=>none
 | k+1,x3,x7,x8,x9=>if x9<x8 then (if 0≤x9 then (if x9<(x7.length:Int) then (if x3.length<17592186044416 then (impl_ints_uint64.l0 k (x3++[wrap64 (rd x7 x9)]) x7 x8 (wrap64 (x9+1))) else (none)) else (none)) else (none)) else (some x3)
def impl_ints_uint64.f (k:Nat) (l0:List Int):Option (List Int):=impl_ints_uint64.l0 k (([]:List Int)) l0 (l0.length:Int) 0
set_option maxHeartbeats 8000000 in
set_option maxRecDepth 100000 in
theorem impl_ints_uint64.calls (k:Nat) (A0:Option Addr) (c0:Nat) (l0:List Int) (r:List Int) (w:World) (hr0:Kd.C (Kd.int .u64) w A0 l0.length l0) (hc0:l0.length≤c0) (h:impl_ints_uint64.f k l0=some r) :
  Calls Tryz.prog 63 #[.slice A0 l0.length c0] w fun e w'=>∃ v0_:Value,e=.returned (v0_)∧Kd.R (Kd.int .i64) 3 w' w.heap.size (fun _=>True) v0_ r∧Below w.heap.size w w':=by
 have HR0:=Aside0.mk hr0
 have HC0:=Aside0.mk hc0
 clear hr0 hc0
 have HB:=Aside0.mk (Below.refl w.heap.size w)
 have H:(impl_ints_uint64.l0 k (([]:List Int)) l0 (l0.length:Int) 0)=some r:=h
 clear h
 obtain ⟨y171,hy171⟩ : ∃ y_:List Int,y_=(([]:List Int)):=⟨_,rfl⟩
 replace H:(impl_ints_uint64.l0 k y171 l0 (l0.length:Int) 0)=some r:=by first | (rw [hy171];with_reducible exact H) | (have H2_:=(Option.bind_some _ _).symm.trans H;rw [hy171];with_reducible exact H2_) | (have H2_:=(Option.bind_some _ _).symm.trans H;with_reducible exact H2_) | with_reducible exact H | (rw [hy171];exact H) | exact H
 have Ny171:=Aside0.mk hy171
 clear hy171
 have H':=Aside0.mk H
 clear H
 go_enter Tryz.func63,Tryz.ntmps63
 go_wp2_with (first | ((with_reducible refine gate_dst (N:=6) rfl ?_);refine Kd.R_lit (Kd.int .i64) _ 3 ?hg (N:=6) ?hd (xs:=([]:List Int)) (inner:=[]) (ok:=fun _=>True) (okp:=fun _=>True) ?hr ?hp (fun _ hk=>hk) trivial (Below.refl _ _) (Nat.le_refl _) (by simp) ?_;(case hd=>rfl);(case hg=>rfl);(case hr=>first | (go_simp;done) | (go_simp;rfl));(case hp=>exact (Reps.none _ _));intro v172 w2 ho3 hb hg_ hnew_;clear hg_ hnew_;(first | rw [← Ny171.out] at ho3 | (simp only [Int.reduceToNat] at ho3;rw [← Ny171.out] at ho3));have n0_:=Aside0.mk (Kd.R_lower ho3 (below_size (by repeat (first | (with_reducible first | exact HB.out | apply below_alloc | apply pw_below_drewN | apply below_drew1) | exact HB.out))));have n1_:=Aside0.mk (below_step (by repeat (first | (with_reducible first | exact HB.out | apply below_alloc | apply pw_below_drewN | apply below_drew1) | exact HB.out)) hb);clear HB;have HO173:=n0_;have HB:=n1_;clear n0_ n1_;clear hb ho3))
 go_loopg [3,9] k (fun kq v3 v9 w'=>∃ (x3_1:List Int) (x9_1:Int),v9=.int .i64 x9_1∧Aside0 (impl_ints_uint64.l0 kq x3_1 l0 (l0.length:Int) x9_1=some r)∧Aside0 (kq≤k)∧Aside0 (Kd.R (Kd.int .i64) 3 w' w.heap.size (fun _=>True) v3 x3_1)∧Aside0 (Below w.heap.size w w'))
 case atStart=>exact ⟨(y171),(0),(by first | rfl | (simp;done) | (simp [*];done)),H',⟨Nat.le_refl _⟩,⟨by (with_reducible repeat (first | apply Kd.R_alloc | apply Kd.R_drewN | apply Kd.R_drew));exact HO173.out⟩,⟨by repeat (first | (with_reducible first | exact HB.out | apply below_alloc | apply pw_below_drewN | apply below_drew1) | exact HB.out)⟩⟩
 case round =>
  clear H'
  try clear p2
  obtain ⟨x3_1,x9_1,rfl,HA,HK1,HO_3,HB⟩:=hrel
  cases gk with
  | zero=>exact absurd HA.out (by simp [impl_ints_uint64.l0])
  | succ k1 =>
   have H:=HA.out
   clear HA
   simp only [impl_ints_uint64.l0] at H
   by_cases c4:x9_1<(l0.length:Int)
   ·rw [if_pos c4] at H
    have c4b0:decide (x9_1<(l0.length:Int))=true:=decide_eq_true c4
    clear c4
    by_cases c5:0≤x9_1
    ·rw [if_pos c5] at H
     have c5b0:decide (0≤x9_1)=true:=decide_eq_true c5
     clear c5
     by_cases c6:x9_1<(l0.length:Int)
     ·rw [if_pos c6] at H
      have c6b0:decide (x9_1<(l0.length:Int))=true:=decide_eq_true c6
      clear c6
      by_cases c7:x3_1.length<17592186044416
      ·rw [if_pos c7] at H
       have LMc7:=Aside0.mk c7
       clear c7
       obtain ⟨y175,hy175⟩ : ∃ y_:List Int,y_=(x3_1++[wrap64 (rd l0 x9_1)]):=⟨_,rfl⟩
       replace H:(impl_ints_uint64.l0 k1 y175 l0 (l0.length:Int) (wrap64 (x9_1+1)))=some r:=by first | (rw [hy175];with_reducible exact H) | (have H2_:=(Option.bind_some _ _).symm.trans H;rw [hy175];with_reducible exact H2_) | (have H2_:=(Option.bind_some _ _).symm.trans H;with_reducible exact H2_) | with_reducible exact H | (rw [hy175];exact H) | exact H
       have Ny175:=Aside0.mk hy175
       clear hy175
       have H':=Aside0.mk H
       clear H
       have p174:0≤(x9_1:Int):=of_decide_eq_true (by first | (with_reducible assumption) | assumption)
       have q174:x9_1<(l0.length:Int):=of_decide_eq_true (by first | (with_reducible assumption) | assumption)
       obtain ⟨ad174,e174,hx174_0⟩:=Kd.at_int HR0.out x9_1 p174 q174
       cases e174
       replace hx174_0:=(HB.out.cell (World.block_lt_of_cell? w _ hx174_0)).trans hx174_0
       replace p174:=eq_true p174
       replace q174:=eq_true q174
       go_wp2_with (first | ((with_reducible refine gate_builtin (b:=.append) (xs:=#[.tmp 13,.tmp 16]) rfl ?_);at_builtin;refine Kd.R_append (Kd.int .i64) (w0:=w) w.heap.size rfl (.tmp 13) (.tmp 16) 28 3 (.int .i64 0) 8 rfl Tryz.underlying28 info3 rfl (by decide) (by omega) u3 x3_1 (wrap64 (rd l0 x9_1)) [.int .i64 (wrap64 (rd l0 x9_1))] (fun _=>True) (fun _=>False) rfl rfl ?aP (fun _ hk=>hk.elim) ?aF ?aO ?aB ?aS ?aL ?_;(case aP=>exact rfl);(case aB=>exact (by repeat (first | (with_reducible first | exact HB.out | apply below_alloc | apply pw_below_drewN | apply below_drew1) | exact HB.out)));(case aF=>exact (fun _ _=>trivial));(case aO=>exact (by (with_reducible repeat (first | apply Kd.R_alloc | apply Kd.R_drewN | apply Kd.R_drew));exact HO_3.out));(case aS=>exact (below_size (by repeat (first | (with_reducible first | exact HB.out | apply below_alloc | apply pw_below_drewN | apply below_drew1) | exact HB.out))));(case aL=>have:=LMc7.out;omega);intro v176 w8 ho hb hg hat;rw [← Ny175.out] at ho;have n0_:=Aside0.mk (hb);have n1_:=Aside0.mk (ho);clear HB;clear HO_3;have HB:=n0_;have HO177:=n1_;clear n0_ n1_;clear ho hb hg hat))
       go_roundg k1
       case measure=>have:=HK1.out;omega
       case rel=>exact ⟨(y175),(wrap64 (x9_1+1)),(by first | rfl | (simp;done) | (simp [*];done)),H',⟨by have:=HK1.out;omega⟩,⟨by (with_reducible repeat (first | apply Kd.R_alloc | apply Kd.R_drewN | apply Kd.R_drew));exact HO177.out⟩,⟨by repeat (first | (with_reducible first | exact HB.out | apply below_alloc | apply pw_below_drewN | apply below_drew1) | exact HB.out)⟩⟩
      ·rw [if_neg c7] at H
       exact absurd H (by simp)
     ·rw [if_neg c6] at H
      exact absurd H (by simp)
    ·rw [if_neg c5] at H
     exact absurd H (by simp)
   ·rw [if_neg c4] at H
    have c4b0:decide (x9_1<(l0.length:Int))=false:=decide_eq_false c4
    clear c4
    obtain rfl:=Option.some.inj H
    go_wp2
    go_ret
    exact ⟨_,by first | rfl | (simp [errW_none,errW_some]<;>rfl) | (simp [*,errW_none,errW_some]<;>rfl),by (with_reducible repeat (first | apply Kd.R_alloc | apply Kd.R_drewN | apply Kd.R_drew));exact HO_3.out,by repeat (first | (with_reducible first | exact HB.out | apply below_alloc | apply pw_below_drewN | apply below_drew1) | exact HB.out)⟩
/-! ### laws_sameInts: function 26 -/
def laws_sameInts.l0:Nat→List Int→List Int→Int→Int→Option (Bool)
 | 0,_,_,_,_=>none
 | k+1,x0,x1,x12,x13=>if x13<x12 then (if 0≤x13 then (if x13<(x0.length:Int) then (if x13<(x1.length:Int) then (if (rd x0 x13)=(rd x1 x13) then (laws_sameInts.l0 k x0 x1 x12 (wrap64 (x13+1))) else (some false)) else (none)) else (none)) else (none)) else (some true)
def laws_sameInts.f (k:Nat) (l0:List Int) (l1:List Int):Option (Bool):=if (l0.length:Int)=(l1.length:Int) then (laws_sameInts.l0 k l0 l1 (l0.length:Int) 0) else (some false)
set_option maxHeartbeats 8000000 in
set_option maxRecDepth 100000 in
theorem laws_sameInts.calls (k:Nat) (A0:Option Addr) (c0:Nat) (l0:List Int) (A1:Option Addr) (c1:Nat) (l1:List Int) (r:Bool) (w:World) (hr0:Kd.C (Kd.int .i64) w A0 l0.length l0) (hc0:l0.length≤c0) (hr1:Kd.C (Kd.int .i64) w A1 l1.length l1) (hc1:l1.length≤c1) (h:laws_sameInts.f k l0 l1=some r) :
  Calls Tryz.prog 26 #[.slice A0 l0.length c0,.slice A1 l1.length c1] w fun e w'=>e=.returned (.bool r)∧Drawn0 w w':=by
 have HR0:=Aside0.mk hr0
 have HC0:=Aside0.mk hc0
 clear hr0 hc0
 have HR1:=Aside0.mk hr1
 have HC1:=Aside0.mk hc1
 clear hr1 hc1
 have H:(if (l0.length:Int)=(l1.length:Int) then (laws_sameInts.l0 k l0 l1 (l0.length:Int) 0) else (some false))=some r:=h
 clear h
 by_cases c3:(l0.length:Int)=(l1.length:Int)
 ·rw [if_pos c3] at H
  have c3b0:((l0.length:Int) == (l1.length:Int))=true:=beq_iff_eq.mpr c3
  have c3b1:((l0.length:Int) != (l1.length:Int))=false:=bne_eq_false_iff_eq.mpr c3
  have c3b2:(l0.length == l1.length)=true:=by first | simpa using c3 | (simp at c3 ⊢; omega)
  clear c3
  have H':=Aside0.mk H
  clear H
  go_enter Tryz.func26,Tryz.ntmps26
  go_wp2
  repeat (go_quiet (fail);try go_wp2)
  go_loopg [13] k (fun kq v13 w'=>∃ (x13_1:Int),v13=.int .i64 x13_1∧Aside0 (laws_sameInts.l0 kq l0 l1 (l0.length:Int) x13_1=some r)∧Aside0 (kq≤k)∧Drawn0 w w')
  case atStart=>exact ⟨(0),(by first | rfl | (simp;done) | (simp [*];done)),H',⟨Nat.le_refl _⟩,by repeat (first | exact Drawn0.refl _ | apply Drawn0.step)⟩
  case round =>
   clear H'
   try clear c1
   try clear c2
   try clear p2
   try clear c3
   try clear c3b0
   try clear c3b1
   try clear c3b2
   obtain ⟨x13_1,rfl,HA,HK1,⟨m1,rfl⟩⟩:=hrel
   cases gk with
   | zero=>exact absurd HA.out (by simp [laws_sameInts.l0])
   | succ k1 =>
    have H:=HA.out
    clear HA
    simp only [laws_sameInts.l0] at H
    by_cases c4:x13_1<(l0.length:Int)
    ·rw [if_pos c4] at H
     have c4b0:decide (x13_1<(l0.length:Int))=true:=decide_eq_true c4
     clear c4
     by_cases c5:0≤x13_1
     ·rw [if_pos c5] at H
      have c5b0:decide (0≤x13_1)=true:=decide_eq_true c5
      clear c5
      by_cases c6:x13_1<(l0.length:Int)
      ·rw [if_pos c6] at H
       have c6b0:decide (x13_1<(l0.length:Int))=true:=decide_eq_true c6
       clear c6
       by_cases c7:x13_1<(l1.length:Int)
       ·rw [if_pos c7] at H
        have c7b0:decide (x13_1<(l1.length:Int))=true:=decide_eq_true c7
        clear c7
        by_cases c8:(rd l0 x13_1)=(rd l1 x13_1)
        ·rw [if_pos c8] at H
         have c8b0:((rd l0 x13_1) == (rd l1 x13_1))=true:=beq_iff_eq.mpr c8
         have c8b1:((rd l0 x13_1) != (rd l1 x13_1))=false:=bne_eq_false_iff_eq.mpr c8
         clear c8
         have H':=Aside0.mk H
         clear H
         have p152:0≤(x13_1:Int):=of_decide_eq_true (by first | (with_reducible assumption) | assumption)
         have q152:x13_1<(l0.length:Int):=of_decide_eq_true (by first | (with_reducible assumption) | assumption)
         obtain ⟨ad152,e152,hx152_0⟩:=Kd.at_int HR0.out x13_1 p152 q152
         cases e152
         replace p152:=eq_true p152
         replace q152:=eq_true q152
         have p153:0≤(x13_1:Int):=of_decide_eq_true (by first | (with_reducible assumption) | assumption)
         have q153:x13_1<(l1.length:Int):=of_decide_eq_true (by first | (with_reducible assumption) | assumption)
         obtain ⟨ad153,e153,hx153_0⟩:=Kd.at_int HR1.out x13_1 p153 q153
         cases e153
         replace p153:=eq_true p153
         replace q153:=eq_true q153
         go_wp2
         repeat (go_quiet (fail);try go_wp2)
         go_roundg k1
         case measure=>have:=HK1.out;omega
         case rel=>exact ⟨(wrap64 (x13_1+1)),(by first | rfl | (simp;done) | (simp [*];done)),H',⟨by have:=HK1.out;omega⟩,by repeat (first | exact Drawn0.refl _ | apply Drawn0.step)⟩
        ·rw [if_neg c8] at H
         have c8b0:((rd l0 x13_1) == (rd l1 x13_1))=false:=beq_eq_false_iff_ne.mpr c8
         have c8b1:((rd l0 x13_1) != (rd l1 x13_1))=true:=bne_iff_ne.mpr c8
         obtain rfl:=Option.some.inj H
         have p152:0≤(x13_1:Int):=of_decide_eq_true (by first | (with_reducible assumption) | assumption)
         have q152:x13_1<(l0.length:Int):=of_decide_eq_true (by first | (with_reducible assumption) | assumption)
         obtain ⟨ad152,e152,hx152_0⟩:=Kd.at_int HR0.out x13_1 p152 q152
         cases e152
         replace p152:=eq_true p152
         replace q152:=eq_true q152
         have p153:0≤(x13_1:Int):=of_decide_eq_true (by first | (with_reducible assumption) | assumption)
         have q153:x13_1<(l1.length:Int):=of_decide_eq_true (by first | (with_reducible assumption) | assumption)
         obtain ⟨ad153,e153,hx153_0⟩:=Kd.at_int HR1.out x13_1 p153 q153
         cases e153
         replace p153:=eq_true p153
         replace q153:=eq_true q153
         go_wp2
         repeat (go_quiet (fail);try go_wp2)
         go_ret
         exact ⟨by first | rfl | (simp;done) | (simp [*];done),by repeat (first | exact Drawn0.refl _ | apply Drawn0.step)⟩
       ·rw [if_neg c7] at H
        exact absurd H (by simp)
      ·rw [if_neg c6] at H
       exact absurd H (by simp)
     ·rw [if_neg c5] at H
      exact absurd H (by simp)
    ·rw [if_neg c4] at H
     have c4b0:decide (x13_1<(l0.length:Int))=false:=decide_eq_false c4
     clear c4
     obtain rfl:=Option.some.inj H
     go_wp2
     repeat (go_quiet (fail);try go_wp2)
     go_ret
     exact ⟨by first | rfl | (simp;done) | (simp [*];done),by repeat (first | exact Drawn0.refl _ | apply Drawn0.step)⟩
 ·rw [if_neg c3] at H
  have c3b0:((l0.length:Int) == (l1.length:Int))=false:=beq_eq_false_iff_ne.mpr c3
  have c3b1:((l0.length:Int) != (l1.length:Int))=true:=bne_iff_ne.mpr c3
  have c3b2:(l0.length == l1.length)=false:=by first | simpa using c3 | (simp at c3 ⊢; omega)
  obtain rfl:=Option.some.inj H
  go_enter Tryz.func26,Tryz.ntmps26
  go_wp2
  repeat (go_quiet (fail);try go_wp2)
  go_ret
  exact ⟨by first | rfl | (simp;done) | (simp [*];done),by repeat (first | exact Drawn0.refl _ | apply Drawn0.step)⟩
/-! ### badgery_beUint16: function 133 -/
def badgery_beUint16.f (l0:List Int):Option (Int):=if 1<(l0.length:Int) then (if 0<(l0.length:Int) then (some (Go.bits .or .u16 (IntKind.u16.wrap (rd l0 1)) (IntKind.u16.wrap ((IntKind.u16.wrap (rd l0 0))*256)))) else (none)) else (none)
set_option maxHeartbeats 8000000 in
set_option maxRecDepth 100000 in
theorem badgery_beUint16.calls (A0:Option Addr) (c0:Nat) (l0:List Int) (r:Int) (w:World) (hr0:Kd.C (Kd.int .u8) w A0 l0.length l0) (hc0:l0.length≤c0) (h:badgery_beUint16.f l0=some r) :
  Calls Tryz.prog 133 #[.slice A0 l0.length c0] w fun e w'=>e=.returned (.int .u16 r)∧Drawn0 w w':=by
 have HR0:=Aside0.mk hr0
 have HC0:=Aside0.mk hc0
 clear hr0 hc0
 have H:(if 1<(l0.length:Int) then (if 0<(l0.length:Int) then (some (Go.bits .or .u16 (IntKind.u16.wrap (rd l0 1)) (IntKind.u16.wrap ((IntKind.u16.wrap (rd l0 0))*256)))) else (none)) else (none))=some r:=h
 clear h
 by_cases c2:1<(l0.length:Int)
 ·rw [if_pos c2] at H
  have c2b0:decide (1<(l0.length:Int))=true:=decide_eq_true c2
  have c2b1:decide (1<l0.length)=true:=decide_eq_true (by omega)
  clear c2
  by_cases c3:0<(l0.length:Int)
  ·rw [if_pos c3] at H
   have c3b0:decide (0<(l0.length:Int))=true:=decide_eq_true c3
   have c3b1:decide (0<l0.length)=true:=decide_eq_true (by omega)
   clear c3
   obtain rfl:=Option.some.inj H
   have p178:0≤(1:Int):=(by omega)
   have q178:1<(l0.length:Int):=of_decide_eq_true (by first | (with_reducible assumption) | assumption)
   obtain ⟨ad178,e178,hx178_0⟩:=Kd.at_int HR0.out 1 p178 q178
   cases e178
   (try simp only [show (1:Int).toNat=1 from rfl,Nat.reduceMul,Nat.reduceEqDiff,Go.Addr.add,↓reduceIte] at hx178_0)
   have qi178:(1<l0.length)=True:=eq_true (by omega)
   (try rw [show ((1:Int)).toNat=1 from rfl] at hx178_0)
   replace p178:=eq_true p178
   replace q178:=eq_true q178
   have p179:0≤(0:Int):=(by omega)
   have q179:0<(l0.length:Int):=of_decide_eq_true (by first | (with_reducible assumption) | assumption)
   obtain ⟨ad179,e179,hx179_0⟩:=Kd.at_int HR0.out 0 p179 q179
   obtain rfl:ad178=ad179:=(by injection e179)
   have qi179:(0<l0.length)=True:=eq_true (by omega)
   (try rw [show ((0:Int)).toNat=0 from rfl] at hx179_0)
   (try rw [Addr.add_zero'] at hx179_0)
   replace p179:=eq_true p179
   replace q179:=eq_true q179
   go_enter Tryz.func133,Tryz.ntmps133
   go_wp2
   repeat (go_quiet (fail);try go_wp2)
   go_ret
   exact ⟨by first | rfl | (simp;done) | (simp [*];done),by repeat (first | exact Drawn0.refl _ | apply Drawn0.step)⟩
  ·rw [if_neg c3] at H
   exact absurd H (by simp)
 ·rw [if_neg c2] at H
  exact absurd H (by simp)
/-! ### badgery_beUint32: function 105 -/
def badgery_beUint32.f (l0:List Int):Option (Int):=if 2≤4 then (if 4≤(l0.length:Int) then ((badgery_beUint16.f ((l0.take 4).drop 2)).bind fun t181=>((badgery_beUint16.f l0).bind fun t182=>(some (Go.bits .or .u32 ((t181) % 4294967296) ((((t182) % 4294967296)*65536) % 4294967296))))) else (none)) else (none)
set_option maxHeartbeats 8000000 in
set_option maxRecDepth 100000 in
theorem badgery_beUint32.calls (A0:Option Addr) (c0:Nat) (l0:List Int) (r:Int) (w:World) (hr0:Kd.C (Kd.int .u8) w A0 l0.length l0) (hc0:l0.length≤c0) (h:badgery_beUint32.f l0=some r) :
  Calls Tryz.prog 105 #[.slice A0 l0.length c0] w fun e w'=>e=.returned (.int .u32 r)∧Drawn0 w w':=by
 have HR0:=Aside0.mk hr0
 have HC0:=Aside0.mk hc0
 clear hr0 hc0
 have H:(if 2≤4 then (if 4≤(l0.length:Int) then ((badgery_beUint16.f ((l0.take 4).drop 2)).bind fun t181=>((badgery_beUint16.f l0).bind fun t182=>(some (Go.bits .or .u32 ((t181) % 4294967296) ((((t182) % 4294967296)*65536) % 4294967296))))) else (none)) else (none))=some r:=h
 clear h
 by_cases c2:2≤4
 ·rw [if_pos c2] at H
  have c2b0:=eq_true c2
  have c2b1:decide (2≤4)=true:=decide_eq_true c2
  clear c2
  by_cases c3:4≤(l0.length:Int)
  ·rw [if_pos c3] at H
   have c3b0:=eq_true c3
   have c3b1:decide (4≤(l0.length:Int))=true:=decide_eq_true c3
   clear c3
   replace H:=Option.bind_eq_some_iff.mp H
   obtain ⟨t181,A40,H⟩:=H
   replace H:((badgery_beUint16.f l0).bind fun t182=>(some (Go.bits .or .u32 ((t181) % 4294967296) ((((t182) % 4294967296)*65536) % 4294967296))))=some r:=H
   have A4:=Aside0.mk A40
   clear A40
   replace H:=Option.bind_eq_some_iff.mp H
   obtain ⟨t182,A50,H⟩:=H
   replace H:(some (Go.bits .or .u32 ((t181) % 4294967296) ((((t182) % 4294967296)*65536) % 4294967296)))=some r:=H
   have A5:=Aside0.mk A50
   clear A50
   obtain rfl:=Option.some.inj H
   obtain ⟨i06,hi06,_,hsz6,_⟩:=info_parts info5
   obtain ⟨A6,hcut6,hA6,hC6⟩:=print_mid_of (P:=Tryz.prog) (Value.int .u8) 0 81 5 .i64 .i64 Tryz.underlying81 hi06 hsz6 A0 c0 l0 2 4 (by omega) (by first | omega | exact of_decide_eq_true (by first | (with_reducible assumption) | assumption)) (of_decide_eq_true (by first | (with_reducible assumption) | assumption)) HC0.out
   have HR180:=Aside0.mk (Kd.C_of_reads (h1:=fun _=>rfl) (hA6 _ (Kd.reads_of_C HR0.out)))
   have HC180:=Aside0.mk hC6
   clear hA6 hC6 hi06 hsz6
   go_enter Tryz.func105,Tryz.ntmps105
   go_wp2_with (first | ((with_reducible refine gate_callee (f:=133) rfl ?_);refine goesL_ (some 5) rfl rfl Tryz.func133 (by kernel_rfl) rfl #[.slice A6 ((l0.take 4).drop 2).length (c0 - 2)] rfl (by (try simp only [List.map_toArray,List.map_cons,List.map_nil]);first | done | (rw [show ((l0.take 4).drop 2).length=(4 - 2) from (by rw [List.length_drop,List.length_take];have h_:(4:Int)≤(l0.length:Int):=of_decide_eq_true (by first | (with_reducible assumption) | assumption);omega)]<;>rfl) | rfl | (simp only [List.length_drop,List.length_take];rfl)) ?_;(with_reducible refine (badgery_beUint16.calls _ _ ((l0.take 4).drop 2) t181 _ ?side1 ?side2 A4.out).mono ?_);(case side1=>repeat (first | exact HR180.out | (with_reducible refine Kd.C_alloc ?_ _) | (with_reducible refine Kd.C_drewN ?_ _) | (with_reducible refine Kd.C_drew ?_)));(case side2=>exact HC180.out);rintro e w' ⟨rfl,⟨nd,rfl⟩⟩;refine ⟨_,rfl,?_⟩) | ((with_reducible refine gate_callee (f:=133) rfl ?_);refine goesL_ (some 8) rfl rfl Tryz.func133 (by kernel_rfl) rfl #[.slice A0 l0.length c0] rfl (by (try simp only [List.map_toArray,List.map_cons,List.map_nil]);first | done | rfl | (simp only [List.length_drop,List.length_take];rfl)) ?_;(with_reducible refine (badgery_beUint16.calls _ _ l0 t182 _ ?side1 ?side2 A5.out).mono ?_);(case side1=>repeat (first | exact HR0.out | (with_reducible refine Kd.C_alloc ?_ _) | (with_reducible refine Kd.C_drewN ?_ _) | (with_reducible refine Kd.C_drew ?_)));(case side2=>exact HC0.out);rintro e w' ⟨rfl,⟨nd,rfl⟩⟩;refine ⟨_,rfl,?_⟩))
   go_ret
   exact ⟨by first | rfl | (simp;done) | (simp [*];done),by repeat (first | exact Drawn0.refl _ | apply Drawn0.step)⟩
  ·rw [if_neg c3] at H
   exact absurd H (by simp)
 ·rw [if_neg c2] at H
  exact absurd H (by simp)
/-! ### badgery_beUint64: function 77 -/
def badgery_beUint64.f (l0:List Int):Option (Int):=if 4≤8 then (if 8≤(l0.length:Int) then ((badgery_beUint32.f ((l0.take 8).drop 4)).bind fun t184=>((badgery_beUint32.f l0).bind fun t185=>(some (Go.bits .or .u64 (IntKind.u64.wrap (t184)) (IntKind.u64.wrap ((IntKind.u64.wrap (t185))*4294967296)))))) else (none)) else (none)
set_option maxHeartbeats 8000000 in
set_option maxRecDepth 100000 in
theorem badgery_beUint64.calls (A0:Option Addr) (c0:Nat) (l0:List Int) (r:Int) (w:World) (hr0:Kd.C (Kd.int .u8) w A0 l0.length l0) (hc0:l0.length≤c0) (h:badgery_beUint64.f l0=some r) :
  Calls Tryz.prog 77 #[.slice A0 l0.length c0] w fun e w'=>e=.returned (.int .u64 r)∧Drawn0 w w':=by
 have HR0:=Aside0.mk hr0
 have HC0:=Aside0.mk hc0
 clear hr0 hc0
 have H:(if 4≤8 then (if 8≤(l0.length:Int) then ((badgery_beUint32.f ((l0.take 8).drop 4)).bind fun t184=>((badgery_beUint32.f l0).bind fun t185=>(some (Go.bits .or .u64 (IntKind.u64.wrap (t184)) (IntKind.u64.wrap ((IntKind.u64.wrap (t185))*4294967296)))))) else (none)) else (none))=some r:=h
 clear h
 by_cases c2:4≤8
 ·rw [if_pos c2] at H
  have c2b0:=eq_true c2
  have c2b1:decide (4≤8)=true:=decide_eq_true c2
  clear c2
  by_cases c3:8≤(l0.length:Int)
  ·rw [if_pos c3] at H
   have c3b0:=eq_true c3
   have c3b1:decide (8≤(l0.length:Int))=true:=decide_eq_true c3
   clear c3
   replace H:=Option.bind_eq_some_iff.mp H
   obtain ⟨t184,A40,H⟩:=H
   replace H:((badgery_beUint32.f l0).bind fun t185=>(some (Go.bits .or .u64 (IntKind.u64.wrap (t184)) (IntKind.u64.wrap ((IntKind.u64.wrap (t185))*4294967296)))))=some r:=H
   have A4:=Aside0.mk A40
   clear A40
   replace H:=Option.bind_eq_some_iff.mp H
   obtain ⟨t185,A50,H⟩:=H
   replace H:(some (Go.bits .or .u64 (IntKind.u64.wrap (t184)) (IntKind.u64.wrap ((IntKind.u64.wrap (t185))*4294967296))))=some r:=H
   have A5:=Aside0.mk A50
   clear A50
   obtain rfl:=Option.some.inj H
   obtain ⟨i06,hi06,_,hsz6,_⟩:=info_parts info5
   obtain ⟨A6,hcut6,hA6,hC6⟩:=print_mid_of (P:=Tryz.prog) (Value.int .u8) 0 81 5 .i64 .i64 Tryz.underlying81 hi06 hsz6 A0 c0 l0 4 8 (by omega) (by first | omega | exact of_decide_eq_true (by first | (with_reducible assumption) | assumption)) (of_decide_eq_true (by first | (with_reducible assumption) | assumption)) HC0.out
   have HR183:=Aside0.mk (Kd.C_of_reads (h1:=fun _=>rfl) (hA6 _ (Kd.reads_of_C HR0.out)))
   have HC183:=Aside0.mk hC6
   clear hA6 hC6 hi06 hsz6
   go_enter Tryz.func77,Tryz.ntmps77
   go_wp2_with (first | ((with_reducible refine gate_callee (f:=105) rfl ?_);refine goesL_ (some 5) rfl rfl Tryz.func105 (by kernel_rfl) rfl #[.slice A6 ((l0.take 8).drop 4).length (c0 - 4)] rfl (by (try simp only [List.map_toArray,List.map_cons,List.map_nil]);first | done | (rw [show ((l0.take 8).drop 4).length=(8 - 4) from (by rw [List.length_drop,List.length_take];have h_:(8:Int)≤(l0.length:Int):=of_decide_eq_true (by first | (with_reducible assumption) | assumption);omega)]<;>rfl) | rfl | (simp only [List.length_drop,List.length_take];rfl)) ?_;(with_reducible refine (badgery_beUint32.calls _ _ ((l0.take 8).drop 4) t184 _ ?side1 ?side2 A4.out).mono ?_);(case side1=>repeat (first | exact HR183.out | (with_reducible refine Kd.C_alloc ?_ _) | (with_reducible refine Kd.C_drewN ?_ _) | (with_reducible refine Kd.C_drew ?_)));(case side2=>exact HC183.out);rintro e w' ⟨rfl,⟨nd,rfl⟩⟩;refine ⟨_,rfl,?_⟩) | ((with_reducible refine gate_callee (f:=105) rfl ?_);refine goesL_ (some 8) rfl rfl Tryz.func105 (by kernel_rfl) rfl #[.slice A0 l0.length c0] rfl (by (try simp only [List.map_toArray,List.map_cons,List.map_nil]);first | done | rfl | (simp only [List.length_drop,List.length_take];rfl)) ?_;(with_reducible refine (badgery_beUint32.calls _ _ l0 t185 _ ?side1 ?side2 A5.out).mono ?_);(case side1=>repeat (first | exact HR0.out | (with_reducible refine Kd.C_alloc ?_ _) | (with_reducible refine Kd.C_drewN ?_ _) | (with_reducible refine Kd.C_drew ?_)));(case side2=>exact HC0.out);rintro e w' ⟨rfl,⟨nd,rfl⟩⟩;refine ⟨_,rfl,?_⟩))
   go_ret
   exact ⟨by first | rfl | (simp;done) | (simp [*];done),by repeat (first | exact Drawn0.refl _ | apply Drawn0.step)⟩
  ·rw [if_neg c3] at H
   exact absurd H (by simp)
 ·rw [if_neg c2] at H
  exact absurd H (by simp)
/-! ### badgery_ParseTs: function 65 -/
def badgery_ParseTs.f (l0:List Int):Option (Int):=if (l0.length:Int)≤8 then (some 0) else (if 0≤(wrap64 ((l0.length:Int) - 8)) then (if (wrap64 ((l0.length:Int) - 8))≤(l0.length:Int) then ((badgery_beUint64.f (l0.drop ((wrap64 ((l0.length:Int) - 8)):Int).toNat)).bind fun t187=>(some (IntKind.u64.wrap (18446744073709551615 - t187)))) else (none)) else (none))
set_option maxHeartbeats 8000000 in
set_option maxRecDepth 100000 in
theorem badgery_ParseTs.calls (A0:Option Addr) (c0:Nat) (l0:List Int) (r:Int) (w:World) (hr0:Kd.C (Kd.int .u8) w A0 l0.length l0) (hc0:l0.length≤c0) (h:badgery_ParseTs.f l0=some r) :
  Calls Tryz.prog 65 #[.slice A0 l0.length c0] w fun e w'=>e=.returned (.int .u64 r)∧Drawn0 w w':=by
 have HR0:=Aside0.mk hr0
 have HC0:=Aside0.mk hc0
 clear hr0 hc0
 have H:(if (l0.length:Int)≤8 then (some 0) else (if 0≤(wrap64 ((l0.length:Int) - 8)) then (if (wrap64 ((l0.length:Int) - 8))≤(l0.length:Int) then ((badgery_beUint64.f (l0.drop ((wrap64 ((l0.length:Int) - 8)):Int).toNat)).bind fun t187=>(some (IntKind.u64.wrap (18446744073709551615 - t187)))) else (none)) else (none)))=some r:=h
 clear h
 by_cases c2:(l0.length:Int)≤8
 ·rw [if_pos c2] at H
  have c2b0:decide ((l0.length:Int)≤8)=true:=decide_eq_true c2
  have c2b1:decide (l0.length≤8)=true:=decide_eq_true (by omega)
  clear c2
  obtain rfl:=Option.some.inj H
  go_enter Tryz.func65,Tryz.ntmps65
  go_wp2
  go_ret
  exact ⟨by first | rfl | (simp;done) | (simp [*];done),by repeat (first | exact Drawn0.refl _ | apply Drawn0.step)⟩
 ·rw [if_neg c2] at H
  have c2b0:decide ((l0.length:Int)≤8)=false:=decide_eq_false c2
  have c2b1:decide (l0.length≤8)=false:=decide_eq_false (by omega)
  clear c2
  obtain ⟨ji3,hji3⟩ : ∃ j_:Int,(wrap64 ((l0.length:Int) - 8))=j_:=⟨_,rfl⟩
  replace H:(if 0≤(ji3) then (if (ji3)≤(l0.length:Int) then ((badgery_beUint64.f (l0.drop ((ji3):Int).toNat)).bind fun t187=>(some (IntKind.u64.wrap (18446744073709551615 - t187)))) else (none)) else (none))=some r:=by first | (rw [hji3] at H;exact H) | (simp only [hji3] at H ⊢; exact H)
  have hji3w:(IntKind.i64.wrap ((l0.length:Int) - 8))=ji3:=(i64_w _).trans hji3
  by_cases c4:0≤(ji3)
  ·rw [if_pos c4] at H
   have c4b0:=eq_true c4
   have c4b1:decide (0≤(ji3))=true:=decide_eq_true c4
   clear c4
   by_cases c5:(ji3)≤(l0.length:Int)
   ·rw [if_pos c5] at H
    have c5b0:=eq_true c5
    have c5b1:decide ((ji3)≤(l0.length:Int))=true:=decide_eq_true c5
    clear c5
    replace H:=Option.bind_eq_some_iff.mp H
    obtain ⟨t187,A60,H⟩:=H
    replace H:(some (IntKind.u64.wrap (18446744073709551615 - t187)))=some r:=H
    have A6:=Aside0.mk A60
    clear A60
    obtain rfl:=Option.some.inj H
    obtain ⟨i07,hi07,_,hsz7,_⟩:=info_parts info5
    obtain ⟨A7,hcut7,hA7,hC7⟩:=print_drop_of (P:=Tryz.prog) (Value.int .u8) 0 81 5 .i64 Tryz.underlying81 hi07 hsz7 A0 c0 l0 (ji3) (of_decide_eq_true (by first | (with_reducible assumption) | assumption)) (of_decide_eq_true (by first | (with_reducible assumption) | assumption)) HC0.out
    have HR186:=Aside0.mk (Kd.C_of_reads (h1:=fun _=>rfl) (hA7 _ (Kd.reads_of_C HR0.out)))
    have HC186:=Aside0.mk hC7
    clear hA7 hC7 hi07 hsz7
    go_enter Tryz.func65,Tryz.ntmps65
    go_wp2_with (first | ((with_reducible refine gate_callee (f:=77) rfl ?_);refine goesL_ (some 11) rfl rfl Tryz.func77 (by kernel_rfl) rfl #[.slice A7 (l0.drop ((ji3):Int).toNat).length (c0 - (ji3).toNat)] rfl (by (try simp only [List.map_toArray,List.map_cons,List.map_nil]);first | done | (rw [show (l0.drop ((ji3):Int).toNat).length=(l0.length - (ji3).toNat) from List.length_drop]<;>rfl) | (simp only [hji3];rfl) | rfl | (simp only [List.length_drop,List.length_take];rfl)) ?_;(with_reducible refine (badgery_beUint64.calls _ _ (l0.drop ((ji3):Int).toNat) t187 _ ?side1 ?side2 A6.out).mono ?_);(case side1=>repeat (first | exact HR186.out | (with_reducible refine Kd.C_alloc ?_ _) | (with_reducible refine Kd.C_drewN ?_ _) | (with_reducible refine Kd.C_drew ?_)));(case side2=>exact HC186.out);rintro e w' ⟨rfl,⟨nd,rfl⟩⟩;refine ⟨_,rfl,?_⟩))
    go_ret
    exact ⟨by first | rfl | (simp;done) | (simp only [← hji3]<;>(first | rfl | simp)) | (simp [*];done),by repeat (first | exact Drawn0.refl _ | apply Drawn0.step)⟩
   ·rw [if_neg c5] at H
    exact absurd H (by simp)
  ·rw [if_neg c4] at H
   exact absurd H (by simp)
/-! ### bytes_Equal: function 158 -/
def bytes_Equal.f (l0:List Int) (l1:List Int):Option (Bool):=some ((strOfNums l0).toList == (strOfNums l1).toList)
end Go.Proofs.YtnineoajmgneiaaGreat.L
namespace Go.Proofs.YtnineoajmgneiaaGreat.Tp
open Lib (hid)
open Go.RowKit YtnineoajmgneiaaGreatW.PrintWords YtnineoajmgneiaaGreatW.PrintLast YtnineoajmgneiaaGreatW.PrintMore Fr L Ky Tm Lm Sr Ls It Nw Bd Tg
open YtnineoajmgneiaaGreat.Od (ord)
open YtnineoajmgneiaaGreatW
theorem lv_of_new {w w':World} {xs:List (List Tb)} {o:Lm.Op} {ob mb sb:Nat} (h:NewR w xs o ob mb sb xs.length w') (hx:0<xs.length):∃ blk c,Lv w' sb ob blk c o (xs.map total):=by
 obtain ⟨lv,cv,hs,cs,h1,h2,h3,h4⟩:=h
 rw [List.take_of_length_le (Nat.le_refl _)] at h2
 have hl:hs.length=xs.length:=by rw [← h2,List.length_map]
 obtain ⟨A,c,e,hc,hr⟩:=row_F (F:=fun _=>True) h1.lr (fun _ _ _=>trivial)
 rw [List.length_map,hl] at e hc hr
 obtain ⟨b,ds,rfl,_,hb,hat⟩:=hr hx
 subst e
 refine ⟨b,c,by have:=blk_cell h1.ctl 0;rw [List.length_map];exact this,blk_cell h1.ctl 1,h1.opt,fun i hi=>?_⟩
 rw [List.length_map] at hi
 have hih:i<hs.length:=by omega
 refine ⟨hs[i].hp,?_,?_⟩
 ·rw [blk_cell hb]
  exact hat i _ (by simp [hih])
 ·have:=blk_cell (h4 i _ (List.getElem?_eq_getElem hih)).blk 1
  refine this.trans ?_
  have e3:xs[i]? = some hs[i].ts:=by rw [← h2];simp [hih]
  have e4:(xs.map total).getD i 0=total hs[i].ts:=by simp [e3]
  rw [e4]
  rfl
def TgPost (w:World) (o:Lm.Op) (sz:List Int) (e:Ending) (w':World):Prop:=∃ A c B d,e=.returned (.tuple #[.int .i64 (bl4 o sz),.slice A sz.length c,.slice B sz.length d])∧Kd.C (Kd.int .i64) w' A sz.length (blT o sz).2∧Kd.C (Kd.int .i64) w' B sz.length (files o sz)∧sz.length≤c∧sz.length≤d∧Below w.heap.size w w'
set_option maxRecDepth 100000 in
set_option maxHeartbeats 2000000 in
theorem targets57 {w:World} {lp sb ob blk c:Nat} {o:Lm.Op} {sz:List Int} (h0:w.cell? ⟨lp,0,none⟩=some (ptr sb)) (hL:Lv w sb ob blk c o sz) (hn:2≤sz.length) (hx:sz.length≤100) (hz:∀ i,0≤sz.getD i 0∧sz.getD i 0≤1000000000000000) (hmul:2≤o.mult) (hbase:0≤o.base) :
  Calls Tryz.prog 57 #[.pointer (some ⟨lp,0,none⟩)] w (TgPost w o sz):=by
 have K:=hid (levelTargets_calls hL hn hx hz hmul hbase)
 simp only [ptr] at h0
 clear hL hz hn hx
 go_enter Tryz.func57,Tryz.ntmps57
 go_wp2_with fail
 refine K.out.mono ?_
 rintro e w2 ⟨A,c1,B,d1,rfl,hA,hB,hc1,hd1,hb⟩
 have HA:=hid hA
 have HB:=hid hB
 have HB2:=hid hb
 have HC:=hid hc1
 have HD:=hid hd1
 clear hA hB hb hc1 hd1 K
 obtain ⟨bb,hbb⟩ : ∃ b,b=bl4 o sz:=⟨_,rfl⟩
 rw [← hbb]
 obtain ⟨n,hnn⟩ : ∃ n,n=sz.length:=⟨_,rfl⟩
 rw [← hnn]
 have HBB:=hid hbb
 have HNN:=hid hnn
 clear hbb hnn
 go_upto_region 2 with (fail)
 obtain ⟨w3,hw3⟩ : ∃ w3,w3=w2.alloc (.cells #[.int .i64 bb,.slice A n c1,.slice B n d1] 103):=⟨_,rfl⟩
 rw [← hw3]
 obtain ⟨b5,hb5⟩ : ∃ b,b=w2.heap.size:=⟨_,rfl⟩
 rw [← hb5]
 have HBX:=hid (show Below w2.heap.size w2 w3 by rw [hw3];exact below_alloc (Below.refl _ _) _)
 have HX:=hid (show w3.heap[b5]? = some (.cells #[.int .i64 bb,.slice A n c1,.slice B n d1] 103 (0,0)) by rw [hw3,hb5];exact blk_new w2 _)
 clear hw3 hb5
 have y0:=blk_cell HX.out 0
 have y1:=blk_cell HX.out 1
 have y2:=blk_cell HX.out 2
 go_quiet (fail)
 have HE:=hid (show TgPost w o sz (.returned (.tuple #[.int .i64 bb,.slice A n c1,.slice B n d1])) (w3.drewN nq) by
  rw [HBB.out,HNN.out]
  exact ⟨A,c1,B,d1,rfl,Kd.C_drewN (Kd.C_below HA.out HBX.out) _,Kd.C_drewN (Kd.C_below HB.out HBX.out) _,HC.out,HD.out,pw_below_drewN (below_step HB2.out HBX.out) _⟩)
 go_wp2_with fail
 go_ret3
 exact HE.out
theorem w64 {x:Int} (h : -1000000≤x∧x≤1000000):wrap64 x=x:=by
 unfold wrap64
 omega
theorem ints_at {l:List Int} (hl:l.length≤1000):∀ (m j k:Nat),j+m=l.length→m+1≤k→impl_ints_int64.l0 k (l.take j) l (l.length:Int) (j:Int)=some l
 | 0,j,k,hj,hk=>by
  obtain ⟨k,rfl⟩ : ∃ q,k=q+1:=⟨k - 1,by omega⟩
  rw [impl_ints_int64.l0,if_neg (by omega),List.take_of_length_le (by omega)]
 | m+1,j,k,hj,hk=>by
  obtain ⟨k,rfl⟩ : ∃ q,k=q+1:=⟨k - 1,by omega⟩
  rw [impl_ints_int64.l0,if_pos (by omega),if_pos (by omega),if_pos (by omega),if_pos (by rw [List.length_take];omega),w64 (by omega)]
  have e:l.take j++[PrintWords.rd l (j:Int)]=l.take (j+1):=by
   rw [List.take_succ_eq_append_getElem (by omega)]
   simp [PrintWords.rd,show j<l.length by omega]
  rw [e]
  exact ints_at hl m (j+1) k (by omega) (by omega)
theorem ints_id {l:List Int} (hl:l.length≤1000):impl_ints_int64.f (l.length+1) l=some l:=by
 have:=ints_at hl l.length 0 (l.length+1) (by omega) (by omega)
 simpa [impl_ints_int64.f] using this
def IntsPost (w:World) (l:List Int) (e:Ending) (w':World):Prop:=∃ A c,e=.returned (.slice A l.length c)∧l.length≤c∧Kd.C (Kd.int .i64) w' A l.length l∧Below w.heap.size w w'
theorem ints_calls {w:World} {A:Option Addr} {n c:Nat} {l:List Int} (h:Kd.C (Kd.int .i64) w A n l) (hc:n≤c) (hn:n≤1000):Calls Tryz.prog 58 #[.slice A n c] w (IntsPost w l):=by
 have e:l.length=n:=h.1
 subst e
 refine (impl_ints_int64.calls (l.length+1) A c l l w h hc (ints_id hn)).mono ?_
 rintro e w' ⟨v,rfl,hr,hb⟩
 obtain ⟨A2,c2,rfl⟩:=Kd.R_slice hr
 exact ⟨A2,c2,rfl,(Kd.R_reads' hr).2.1,(Kd.R_reads' hr).2.2,hb⟩
def AllPost (w:World) (o:Lm.Op) (sz:List Int) (e:Ending) (w':World):Prop:=∃ A c B d,e=.returned (.tuple #[.int .i64 (bl4 o sz),.slice A (blT o sz).2.length c,.slice B (files o sz).length d])∧(blT o sz).2.length≤c∧Kd.C (Kd.int .i64) w' A (blT o sz).2.length (blT o sz).2∧(files o sz).length≤d∧Kd.C (Kd.int .i64) w' B (files o sz).length (files o sz)∧Below w.heap.size w w'
theorem sizes_ok {xs:List (List Tb)} (hl:∀ l∈xs,l.length≤50000∧∀ t∈l,Fit t):∀ i,0≤(xs.map total).getD i 0∧(xs.map total).getD i 0≤1000000000000000:=by
 intro i
 rw [List.getD_eq_getElem?_getD,List.getElem?_map]
 cases h:xs[i]? with
 | none=>simp
 | some l =>
  obtain ⟨h1,h2⟩:=hl l (List.mem_of_getElem? h)
  have:=total_bd h2
  simp only [Option.map_some,Option.getD_some]
  omega
set_option maxRecDepth 100000 in
set_option maxHeartbeats 4000000 in
theorem targets_calls {w:World} {A0:Option Addr} {c0:Nat} {ls:List (List S68)} {m a b c d e f g:Int} {xs:List (List Tb)} (hxs:xs=ls.map (·.map tbOf)) (hC:Kd.C (Kd.slice 68 k68) w A0 ls.length ls) (hc0:ls.length≤c0) (hm:m=(xs.length:Int)) (hx:ls.length≤100) (h2:2≤ls.length) (hlen:∀ l∈ls,l.length≤50000)
  (hin:∀ l∈ls,∀ t∈l,InTab t) (hord:∀ (i:Nat) (l:List Tb),xs[i]? = some l→Od.SW l.length (It.ltOf i l)∧ord l.length (It.ltOf i l)=List.range l.length) (hg:IntKind.u64.wrap g=g) (hmul:2≤a) (hbase:0≤d) :
  Calls Tryz.prog 25 #[.slice A0 ls.length c0,.agg #[.int .i64 m,.int .i64 a,.int .i64 b,.int .i64 c,.int .i64 d,.int .i64 e,.int .i64 f,.int .i64 g]] w (AllPost w ⟨m,a,b,c,d,e,f,g⟩ (xs.map total)):=by
 have HXL:=hid (show xs.length=ls.length by rw [hxs,List.length_map])
 have HSZ:=hid (sizes_ok (xs:=xs) (fun l hl=>by
  rw [hxs] at hl
  obtain ⟨l0,h0,rfl⟩:=List.mem_map.1 hl
  refine ⟨by rw [List.length_map];exact hlen l0 h0,fun t ht=>?_⟩
  obtain ⟨t0,h1,rfl⟩:=List.mem_map.1 ht
  exact (tb_ok (hin l0 h0 t0 h1)).2))
 have KB:=hid (fun (W:World) (hW:Below w.heap.size w W)=>build_calls (w:=W) (m:=m) (a:=a) (b:=b) (c:=c) (d:=d) (e:=e) (f:=f) (g:=g) hxs (Kd.C_below hC hW) hc0 hm hx hlen hin hord hg)
 have HX:=hid hx
 have H2:=hid h2
 clear hxs hC hc0 hm hx h2 hlen hin hord hg
 go_enter Tryz.func25,Tryz.ntmps25
 go_upto_region 1 with (fail)
 obtain ⟨w1,hw1⟩ : ∃ w1,w1=w.alloc (.cells #[.int .i64 m,.int .i64 a,.int .i64 b,.int .i64 c,.int .i64 d,.int .i64 e,.int .i64 f,.int .i64 g] 24):=⟨_,rfl⟩
 rw [← hw1]
 obtain ⟨b3,hb3⟩ : ∃ b3,b3=w.heap.size:=⟨_,rfl⟩
 rw [← hb3]
 have HB1:=hid (show Below w.heap.size w w1 by rw [hw1];exact below_alloc (Below.refl _ _) _)
 have HO3:=hid (show w1.heap[b3]? = some (.cells #[.int .i64 m,.int .i64 a,.int .i64 b,.int .i64 c,.int .i64 d,.int .i64 e,.int .i64 f,.int .i64 g] 24 (0,0)) by rw [hw1,hb3];exact blk_new w _)
 clear hw1 hb3
 have o0:=blk_cell HO3.out 0
 have o1:=blk_cell HO3.out 1
 have o2:=blk_cell HO3.out 2
 have o3:=blk_cell HO3.out 3
 have o4:=blk_cell HO3.out 4
 have o5:=blk_cell HO3.out 5
 have o6:=blk_cell HO3.out 6
 have o7:=blk_cell HO3.out 7
 go_wp2_with fail
 refine (KB.out w1 HB1.out).mono ?_
 rintro e2 w2 ⟨W,hW,lp,sb,ob,mb,rfl,hnr,hlp,hl1,hl2⟩
 obtain ⟨blk,cc,hLv⟩:=lv_of_new hnr (by have:=H2.out;have:=HXL.out;omega)
 have HB2:=hid (show Below w.heap.size w w2 by
  obtain ⟨lv,cv,hs,cs,hq1,hq2,hq3,hq4⟩:=hnr
  exact below_step HB1.out (hW.trans (hq1.bel.mono hW.size)))
 have K57:=hid (targets57 (w:=w2) (blk_cell hlp 0) hLv (by rw [List.length_map];have:=H2.out;have:=HXL.out;omega) (by rw [List.length_map];have:=HX.out;have:=HXL.out;omega) HSZ.out hmul hbase)
 clear hW hnr hlp hl1 hl2 hLv o0 o1 o2 o3 o4 o5 o6 o7
 simp only [ptr]
 go_wp2_with fail
 refine K57.out.mono ?_
 rintro e3 w3 ⟨A,c1,B,d1,rfl,hA,hB,hc1,hd1,hb⟩
 have hnn:(xs.map total).length≤1000:=by rw [List.length_map];have:=HX.out;have:=HXL.out;omega
 have KA:=hid (ints_calls hA hc1 hnn)
 have KC:=hid (fun (W:World) (hW:Below w3.heap.size w3 W)=>ints_calls (Kd.C_below hB hW) hd1 hnn)
 have HB3:=hid (below_step HB2.out hb)
 clear hA hB hc1 hd1 hb hnn K57 KB
 obtain ⟨bb,hbb⟩ : ∃ q,q=bl4 ⟨m,a,b,c,d,e,f,g⟩ (xs.map total):=⟨_,rfl⟩
 rw [← hbb]
 obtain ⟨n,hn⟩ : ∃ n,n=(xs.map total).length:=⟨_,rfl⟩
 rw [← hn] at KA KC
 rw [← hn]
 have HBB:=hid hbb
 clear hbb hn
 go_wp2_with fail
 refine KA.out.mono ?_
 rintro e4 w4 ⟨A4,c4,rfl,hc4,hA4,hb4⟩
 have KC4:=hid (KC.out w4 hb4)
 have HA4:=hid hA4
 have HC4:=hid hc4
 have HB4:=hid (below_step HB3.out hb4)
 clear hc4 hA4 hb4 KA KC
 obtain ⟨n4,hn4⟩ : ∃ n,n=(blT ⟨m,a,b,c,d,e,f,g⟩ (xs.map total)).2.length:=⟨_,rfl⟩
 rw [← hn4]
 have HN4:=hid hn4
 clear hn4
 go_wp2_with fail
 refine KC4.out.mono ?_
 rintro e5 w5 ⟨A5,c5,rfl,hc5,hA5,hb5⟩
 have HE:=hid (show AllPost w ⟨m,a,b,c,d,e,f,g⟩ (xs.map total) (.returned (.tuple #[.int .i64 bb,.slice A4 n4 c4,.slice A5 (files ⟨m,a,b,c,d,e,f,g⟩ (xs.map total)).length c5])) w5 by
  rw [HBB.out,HN4.out]
  exact ⟨A4,c4,A5,c5,rfl,HC4.out,Kd.C_below HA4.out hb5,hc5,hA5,below_step HB4.out hb5⟩)
 clear hc5 hA5 hb5 KC4
 obtain ⟨n5,hn5⟩ : ∃ n,n=(files ⟨m,a,b,c,d,e,f,g⟩ (xs.map total)).length:=⟨_,rfl⟩
 rw [← hn5] at HE
 rw [← hn5]
 clear hn5
 go_wp2_with fail
 go_ret3
 exact HE.out
end Go.Proofs.YtnineoajmgneiaaGreat.Tp
