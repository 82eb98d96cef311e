/- compareAndAdd: a compaction is entered, if its ranges are free. Levels read; rows of pointers made and filled. fillTablesL0ToLbase: a compaction from level 0 to the base level. fillTablesL0, where the way to the base level is free; Ceil; Copy. addSplits: Copy, and the closure that adds a range. addSplits. Blocks that stay; rows of splits and of numbers. Tables in the order of their newest versions, or of their stale bytes: sortByHeuristic. A compaction that is tried: what comes of it, plainly and in memory. A key's version read back: plain. Keys as rows of bytes for the printed contracts. Steps of levels, plainly: what comes of them. -/
import Derived.Test.YtnineoajmgneiaaGreatYe
import Derived.Test.YtnineoajmgneiaaGreatYb
import Derived.Test.YtnineoajmgneiaaGreatYc
set_option linter.unusedSimpArgs false
set_option linter.unusedVariables false
namespace Go.Proofs.YtnineoajmgneiaaGreat.Rg
open Lib (hid)
open List renaming setIfInBounds_toArray → zA,set_cons_zero → zB,set_cons_succ → zC
open Go.RowKit YtnineoajmgneiaaGreatW YtnineoajmgneiaaGreatW.PrintWords YtnineoajmgneiaaGreatW.PrintLast YtnineoajmgneiaaGreatW.PrintMore Fr L Ky Tm Lm It
/-- A compaction as it lies in memory. -/
structure Cd where
 id:Int
 bl:Int
 tA:Option Addr
 tn:Nat
 tc:Nat
 fA:Option Addr
 fn:Nat
 fc:Nat
 lv:Int
 sc:Nat
 tl:Nat
 nl:Option Addr
 pA:Option Addr
 pn:Nat
 pc:Nat
 qA:Option Addr
 qn:Nat
 qc:Nat
 a1:Option Addr
 b1:Option Addr
 r1:Rg
 a2:Option Addr
 b2:Option Addr
 r2:Rg
 sA:Option Addr
 sn:Nat
 ss:Nat
 sz:Int
def cdC (c:Cd):Array Value:=#[.int .i64 c.id,.int .i64 c.bl,.slice c.tA c.tn c.tc,.slice c.fA c.fn c.fc,.int .i64 c.lv,.float .f64 c.sc,.float .f64 c.sc,.slice none 0 0,.int .i64 c.bl,.slice c.tA c.tn c.tc,.slice c.fA c.fn c.fc,.pointer (some ⟨c.tl,0,none⟩),.pointer c.nl,.slice c.pA c.pn c.pc,.slice c.qA c.qn c.qc,
 .slice c.a1 c.r1.lo.length c.r1.lo.length,.slice c.b1 c.r1.hi.length c.r1.hi.length,.bool c.r1.inf,.int .i64 0,.slice c.a2 c.r2.lo.length c.r2.lo.length,.slice c.b2 c.r2.hi.length c.r2.hi.length,.bool c.r2.inf,.int .i64 0,.slice c.sA c.sn c.ss,.int .i64 c.sz,.slice none 0 0]
/-- What lies in a compaction fits the plan. -/
structure CdOk (w:World) (n0:Nat) (c:Cd) (tops bots:List Nat) (tt bt:List Tb) (nlb:Nat):Prop where
 enl:c.nl=some ⟨nlb,0,none⟩
 top:ptrK.R 140 w n0 (fun _=>True) (.slice c.pA c.pn c.pc) tops
 bot:ptrK.R 140 w n0 (fun _=>True) (.slice c.qA c.qn c.qc) bots
 apart:∀ k,(Value.slice c.qA c.qn c.qc).ownBlock=some k→(Value.slice c.pA c.pn c.pc).ownBlock≠some k
 pos:0<tops.length∧tops.length+bots.length≤1000000
 ttab:Ls.Tabs w tops tt
 btab:Ls.Tabs w bots bt
 k1:KB w (fun k=>n0≤k) c.a1 c.r1.lo
 k2:KB w (fun k=>n0≤k) c.b1 c.r1.hi
 k3:KB w (fun k=>n0≤k) c.a2 c.r2.lo
 k4:KB w (fun k=>n0≤k) c.b2 c.r2.hi
 o1:RgOk c.r1
 o2:RgOk c.r2
def hitR (rgs:List (List Rg)) (i:Nat) (r:Rg):Bool:=(rgAt rgs i).any fun x=>ovR x r
def pushR (rgs:List (List Rg)) (i:Nat) (r:Rg):List (List Rg):=rgs.set i (rgAt rgs i++[r])
def RgsOk (rgs:List (List Rg)):Prop:=∀ l∈rgs,l.length≤1000000∧∀ r∈l,RgOk r
/-- What a change of the plan keeps: all blocks but its own, and the one that a row of tables grows in. -/
def KeepC (w w1:World) (g:Option Nat):Prop:=Below 0 w w1∧∀ (b:Nat) (arr:Array Value) (t:Nat),w.heap[b]? = some (.cells arr t (0,0))→t∉[144,126]→g≠some b→w1.heap[b]? = w.heap[b]?
theorem keepC_below {w w1:World} (hb:Below w.heap.size w w1) (g:Option Nat):KeepC w w1 g:=⟨hb.mono (Nat.zero_le _),fun b _ _ h _ _=>hb.block b (blk_lt h)⟩
theorem KeepC.trans {w w1 w2:World} {g:Option Nat} (h:KeepC w w1 g) (h2:KeepC w1 w2 g):KeepC w w2 g:=⟨h.1.trans h2.1,fun b arr t hb ht hg=>by
 have e1:=h.2 b arr t hb ht hg
 exact (h2.2 b arr t (e1.trans hb) ht hg).trans e1⟩
theorem rgAt_ok {rgs:List (List Rg)} (h:RgsOk rgs) {i:Nat} (hi:i<rgs.length):(rgAt rgs i).length≤1000000∧∀ r∈rgAt rgs i,RgOk r:=h _ (by simp [rgAt,hi])
theorem cor_c [Ghost] {w:World} {S:Nat→Prop} {n0 sb ob mb:Nat} {lv cv:Value} {hs:List Hd} {cs:List Nat} {o:Lm.Op} {rgs:List (List Rg)} {run:List Int} (h:Cor w S n0 sb ob mb lv cv hs cs o rgs run) (hp:0<cs.length):∃ g cc,cv=.slice (some ⟨g,0,none⟩) cs.length cc∧(∀ j,j<cs.length→w.cell? ⟨g,j,none⟩=some (ptr (cAt cs j)))∧w.cell? ⟨sb,2,none⟩=some cv∧w.cell? ⟨sb,3,none⟩=some (.map (some mb)):=by
 have at_:∀ j,j<cs.length→cs[j]? = some (cAt cs j):=fun j hj=>by simp [cAt,hj]
 obtain ⟨g,cc,e,_⟩:=h.st.crow.at_ (at_ 0 hp)
 refine ⟨g,cc,e,fun j hj=>?_,blk_cell h.st.ctl.2 2,blk_cell h.st.ctl.2 3⟩
 obtain ⟨g2,c2,e2,h2⟩:=h.st.crow.at_ (at_ j hj)
 rw [e] at e2
 injection e2 with e2 _ _
 injection e2 with e2
 injection e2 with e2 _ _
 rw [e2];exact h2
theorem dyn_row {w:World} {n0 i:Nat} {cs:List Nat} {vs:List Value} {rgs:List (List Rg)} (h:Dyn w n0 cs vs rgs) (hi:i<cs.length):∃ A cap d,vAt vs i=.slice A (rgAt rgs i).length cap∧w.heap[cAt cs i]? = some (.cells #[.slice A (rgAt rgs i).length cap,.int .i64 d] 144 (0,0))∧RRow w A (rgAt rgs i):=by
 obtain ⟨d,hd⟩:=h.blk i hi
 obtain ⟨A,cap,e⟩:=Kd.R_slice (h.row i hi)
 have hr:=h.row i hi
 rw [e] at hd hr
 exact ⟨A,cap,d,e,hd,rrow_of_R hr⟩
theorem cell_up {w:World} {a:Addr} {v:Value} (h:w.cell? a=some v) (o:Obj):(w.alloc o).cell? a=some v:=((below_alloc (Below.refl _ w) o).cell (World.block_lt_of_cell? w _ h)).trans h
theorem cor_push [Ghost] {w w1:World} {S:Nat→Prop} {n0 sb ob mb i:Nat} {lv cv v1:Value} {hs:List Hd} {cs:List Nat} {o:Lm.Op} {vs:List Value} {rgs:List (List Rg)} {run:List Int} {r:Rg} (h:Cor w S n0 sb ob mb lv cv hs cs o rgs run) (hd:Dyn w n0 cs vs rgs) (hi:i<cs.length)
  (hr:kR.R 126 w1 n0 (fun _=>True) v1 (rgAt rgs i++[r])) (hg:w.grownBy w1 (vAt vs i).ownBlock) (hat:v1.ownBlock=(vAt vs i).ownBlock∨∃ b,v1.ownBlock=some b∧w.heap.size≤b) :
  Cor (w1.setCell ⟨cAt cs i,0,none⟩ v1) S n0 sb ob mb lv cv hs cs o (pushR rgs i r) run∧Dyn (w1.setCell ⟨cAt cs i,0,none⟩ v1) n0 cs (vs.set i v1) (pushR rgs i r)∧∀ G,KeepC w (w1.setCell ⟨cAt cs i,0,none⟩ v1) G:=by
 have hD:=hd.push hi hr hg hat
 obtain ⟨d,hb⟩:=hd.blk i hi
 have far:∀ b,b<w.heap.size→(vAt vs i).ownBlock≠some b→b≠cAt cs i→(w1.setCell ⟨cAt cs i,0,none⟩ v1).heap[b]? = w.heap[b]?:=fun b hl hne hc =>
  (Below.heap_setCell w1 ⟨cAt cs i,0,none⟩ v1 b hc).trans (hg.block b hl (fun e=>hne e.symm))
 have own_ge:∀ k,(vAt vs i).ownBlock=some k→n0≤k:=fun k hk=>Kd.R_base (hd.row i hi) k hk
 have own_ty:∀ k,(vAt vs i).ownBlock=some k→∃ cs,w.heap[k]? = some (Obj.cells cs 126 (0,0)):=fun k hk=>own_cell (hd.row i hi) hk
 obtain ⟨es,ck,m1,m2,m3⟩:=h.mp
 have sz:w.heap.size≤(w1.setCell ⟨cAt cs i,0,none⟩ v1).heap.size:=by simpa using hg.size
 have hmb:(w1.setCell ⟨cAt cs i,0,none⟩ v1).heap[mb]? = w.heap[mb]?:=by
  refine far mb (blk_lt m1) (fun e=>?_) (fun e=>?_)
  ·have:=own_ge mb e
   have:=h.ml
   omega
  ·rw [e,hb] at m1
   injection m1 with m1
   cases m1
 have hS:∀ b,S b→(w1.setCell ⟨cAt cs i,0,none⟩ v1).heap[b]? = w.heap[b]?:=fun b hb2=>by
  have hlt:=h.lt b hb2
  refine far b (Nat.lt_of_lt_of_le hlt h.nb) (fun e=>?_) (fun e=>(h.nc i hi).1 (e ▸ hb2))
  have:=own_ge b e
  omega
 refine ⟨⟨h.st.move hS,Nat.le_trans h.nb sz,h.lt,h.nm,h.ml,h.nc,⟨_,hD⟩,⟨es,ck,hmb.trans m1,m2,m3⟩,fun b hb=>(hS b hb).trans (h.ke b hb)⟩,hD,fun G=>⟨((Below.refl 0 w).grown hg (Nat.zero_le _) (fun _ _=>Nat.zero_le _)).setCell (Nat.zero_le _) _,fun b arr t hbb ht _=>?_⟩⟩
 refine far b (blk_lt hbb) (fun e=>?_) (fun e=>?_)
 ·obtain ⟨cs2,hc2⟩:=own_ty b e
  rw [hbb] at hc2
  injection hc2 with hc2
  injection hc2 with _ e _
  subst e
  exact ht (by decide)
 ·rw [e,hb] at hbb
  injection hbb with hbb
  injection hbb with _ e _
  subst e
  exact ht (by decide)
theorem cor_size [Ghost] {w:World} {S:Nat→Prop} {n0 sb ob mb i:Nat} {lv cv:Value} {hs:List Hd} {cs:List Nat} {o:Lm.Op} {vs:List Value} {rgs:List (List Rg)} {run:List Int} (h:Cor w S n0 sb ob mb lv cv hs cs o rgs run) (hd:Dyn w n0 cs vs rgs) (hi:i<cs.length) (x:Int) :
  Cor (w.setCell ⟨cAt cs i,1,none⟩ (.int .i64 x)) S n0 sb ob mb lv cv hs cs o rgs run∧Dyn (w.setCell ⟨cAt cs i,1,none⟩ (.int .i64 x)) n0 cs vs rgs∧∀ G,KeepC w (w.setCell ⟨cAt cs i,1,none⟩ (.int .i64 x)) G:=by
 have hD:=hd.size hi x
 obtain ⟨d,hb⟩:=hd.blk i hi
 have far:∀ b,b≠cAt cs i→(w.setCell ⟨cAt cs i,1,none⟩ (.int .i64 x)).heap[b]? = w.heap[b]?:=fun b hc=>Below.heap_setCell w ⟨cAt cs i,1,none⟩ _ b hc
 obtain ⟨es,ck,m1,m2,m3⟩:=h.mp
 have hmb:=far mb (fun e=>by rw [e,hb] at m1;injection m1 with m1;cases m1)
 refine ⟨⟨h.st.move (fun b hb2=>far b (fun e=>(h.nc i hi).1 (e ▸ hb2))),by simpa using h.nb,h.lt,h.nm,h.ml,h.nc,⟨_,hD⟩,⟨es,ck,hmb.trans m1,m2,m3⟩,fun b hb2=>(far b (fun e=>(h.nc i hi).1 (e ▸ hb2))).trans (h.ke b hb2)⟩,hD,fun G=>⟨(Below.refl 0 w).setCell (Nat.zero_le _) _,fun b arr t hbb ht _=>far b (fun e=>?_)⟩⟩
 rw [e,hb] at hbb
 injection hbb with hbb
 injection hbb with _ e _
 subst e
 exact ht (by decide)
theorem kg_cell {w w1:World} {v:Value} (kg:∀ k2,k2<w.heap.size→v.ownBlock≠some k2→w1.heap[k2]? = w.heap[k2]?) {a:Addr} {u:Value} (h:w.cell? a=some u) (hne:v.ownBlock≠some a.block):w1.cell? a=some u:=by
 have e:=kg a.block (World.block_lt_of_cell? w _ h) hne
 simpa [World.cell?,e] using h
theorem not_own {w:World} {b t k:Nat} {v:Value} {xs:List Rg} {arr:Array Value} (h:kR.R 126 w b (fun _=>True) v xs) (hk:w.heap[k]? = some (.cells arr t (0,0))) (ht:t≠126):v.ownBlock≠some k:=fun e=>by
 obtain ⟨cs,hc⟩:=own_cell h e
 rw [hk] at hc
 injection hc with hc
 injection hc with _ e _
 exact ht e
section
variable {ops:Array Oper} {rest:List Oper} {o:Oper} {a:Act} {Q:Exit→Act→World→Prop}
theorem app_op {W:World} {base m c:Nat} {v:Value} {ps qs:List Nat} {A:Option Addr} (hgd:o.guard=none) (s x:Operand) (ho:o.op=.call { callee:=.builtin .append,args:=#[s,x],argTypes:=#[124,124] }) (hs:a.eval s=v) (hx:a.eval x=.slice A m c)
  (HO:ptrK.R 140 W base (fun _=>True) v ps) (hp:0<ps.length) (HR:ptrK.C W A m qs) (hl:ps.length+qs.length≤1000000000) (hbase:base≤W.heap.size)
  (h:∀ v1 w1,ptrK.R 140 w1 base (fun _=>True) v1 (ps++qs)→W.grownBy w1 v.ownBlock→ptrK.R 140 w1 base (fun _=>True) v ps→(v1.ownBlock=v.ownBlock∨v1.ownBlock=some W.heap.size)→wpList Tryz.prog ops Q rest (a.put o.dst v1) w1):wpList Tryz.prog ops Q (o :: rest) a W:=by
 obtain ⟨v1,w1,hr,h1,h2,h3,h4⟩:=app_run (c:=c) o.type HO hp HR hl hbase
 refine wpList_plain hgd fun K hK=>?_
 unfold Oper.wp execOp
 simp only [ho,resolve,invoke,builtin,Sem.run_bind,Sem.run_pure,Result.andThen_ok,List.map_toArray,List.map_cons,List.map_nil,hs,hx,hr]
 exact hK _ _ (h v1 w1 h1 h2 h3 h4)
end
theorem cor_grown [Ghost] {w w1:World} {S:Nat→Prop} {n0 sb ob mb:Nat} {lv cv v:Value} {hs:List Hd} {cs:List Nat} {o:Lm.Op} {rgs:List (List Rg)} {run:List Int} {ps:List Nat} (h:Cor w S n0 sb ob mb lv cv hs cs o rgs run) (hr:ptrK.R 140 w n0 (fun _=>True) v ps) (hg:w.grownBy w1 v.ownBlock):Cor w1 S n0 sb ob mb lv cv hs cs o rgs run∧KeepC w w1 v.ownBlock:=by
 have own_ge:∀ k,v.ownBlock=some k→n0≤k:=fun k hk=>Kd.R_base hr k hk
 have own_ty:∀ k,v.ownBlock=some k→∃ cs,w.heap[k]? = some (Obj.cells cs 140 (0,0)):=fun k hk=>Kd.R_typed hr k hk
 refine ⟨h.move (fun b hb=>hg.block b (Nat.lt_of_lt_of_le (h.lt b hb) h.nb) (fun e=>?_)) (fun b arr t hb ht=>hg.block b (blk_lt hb) (fun e=>?_)) (hg.block mb (Nat.lt_of_lt_of_le h.ml h.nb) (fun e=>?_)) hg.size,(Below.refl 0 w).grown hg (Nat.zero_le _) (fun _ _=>Nat.zero_le _),fun b arr t hb ht hne=>hg.block b (blk_lt hb) (fun e=>hne e.symm)⟩
 ·have:=own_ge b e.symm
  have:=h.lt b hb
  omega
 ·obtain ⟨cs2,hc2⟩:=own_ty b e.symm
  rw [hb] at hc2
  injection hc2 with hc2
  injection hc2 with _ e _
  subst e
  exact absurd ht (by decide)
 ·have:=own_ge mb e.symm
  have:=h.ml
  omega
theorem below_setO (w:World) (r:Nat) (o:Obj):Below 0 w (setO w.drew r o):=⟨rfl,rfl,rfl,by simp [setO],fun k hk=>absurd hk (Nat.not_lt_zero _)⟩
theorem cor_store [Ghost] {w:World} {S:Nat→Prop} {n0 sb ob mb ck:Nat} {lv cv:Value} {hs:List Hd} {cs:List Nat} {o:Lm.Op} {rgs:List (List Rg)} {run:List Int} {es:List Ent} (h:Cor w S n0 sb ob mb lv cv hs cs o rgs run) (k:Int) (hm:w.heap[mb]? = some (.map (rawM .u64 es) ck)) (he:es.map (·.1)=run) (hv:∀ x∈es,x.2.1=.agg #[]) :
  Cor (setO w mb (.map (rawM .u64 (storedE k (.agg #[]) ck es)) (clockE k ck es))) S n0 sb ob mb lv cv hs cs o rgs (putR run k)∧∀ b,b≠mb→(setO w mb (.map (rawM .u64 (storedE k (.agg #[]) ck es)) (clockE k ck es))).heap[b]? = w.heap[b]?:=by
 have far:∀ b,b≠mb→(setO w mb (.map (rawM .u64 (storedE k (.agg #[]) ck es)) (clockE k ck es))).heap[b]? = w.heap[b]?:=fun b hb=>setO_far w _ hb
 obtain ⟨vs,hd⟩:=h.dy
 refine ⟨⟨h.st.move (fun b hb=>far b (fun e=>h.nm (e ▸ hb))),?_,h.lt,h.nm,h.ml,h.nc,⟨vs,hd.move (fun b arr t hb _=>far b (fun e=>?_))⟩,by rw [← he];exact MapAt.store k hm hv,fun b hb=>(far b (fun e=>h.nm (e ▸ hb))).trans (h.ke b hb)⟩,far⟩
 ·have:=h.nb
  simpa [setO] using this
 ·rw [e,hm] at hb
  injection hb with hb
  cases hb
/-- A row of pointers in a later world. -/
theorem ptr_frame {w w1:World} {b:Nat} {v:Value} {ps:List Nat} (h:ptrK.R 140 w b (fun _=>True) v ps) (hk:∀ k,k<w.heap.size→v.ownBlock=some k→w1.heap[k]? = w.heap[k]?):ptrK.R 140 w1 b (fun _=>True) v ps:=
 Kd.R_mono (Kd.R_step (Kd.R_tight rfl h) (fun k hk2 hl=>hk k hl hk2.symm)) (fun _ _=>trivial)
theorem ptr_keep {w w1:World} {b:Nat} {v:Value} {ps:List Nat} {G:Option Nat} (h:ptrK.R 140 w b (fun _=>True) v ps) (hk:KeepC w w1 G) (hG:∀ k,v.ownBlock=some k→G≠some k):ptrK.R 140 w1 b (fun _=>True) v ps:=
 ptr_frame h (fun k _ e=>by
  obtain ⟨cs,hc⟩:=Kd.R_typed h k e
  exact hk.2 k cs 140 hc (by decide) (hG k e))
theorem tabs_move {w w1:World} {ps:List Nat} {ts:List Tb} (h:Ls.Tabs w ps ts) (hk:∀ (b:Nat) (arr:Array Value) (t:Nat),w.heap[b]? = some (.cells arr t (0,0))→t=98∨t=5→w1.heap[b]? = w.heap[b]?):Ls.Tabs w1 ps ts:=⟨h.1,fun i p t h1 h2=>by
 obtain ⟨b,c,e1,e2,e3⟩:=h.2 i p t h1 h2
 exact ⟨b,c,(hk _ _ _ e1 (.inl rfl)).trans e1,(hk _ _ _ e2 (.inr rfl)).trans e2,(hk _ _ _ e3 (.inr rfl)).trans e3⟩⟩
theorem tabs_append {w:World} {ps qs:List Nat} {ts us:List Tb} (h:Ls.Tabs w ps ts) (k:Ls.Tabs w qs us):Ls.Tabs w (ps++qs) (ts++us):=⟨by rw [List.length_append,List.length_append,h.1,k.1],fun i p t h1 h2=>by
 rw [List.getElem?_append] at h1 h2
 rw [← h.1] at h2
 split at h1
 ·rename_i hi
  rw [if_pos hi] at h2
  exact h.2 i p t h1 h2
 ·rename_i hi
  rw [if_neg hi] at h2
  exact k.2 _ p t h1 h2⟩
set_option maxRecDepth 100000 in
set_option maxHeartbeats 8000000 in
theorem caa_calls [Ghost] {w:World} {S:Nat→Prop} {n0 sb ob mb nlb:Nat} {lv cv:Value} {hs:List Hd} {cs:List Nat} {o:Lm.Op} {rgs:List (List Rg)} {run:List Int} {c:Cd} {i k:Nat} {tops bots:List Nat} {tt bt:List Tb}
  (h:Cor w S n0 sb ob mb lv cv hs cs o rgs run) (hc:CdOk w n0 c tops bots tt bt nlb) (hi:i<cs.length) (hk:k<cs.length) (ti:w.cell? ⟨c.tl,3,none⟩=some (.int .i64 (i:Int))) (tk:w.cell? ⟨nlb,3,none⟩=some (.int .i64 (k:Int))) (hl:cs.length≤1000) (hr:RgsOk rgs) :
  Calls Tryz.prog 98 #[.pointer (some ⟨sb,2,none⟩),.agg #[],.agg (cdC c)] w fun e w' =>
   if hitR rgs i c.r1 || hitR rgs k c.r2 then e=.returned (.bool false)∧Below w.heap.size w w'
   else e=.returned (.bool true)∧Cor w' S n0 sb ob mb lv cv hs cs o (pushR (pushR rgs i c.r1) k c.r2) ((tt++bt).foldl (fun r t=>putR r t.num) run)∧ptrK.R 140 w' n0 (fun _=>True) (.slice c.pA c.pn c.pc) tops∧KeepC w w' (Value.slice c.pA c.pn c.pc).ownBlock:=by
 obtain ⟨Q,hQ⟩ : ∃ Q:Ending→World→Prop,Q=fun e w' =>
   if hitR rgs i c.r1 || hitR rgs k c.r2 then e=.returned (.bool false)∧Below w.heap.size w w'
   else e=.returned (.bool true)∧Cor w' S n0 sb ob mb lv cv hs cs o (pushR (pushR rgs i c.r1) k c.r2) ((tt++bt).foldl (fun r t=>putR r t.num) run)∧ptrK.R 140 w' n0 (fun _=>True) (.slice c.pA c.pn c.pc) tops∧KeepC w w' (Value.slice c.pA c.pn c.pc).ownBlock:=⟨_,rfl⟩
 rw [← hQ]
 have HQ:=hid hQ
 have H0:=hid h
 have HC:=hid hc
 have HR:=hid hr
 have HIK:=hid (show i<cs.length∧k<cs.length∧cs.length≤1000 from ⟨hi,hk,hl⟩)
 have enl:=hc.enl
 clear h hc hr hQ hi hk hl
 obtain ⟨id,bl,tA,tn,tc,fA,fn,fc,lv0,sc,tl,nl,pA,pn,pc,qA,qn,qc,a1,b1,r1,a2,b2,r2,sA,sn,ss,sz⟩:=c
 simp only at ti enl HQ
 subst enl
 unfold cdC
 simp only
 go_enter Tryz.func98,Tryz.ntmps98
 go_upto_region 1 with (fail)
 obtain ⟨w1,hw1⟩ : ∃ w1,w1=(w.alloc (.cells #[] 162)).alloc (.cells #[.int .i64 id,.int .i64 bl,.slice tA tn tc,.slice fA fn fc,.int .i64 lv0,.float .f64 sc,.float .f64 sc,.slice none 0 0,.int .i64 bl,.slice tA tn tc,.slice fA fn fc,.pointer (some ⟨tl,0,none⟩),.pointer (some ⟨nlb,0,none⟩),.slice pA pn pc,.slice qA qn qc,.slice a1 r1.lo.length r1.lo.length,.slice b1 r1.hi.length r1.hi.length,.bool r1.inf,.int .i64 0,.slice a2 r2.lo.length r2.lo.length,.slice b2 r2.hi.length r2.hi.length,.bool r2.inf,.int .i64 0,.slice sA sn ss,.int .i64 sz,.slice none 0 0] 129):=⟨_,rfl⟩
 rw [← hw1]
 obtain ⟨kb,hkb⟩ : ∃ b,b=w.heap.size+1:=⟨_,rfl⟩
 rw [← hkb]
 have s1:(w.alloc (.cells #[] 162)).heap.size=kb:=by rw [Nw.szA];omega
 have HB1:=hid (show Below w.heap.size w w1 by rw [hw1];exact below_alloc (below_alloc (Below.refl _ _) _) _)
 have HX:=hid (show w1.heap[kb]? = some (.cells #[.int .i64 id,.int .i64 bl,.slice tA tn tc,.slice fA fn fc,.int .i64 lv0,.float .f64 sc,.float .f64 sc,.slice none 0 0,.int .i64 bl,.slice tA tn tc,.slice fA fn fc,.pointer (some ⟨tl,0,none⟩),.pointer (some ⟨nlb,0,none⟩),.slice pA pn pc,.slice qA qn qc,.slice a1 r1.lo.length r1.lo.length,.slice b1 r1.hi.length r1.hi.length,.bool r1.inf,.int .i64 0,.slice a2 r2.lo.length r2.lo.length,.slice b2 r2.hi.length r2.hi.length,.bool r2.inf,.int .i64 0,.slice sA sn ss,.int .i64 sz,.slice none 0 0] 129 (0,0)) by rw [hw1,← s1];exact blk_new _ _)
 clear hw1 hkb s1
 have H1:=hid (H0.out.below HB1.out)
 obtain ⟨g,cc,ecv,hgc,hsb2,hsb3⟩:=cor_c H1.out (by have:=HIK.out;omega)
 subst ecv
 have HGC:=hid hgc
 have ci:=hgc i HIK.out.1
 have ck:=hgc k HIK.out.2.1
 simp only [ptr] at ci ck
 have ti1:=(HB1.out.cell (World.block_lt_of_cell? w _ ti)).trans ti
 have tk1:=(HB1.out.cell (World.block_lt_of_cell? w _ tk)).trans tk
 have d1:decide ((i:Int)<(cs.length:Int))=true:=decide_eq_true (by have:=HIK.out;omega)
 have d2:decide ((k:Int)<(cs.length:Int))=true:=decide_eq_true (by have:=HIK.out;omega)
 have d3:decide (i<cs.length)=true:=decide_eq_true HIK.out.1
 have d4:decide (k<cs.length)=true:=decide_eq_true HIK.out.2.1
 have bi:i<cs.length:=HIK.out.1
 have bk:k<cs.length:=HIK.out.2.1
 have m11:=blk_cell HX.out 11
 have m12:=blk_cell HX.out 12
 have KA:=hid (assertTrue_calls w1)
 clear ti tk hgc
 go_wp2_with (first | (go_at_call 87;refine KA.out.mono ?_;rintro e w' ⟨rfl,rfl⟩))
 go_quiet (fail)
 generalize nq=n1 at *
 go_wp2_with fail
 go_quiet (fail)
 go_upto_region 5 with (fail)
 obtain ⟨w2,hw2⟩ : ∃ w2,w2=(w1.drewN n1).drewN nq:=⟨_,rfl⟩
 rw [← hw2]
 have HB2:=hid (show Below w.heap.size w w2 by rw [hw2];exact pw_below_drewN (pw_below_drewN HB1.out _) _)
 have HX2:=hid (show w2.heap[kb]? = some (.cells #[.int .i64 id,.int .i64 bl,.slice tA tn tc,.slice fA fn fc,.int .i64 lv0,.float .f64 sc,.float .f64 sc,.slice none 0 0,.int .i64 bl,.slice tA tn tc,.slice fA fn fc,.pointer (some ⟨tl,0,none⟩),.pointer (some ⟨nlb,0,none⟩),.slice pA pn pc,.slice qA qn qc,.slice a1 r1.lo.length r1.lo.length,.slice b1 r1.hi.length r1.hi.length,.bool r1.inf,.int .i64 0,.slice a2 r2.lo.length r2.lo.length,.slice b2 r2.hi.length r2.hi.length,.bool r2.inf,.int .i64 0,.slice sA sn ss,.int .i64 sz,.slice none 0 0] 129 (0,0)) by rw [hw2];exact HX.out)
 clear hw2 hsb2 ci ck ti1 tk1 m11 m12 d1 d2 d3 d4 KA HX HB1
 have H2:=hid (H0.out.below HB2.out)
 obtain ⟨vs,hdy⟩:=H2.out.dy
 have HD:=hid hdy
 obtain ⟨Ai,capi,di,evi,hbi,hri⟩:=dyn_row hdy bi
 have hirg:i<rgs.length:=by rw [hdy.lr];exact bi
 have hkrg:k<rgs.length:=by rw [hdy.lr];exact bk
 have K1:=hid (lovl_calls (A2:=a1) (B2:=b1) (d:=r1) hbi hri (by have:=(rgAt_ok HR.out hirg).1;omega) (rgAt_ok HR.out hirg).2 ((HC.out.k1.mono (fun _ _ _ _=>trivial)).below HB2.out) ((HC.out.k2.mono (fun _ _ _ _=>trivial)).below HB2.out) HC.out.o1)
 clear hbi hri hdy
 have m15:=blk_cell HX2.out 15
 have m16:=blk_cell HX2.out 16
 have m17:=blk_cell HX2.out 17
 have m18:=blk_cell HX2.out 18
 obtain ⟨x1,hx1⟩ : ∃ x,x=hitR rgs i r1:=⟨_,rfl⟩
 obtain ⟨x2,hx2⟩ : ∃ x,x=hitR rgs k r2:=⟨_,rfl⟩
 rw [← hx1,← hx2] at HQ
 rw [show ((rgAt rgs i).any fun r=>ovR r r1)=x1 from hx1.symm] at K1
 have HX1:=hid hx1
 have HXX:=hid hx2
 clear hx1 hx2
 simp only [rgC] at K1
 go_wp2_with fail
 refine K1.out.mono ?_
 rintro e w3 ⟨rfl,hb3⟩
 have HB3:=hid (below_step HB2.out hb3)
 have HX3:=hid ((hb3.block _ (blk_lt HX2.out)).trans HX2.out)
 clear hb3 m15 m16 m17 m18 K1 HX2 evi HD vs Ai capi di
 cases x1 with
 | true =>
  go_wp2_with fail
  rw [HQ.out]
  exact ⟨rfl,HB3.out⟩
 | false =>
  have H3:=hid (H0.out.below HB3.out)
  obtain ⟨vs,hdy⟩:=H3.out.dy
  obtain ⟨Ak,capk,dk,evk,hbk,hrk⟩:=dyn_row hdy bk
  have K2:=hid (lovl_calls (A2:=a2) (B2:=b2) (d:=r2) hbk hrk (by have:=(rgAt_ok HR.out hkrg).1;omega) (rgAt_ok HR.out hkrg).2 ((HC.out.k3.mono (fun _ _ _ _=>trivial)).below HB3.out) ((HC.out.k4.mono (fun _ _ _ _=>trivial)).below HB3.out) HC.out.o2)
  clear hbk hrk hdy evk Ak capk dk vs
  rw [show ((rgAt rgs k).any fun r=>ovR r r2)=x2 from HXX.out.symm] at K2
  have m19:=blk_cell HX3.out 19
  have m20:=blk_cell HX3.out 20
  have m21:=blk_cell HX3.out 21
  have m22:=blk_cell HX3.out 22
  simp only [rgC] at K2
  go_wp2_with fail
  refine K2.out.mono ?_
  rintro e w4 ⟨rfl,hb4⟩
  have HB4:=hid (below_step HB3.out hb4)
  have HX4:=hid ((hb4.block _ (blk_lt HX3.out)).trans HX3.out)
  clear hb4 m19 m20 m21 m22 K2 HX3 H3
  cases x2 with
  | true =>
   go_wp2_with fail
   rw [HQ.out]
   exact ⟨rfl,HB4.out⟩
  | false =>
   have H4:=hid (H0.out.below HB4.out)
   obtain ⟨vs,hdy⟩:=H4.out.dy
   have HD:=hid hdy
   obtain ⟨Ai,capi,di,evi,hbi,hri⟩:=dyn_row hdy bi
   have HBI:=hid hbi
   have HEV:=hid evi
   clear hbi hri hdy evi
   have HROW:=hid (show kR.R 126 w4 n0 (fun _=>True) (.slice Ai (rgAt rgs i).length capi) (rgAt rgs i) by have h:=HD.out.row i bi;rwa [HEV.out] at h)
   have HNO:=hid (show ∀ k2,(∃ x,w4.heap[k2]? = some (keyO x))→some k2≠(Value.slice Ai (rgAt rgs i).length capi).ownBlock from fun k2 ⟨x,hx⟩ e=>not_own HROW.out hx (by decide) e.symm)
   have HOC:=hid (not_own HROW.out HBI.out (by decide))
   have HOK:=hid (not_own HROW.out HX4.out (by decide))
   have HN0:=hid (show n0≤w4.drew.heap.size from H4.out.nb)
   have HLN:=hid (show ((rgAt rgs i).length+1)*64≤140737488355328 by have:=(rgAt_ok HR.out hirg).1;omega)
   have HM:=hid (show kR.M w4.drew n0 (fun k=>∃ x,w4.heap[k]? = some (keyO x)) r1 (rgC a1 b1 r1) from ⟨⟨a1,b1,rfl,(KB.below (w1:=w4.drew) HC.out.k1 (below_drew HB4.out)).mono (fun k _ _ hk=>⟨_,hk⟩),(KB.below (w1:=w4.drew) HC.out.k2 (below_drew HB4.out)).mono (fun k _ _ hk=>⟨_,hk⟩)⟩,a1,b1,rfl,KB.below (w1:=w4.drew) HC.out.k1 (below_drew HB4.out),KB.below (w1:=w4.drew) HC.out.k2 (below_drew HB4.out)⟩)
   have u0:=blk_cell HBI.out 0
   have u1:=blk_cell HX4.out 15
   have u2:=blk_cell HX4.out 16
   have u3:=blk_cell HX4.out 17
   have u4:=blk_cell HX4.out 18
   go_upto_region 9 with (fail)
   refine start_ (n:=12) (S:=fun w'=>w'.cell? ⟨cAt cs i,0,none⟩=some (.slice Ai (rgAt rgs i).length capi)∧w'.cell? ⟨kb,15,none⟩=some (.slice a1 r1.lo.length r1.lo.length)∧w'.cell? ⟨kb,16,none⟩=some (.slice b1 r1.hi.length r1.hi.length)∧w'.cell? ⟨kb,17,none⟩=some (.bool r1.inf)∧w'.cell? ⟨kb,18,none⟩=some (.int .i64 0)) (ds:=[11]) #[false,false,false,false,false,false,false,false,false,false,false,false] (by kernel_rfl) rfl rfl ⟨u0,u1,u2,u3,u4⟩ (fun hHeld=>?_)
   refine pure_ (i:=0) (N:=some 55) (v:=?_) (a':=?_) #[true,false,false,false,false,false,false,false,false,false,false,false] rfl rfl (by kernel_rfl) (fun _ _ _ h=>h) (Or.inl ⟨by rfl,?_⟩) ?_ ?_
   rotate_left
   ·intro w'
    go_simp
    with_reducible rfl
   rotate_left
   ·simp only [Act.put,zA,zB,zC,i64_w,i32_w]
    rfl
   refine pure_ (i:=1) (N:=some 56) (v:=?_) (a':=?_) #[true,true,false,false,false,false,false,false,false,false,false,false] rfl rfl (by kernel_rfl) (fun _ _ _ h=>h) (Or.inl ⟨by rfl,?_⟩) ?_ ?_
   rotate_left
   ·intro w'
    go_simp
    with_reducible rfl
   rotate_left
   ·simp only [Act.put,zA,zB,zC,i64_w,i32_w]
    rfl
   refine pure_ (i:=2) (N:=some 57) (v:=?_) (a':=?_) #[true,true,true,false,false,false,false,false,false,false,false,false] rfl rfl (by kernel_rfl) (fun _ _ _ h=>h) (Or.inl ⟨by rfl,?_⟩) ?_ ?_
   rotate_left
   ·intro w'
    go_simp
    with_reducible rfl
   rotate_left
   ·simp only [Act.put,zA,zB,zC,i64_w,i32_w]
    rfl
   refine pure_ (i:=3) (N:=some 58) (v:=?_) (a':=?_) #[true,true,true,true,false,false,false,false,false,false,false,false] rfl rfl (by kernel_rfl) (fun _ _ _ h=>h) (Or.inl ⟨by rfl,?_⟩) ?_ ?_
   rotate_left
   ·intro w'
    go_simp
    with_reducible rfl
   rotate_left
   ·simp only [Act.put,zA,zB,zC,i64_w,i32_w]
    rfl
   refine pure_ (i:=5) (N:=some 60) (v:=?_) (a':=?_) #[true,true,true,true,false,true,false,false,false,false,false,false] rfl rfl (by kernel_rfl) (fun _ _ _ h=>h) (Or.inl ⟨by rfl,?_⟩) ?_ ?_
   rotate_left
   ·intro w'
    go_simp
    with_reducible rfl
   rotate_left
   ·simp only [Act.put,zA,zB,zC,i64_w,i32_w]
    rfl
   refine take_ (i:=4) (N:=some 59) (v:=?_) (a':=?_) #[true,true,true,true,true,true,false,false,false,false,false,false] rfl rfl (by kernel_rfl) (fun _ _ _ h=>h) (Or.inl ⟨by rfl,?_⟩) hHeld ?_ ?_
   rotate_left
   ·rintro w' ⟨s0,s1,s2,s3,s4⟩
    go_simp
    with_reducible rfl
   rotate_left
   ·simp only [Act.put,zA,zB,zC,i64_w,i32_w]
    rfl
   refine take_ (i:=6) (N:=some 61) (v:=?_) (a':=?_) #[true,true,true,true,true,true,true,false,false,false,false,false] rfl rfl (by kernel_rfl) (fun _ _ _ h=>h) (Or.inl ⟨by rfl,?_⟩) hHeld ?_ ?_
   rotate_left
   ·rintro w' ⟨s0,s1,s2,s3,s4⟩
    go_simp
    with_reducible rfl
   rotate_left
   ·simp only [Act.put,zA,zB,zC,i64_w,i32_w]
    rfl
   refine one_ (i:=7) (N:=some 62) #[true,true,true,true,true,true,true,true,false,false,false,false] rfl rfl (by kernel_rfl) (by decide) (fun K hK=>?_)
   refine value_ (w1:=?_) (v:=?_) (by rfl) rfl ?_ ?_
   rotate_left 2
   ·go_simp
    constructor
    ·rfl
    ·rfl
   refine hK.out _ _ ⟨cell_up (w:=w4.drew) u0 _,cell_up (w:=w4.drew) u1 _,cell_up (w:=w4.drew) u2 _,cell_up (w:=w4.drew) u3 _,cell_up (w:=w4.drew) u4 _⟩ (fun hHeld=>?_)
   clear hK K
   refine norm_ (a':=?_) ?_ ?_
   rotate_left
   ·show Act.put _ (some 62) _=_
    simp only [Act.put,zA,zB,zC,i64_w,i32_w]
    rfl
   refine one_ (i:=8) (N:=some 63) #[true,true,true,true,true,true,true,true,true,false,false,false] rfl rfl (by kernel_rfl) (by decide) (fun K hK=>?_)
   refine Kd.R_append_step kR (w0:=w4) (W:=w4.drew) n0 (by rfl) (.tmp 59) (.tmp 62) 127 126 (.agg #[.slice none 0 0,.slice none 0 0,.bool false,.int .i64 0]) 64 (by rfl) Tryz.underlying127 info126 rfl (by decide) (by decide) (.slice Ai (rgAt rgs i).length capi) (rgAt rgs i) r1 (rgC a1 b1 r1) (fun _=>True) (fun k=>∃ x,w4.heap[k]? = some (keyO x)) rfl rfl HM.out (fun k hk=>⟨trivial,HNO.out k hk⟩) (fun _ _=>trivial) (Kd.R_drew HROW.out) ((Below.refl n0 w4).drew) HN0.out HLN.out ?_
   intro v1 w1 hr1 hb1 hg1 hn1
   obtain ⟨n7,A7,c7,rfl⟩ : ∃ n A c,v1=.slice A n c:=(by obtain ⟨A,c,e⟩:=Kd.R_slice hr1;exact ⟨_,A,c,e⟩)
   have kg:∀ k2,k2<w4.heap.size→(Value.slice Ai (rgAt rgs i).length capi).ownBlock≠some k2→w1.heap[k2]? = w4.heap[k2]?:=fun k2 hl2 hn2=>hg1.block k2 hl2 (fun e=>hn2 e.symm)
   have u0':=kg_cell kg u0 HOC.out
   have u1':=kg_cell kg u1 HOK.out
   have u2':=kg_cell kg u2 HOK.out
   have u3':=kg_cell kg u3 HOK.out
   have u4':=kg_cell kg u4 HOK.out
   have u0f:=blk_frozen ((kg _ (blk_lt HBI.out) HOC.out).trans HBI.out) 0
   refine hK.out _ _ ⟨u0',u1',u2',u3',u4'⟩ (fun hHeld=>?_)
   clear hK K
   refine norm_ (a':=?_) ?_ ?_
   rotate_left
   ·show Act.put _ (some 63) _=_
    simp only [Act.put,zA,zB,zC,i64_w,i32_w]
    rfl
   refine pure_ (i:=9) (N:=some 64) (v:=?_) (a':=?_) #[true,true,true,true,true,true,true,true,true,true,false,false] rfl rfl (by kernel_rfl) (fun _ _ _ h=>h) (Or.inl ⟨by rfl,?_⟩) ?_ ?_
   rotate_left
   ·intro w'
    go_simp
    with_reducible rfl
   rotate_left
   ·simp only [Act.put,zA,zB,zC,i64_w,i32_w]
    rfl
   refine pure_ (i:=10) (N:=some 65) (v:=?_) (a':=?_) #[true,true,true,true,true,true,true,true,true,true,true,false] rfl rfl (by kernel_rfl) (fun _ _ _ h=>h) (Or.inl ⟨by rfl,?_⟩) ?_ ?_
   rotate_left
   ·intro w'
    go_simp
    with_reducible rfl
   rotate_left
   ·simp only [Act.put,zA,zB,zC,i64_w,i32_w]
    rfl
   refine last_ (i:=11) (N:=none) #[true,true,true,true,true,true,true,true,true,true,true,true] rfl rfl (by kernel_rfl) (by decide) (fun K hK=>?_)
   refine skip_ (w1:=?_) (by rfl) rfl ?_ ?_
   rotate_left
   ·go_simp
    rfl
   refine hK.out _ _ ?_
   clear hK K
   refine done_ (by kernel_rfl) ?_
   clear hHeld u0 u1 u2 u3 u4 u0' u1' u2' u3' u4' u0f kg
   obtain ⟨PC,PD,PK⟩:=cor_push (w:=w4.drew) (r:=r1) (H4.out.below (below_drew (Below.refl _ _))) (HD.out.move (fun _ _ _ _ _=>rfl)) bi hr1 (by rw [HEV.out];exact hg1) (by rw [HEV.out];exact hn1)
   obtain ⟨w5,hw5⟩ : ∃ w5,w5=w1.setCell ⟨cAt cs i,0,none⟩ (.slice A7 n7 c7):=⟨_,rfl⟩
   rw [← hw5] at PC PD PK
   rw [← hw5]
   have H5:=hid PC
   have HD5:=hid PD
   have HK5:=hid (show ∀ G,KeepC w w5 G from fun G=>KeepC.trans (w1:=w4.drew) (keepC_below (below_drew HB4.out) G) (PK G))
   have HX5:=hid (((PK none).2 kb _ _ HX4.out (by decide) (by simp)).trans HX4.out)
   clear PC PD PK hw5 hr1 hg1 hn1 hb1 HROW HNO HOC HOK HN0 HLN HM HBI HEV HD H4 HX4
   obtain ⟨Ak,capk,dk,evk,hbk,hrk⟩:=dyn_row HD5.out bk
   have HBI:=hid hbk
   have HEV:=hid evk
   clear hbk hrk evk
   have hkey:∀ {A:Option Addr} {x:List UInt8},KB w (fun k=>n0≤k) A x→KB w5.drew (fun k=>n0≤k) A x:=fun {A x} hh=>by
    rcases hh with hh | ⟨b,e,h1,h2⟩
    ·exact .inl hh
    ·exact .inr ⟨b,e,((HK5.out none).2 b _ _ h1 (by decide) (by simp)).trans h1,h2⟩
   have HROW:=hid (show kR.R 126 w5 n0 (fun _=>True) (.slice Ak (rgAt (pushR rgs i r1) k).length capk) (rgAt (pushR rgs i r1) k) by have h:=HD5.out.row k bk;rwa [HEV.out] at h)
   have HNO:=hid (show ∀ k2,(∃ x,w5.heap[k2]? = some (keyO x))→some k2≠(Value.slice Ak (rgAt (pushR rgs i r1) k).length capk).ownBlock from fun k2 ⟨x,hx⟩ e=>not_own HROW.out hx (by decide) e.symm)
   have HOC:=hid (not_own HROW.out HBI.out (by decide))
   have HOK:=hid (not_own HROW.out HX5.out (by decide))
   have HN0:=hid (show n0≤w5.drew.heap.size from H5.out.nb)
   have HLN:=hid (show ((rgAt (pushR rgs i r1) k).length+1)*64≤140737488355328 by
    have h1:=(rgAt_ok HR.out hirg).1
    have h2:=(rgAt_ok HR.out hkrg).1
    have:(rgAt (pushR rgs i r1) k).length≤1000001:=by
     by_cases e:i=k
     ·subst e
      have:rgAt (pushR rgs i r1) i=rgAt rgs i++[r1]:=getD_set_same _ _ _ _ hirg
      rw [this,List.length_append,List.length_singleton]
      omega
     ·have:rgAt (pushR rgs i r1) k=rgAt rgs k:=getD_set_other _ _ _ _ _ e
      rw [this]
      omega
    omega)
   have HM:=hid (show kR.M w5.drew n0 (fun k=>∃ x,w5.heap[k]? = some (keyO x)) r2 (rgC a2 b2 r2) from ⟨⟨a2,b2,rfl,(hkey HC.out.k3).mono (fun k _ _ hk=>⟨_,hk⟩),(hkey HC.out.k4).mono (fun k _ _ hk=>⟨_,hk⟩)⟩,a2,b2,rfl,hkey HC.out.k3,hkey HC.out.k4⟩)
   have u0:=blk_cell HBI.out 0
   have u1:=blk_cell HX5.out 19
   have u2:=blk_cell HX5.out 20
   have u3:=blk_cell HX5.out 21
   have u4:=blk_cell HX5.out 22
   go_upto_region 10 with (fail)
   refine start_ (n:=12) (S:=fun w'=>w'.cell? ⟨cAt cs k,0,none⟩=some (.slice Ak (rgAt (pushR rgs i r1) k).length capk)∧w'.cell? ⟨kb,19,none⟩=some (.slice a2 r2.lo.length r2.lo.length)∧w'.cell? ⟨kb,20,none⟩=some (.slice b2 r2.hi.length r2.hi.length)∧w'.cell? ⟨kb,21,none⟩=some (.bool r2.inf)∧w'.cell? ⟨kb,22,none⟩=some (.int .i64 0)) (ds:=[11]) #[false,false,false,false,false,false,false,false,false,false,false,false] (by kernel_rfl) rfl rfl ⟨u0,u1,u2,u3,u4⟩ (fun hHeld=>?_)
   refine pure_ (i:=0) (N:=some 66) (v:=?_) (a':=?_) #[true,false,false,false,false,false,false,false,false,false,false,false] rfl rfl (by kernel_rfl) (fun _ _ _ h=>h) (Or.inl ⟨by rfl,?_⟩) ?_ ?_
   rotate_left
   ·intro w'
    go_simp
    with_reducible rfl
   rotate_left
   ·simp only [Act.put,zA,zB,zC,i64_w,i32_w]
    rfl
   refine pure_ (i:=1) (N:=some 67) (v:=?_) (a':=?_) #[true,true,false,false,false,false,false,false,false,false,false,false] rfl rfl (by kernel_rfl) (fun _ _ _ h=>h) (Or.inl ⟨by rfl,?_⟩) ?_ ?_
   rotate_left
   ·intro w'
    go_simp
    with_reducible rfl
   rotate_left
   ·simp only [Act.put,zA,zB,zC,i64_w,i32_w]
    rfl
   refine pure_ (i:=2) (N:=some 68) (v:=?_) (a':=?_) #[true,true,true,false,false,false,false,false,false,false,false,false] rfl rfl (by kernel_rfl) (fun _ _ _ h=>h) (Or.inl ⟨by rfl,?_⟩) ?_ ?_
   rotate_left
   ·intro w'
    go_simp
    with_reducible rfl
   rotate_left
   ·simp only [Act.put,zA,zB,zC,i64_w,i32_w]
    rfl
   refine pure_ (i:=3) (N:=some 69) (v:=?_) (a':=?_) #[true,true,true,true,false,false,false,false,false,false,false,false] rfl rfl (by kernel_rfl) (fun _ _ _ h=>h) (Or.inl ⟨by rfl,?_⟩) ?_ ?_
   rotate_left
   ·intro w'
    go_simp
    with_reducible rfl
   rotate_left
   ·simp only [Act.put,zA,zB,zC,i64_w,i32_w]
    rfl
   refine pure_ (i:=5) (N:=some 71) (v:=?_) (a':=?_) #[true,true,true,true,false,true,false,false,false,false,false,false] rfl rfl (by kernel_rfl) (fun _ _ _ h=>h) (Or.inl ⟨by rfl,?_⟩) ?_ ?_
   rotate_left
   ·intro w'
    go_simp
    with_reducible rfl
   rotate_left
   ·simp only [Act.put,zA,zB,zC,i64_w,i32_w]
    rfl
   refine take_ (i:=4) (N:=some 70) (v:=?_) (a':=?_) #[true,true,true,true,true,true,false,false,false,false,false,false] rfl rfl (by kernel_rfl) (fun _ _ _ h=>h) (Or.inl ⟨by rfl,?_⟩) hHeld ?_ ?_
   rotate_left
   ·rintro w' ⟨s0,s1,s2,s3,s4⟩
    go_simp
    with_reducible rfl
   rotate_left
   ·simp only [Act.put,zA,zB,zC,i64_w,i32_w]
    rfl
   refine take_ (i:=6) (N:=some 72) (v:=?_) (a':=?_) #[true,true,true,true,true,true,true,false,false,false,false,false] rfl rfl (by kernel_rfl) (fun _ _ _ h=>h) (Or.inl ⟨by rfl,?_⟩) hHeld ?_ ?_
   rotate_left
   ·rintro w' ⟨s0,s1,s2,s3,s4⟩
    go_simp
    with_reducible rfl
   rotate_left
   ·simp only [Act.put,zA,zB,zC,i64_w,i32_w]
    rfl
   refine one_ (i:=7) (N:=some 73) #[true,true,true,true,true,true,true,true,false,false,false,false] rfl rfl (by kernel_rfl) (by decide) (fun K hK=>?_)
   refine value_ (w1:=?_) (v:=?_) (by rfl) rfl ?_ ?_
   rotate_left 2
   ·go_simp
    constructor
    ·rfl
    ·rfl
   refine hK.out _ _ ⟨cell_up (w:=w5.drew) u0 _,cell_up (w:=w5.drew) u1 _,cell_up (w:=w5.drew) u2 _,cell_up (w:=w5.drew) u3 _,cell_up (w:=w5.drew) u4 _⟩ (fun hHeld=>?_)
   clear hK K
   refine norm_ (a':=?_) ?_ ?_
   rotate_left
   ·show Act.put _ (some 73) _=_
    simp only [Act.put,zA,zB,zC,i64_w,i32_w]
    rfl
   refine one_ (i:=8) (N:=some 74) #[true,true,true,true,true,true,true,true,true,false,false,false] rfl rfl (by kernel_rfl) (by decide) (fun K hK=>?_)
   refine Kd.R_append_step kR (w0:=w5) (W:=w5.drew) n0 (by rfl) (.tmp 70) (.tmp 73) 127 126 (.agg #[.slice none 0 0,.slice none 0 0,.bool false,.int .i64 0]) 64 (by rfl) Tryz.underlying127 info126 rfl (by decide) (by decide) (.slice Ak (rgAt (pushR rgs i r1) k).length capk) (rgAt (pushR rgs i r1) k) r2 (rgC a2 b2 r2) (fun _=>True) (fun k=>∃ x,w5.heap[k]? = some (keyO x)) rfl rfl HM.out (fun k hk=>⟨trivial,HNO.out k hk⟩) (fun _ _=>trivial) (Kd.R_drew HROW.out) ((Below.refl n0 w5).drew) HN0.out HLN.out ?_
   intro v1 w1 hr1 hb1 hg1 hn1
   obtain ⟨n7,A7,c7,rfl⟩ : ∃ n A c,v1=.slice A n c:=(by obtain ⟨A,c,e⟩:=Kd.R_slice hr1;exact ⟨_,A,c,e⟩)
   have kg:∀ k2,k2<w5.heap.size→(Value.slice Ak (rgAt (pushR rgs i r1) k).length capk).ownBlock≠some k2→w1.heap[k2]? = w5.heap[k2]?:=fun k2 hl2 hn2=>hg1.block k2 hl2 (fun e=>hn2 e.symm)
   have u0':=kg_cell kg u0 HOC.out
   have u1':=kg_cell kg u1 HOK.out
   have u2':=kg_cell kg u2 HOK.out
   have u3':=kg_cell kg u3 HOK.out
   have u4':=kg_cell kg u4 HOK.out
   have u0f:=blk_frozen ((kg _ (blk_lt HBI.out) HOC.out).trans HBI.out) 0
   refine hK.out _ _ ⟨u0',u1',u2',u3',u4'⟩ (fun hHeld=>?_)
   clear hK K
   refine norm_ (a':=?_) ?_ ?_
   rotate_left
   ·show Act.put _ (some 74) _=_
    simp only [Act.put,zA,zB,zC,i64_w,i32_w]
    rfl
   refine pure_ (i:=9) (N:=some 75) (v:=?_) (a':=?_) #[true,true,true,true,true,true,true,true,true,true,false,false] rfl rfl (by kernel_rfl) (fun _ _ _ h=>h) (Or.inl ⟨by rfl,?_⟩) ?_ ?_
   rotate_left
   ·intro w'
    go_simp
    with_reducible rfl
   rotate_left
   ·simp only [Act.put,zA,zB,zC,i64_w,i32_w]
    rfl
   refine pure_ (i:=10) (N:=some 76) (v:=?_) (a':=?_) #[true,true,true,true,true,true,true,true,true,true,true,false] rfl rfl (by kernel_rfl) (fun _ _ _ h=>h) (Or.inl ⟨by rfl,?_⟩) ?_ ?_
   rotate_left
   ·intro w'
    go_simp
    with_reducible rfl
   rotate_left
   ·simp only [Act.put,zA,zB,zC,i64_w,i32_w]
    rfl
   refine last_ (i:=11) (N:=none) #[true,true,true,true,true,true,true,true,true,true,true,true] rfl rfl (by kernel_rfl) (by decide) (fun K hK=>?_)
   refine skip_ (w1:=?_) (by rfl) rfl ?_ ?_
   rotate_left
   ·go_simp
    rfl
   refine hK.out _ _ ?_
   clear hK K
   refine done_ (by kernel_rfl) ?_
   clear hHeld u0 u1 u2 u3 u4 u0' u1' u2' u3' u4' u0f kg hkey
   obtain ⟨PC,PD,PK⟩:=cor_push (w:=w5.drew) (r:=r2) (H5.out.below (below_drew (Below.refl _ _))) (HD5.out.move (fun _ _ _ _ _=>rfl)) bk hr1 (by rw [HEV.out];exact hg1) (by rw [HEV.out];exact hn1)
   obtain ⟨w6,hw6⟩ : ∃ w6,w6=w1.setCell ⟨cAt cs k,0,none⟩ (.slice A7 n7 c7):=⟨_,rfl⟩
   rw [← hw6] at PC PD PK
   rw [← hw6]
   have H6:=hid PC
   have HD6:=hid PD
   have HK6:=hid (show ∀ G,KeepC w w6 G from fun G=>KeepC.trans (w1:=w5.drew) (KeepC.trans (HK5.out G) (keepC_below (below_drew (Below.refl _ w5)) G)) (PK G))
   have HX6:=hid (((PK none).2 kb _ _ HX5.out (by decide) (by simp)).trans HX5.out)
   clear PC PD PK hw6 hr1 hg1 hn1 hb1 HROW HNO HOC HOK HN0 HLN HM HBI HEV HD5 H5 HX5 HK5
   obtain ⟨A6,cap6,di,ev6,hb6,hr6⟩:=dyn_row HD6.out bi
   have u0:=blk_cell hb6 1
   have u1:=blk_cell HX6.out 24
   have f1:=blk_frozen hb6 1
   clear hr6 ev6 hb6
   go_upto_region 11 with (fail)
   refine start_ (n:=10) (S:=fun w'=>w'.cell? ⟨cAt cs i,1,none⟩=some (.int .i64 di)∧w'.cell? ⟨kb,24,none⟩=some (.int .i64 sz)) (ds:=[9]) #[false,false,false,false,false,false,false,false,false,false] (by kernel_rfl) rfl rfl ⟨u0,u1⟩ (fun hHeld=>?_)
   refine pure_ (i:=0) (N:=some 77) (v:=?_) (a':=?_) #[true,false,false,false,false,false,false,false,false,false] rfl rfl (by kernel_rfl) (fun _ _ _ h=>h) (Or.inl ⟨by rfl,?_⟩) ?_ ?_
   rotate_left
   ·intro w'
    go_simp
    with_reducible rfl
   rotate_left
   ·simp only [Act.put,zA,zB,zC,i64_w,i32_w]
    rfl
   refine pure_ (i:=1) (N:=some 78) (v:=?_) (a':=?_) #[true,true,false,false,false,false,false,false,false,false] rfl rfl (by kernel_rfl) (fun _ _ _ h=>h) (Or.inl ⟨by rfl,?_⟩) ?_ ?_
   rotate_left
   ·intro w'
    go_simp
    with_reducible rfl
   rotate_left
   ·simp only [Act.put,zA,zB,zC,i64_w,i32_w]
    rfl
   refine pure_ (i:=2) (N:=some 79) (v:=?_) (a':=?_) #[true,true,true,false,false,false,false,false,false,false] rfl rfl (by kernel_rfl) (fun _ _ _ h=>h) (Or.inl ⟨by rfl,?_⟩) ?_ ?_
   rotate_left
   ·intro w'
    go_simp
    with_reducible rfl
   rotate_left
   ·simp only [Act.put,zA,zB,zC,i64_w,i32_w]
    rfl
   refine pure_ (i:=4) (N:=some 81) (v:=?_) (a':=?_) #[true,true,true,false,true,false,false,false,false,false] rfl rfl (by kernel_rfl) (fun _ _ _ h=>h) (Or.inl ⟨by rfl,?_⟩) ?_ ?_
   rotate_left
   ·intro w'
    go_simp
    with_reducible rfl
   rotate_left
   ·simp only [Act.put,zA,zB,zC,i64_w,i32_w]
    rfl
   refine take_ (i:=3) (N:=some 80) (v:=?_) (a':=?_) #[true,true,true,true,true,false,false,false,false,false] rfl rfl (by kernel_rfl) (fun _ _ _ h=>h) (Or.inl ⟨by rfl,?_⟩) hHeld ?_ ?_
   rotate_left
   ·rintro w' ⟨s0,s1⟩
    go_simp
    with_reducible rfl
   rotate_left
   ·simp only [Act.put,zA,zB,zC,i64_w,i32_w]
    rfl
   refine take_ (i:=5) (N:=some 82) (v:=?_) (a':=?_) #[true,true,true,true,true,true,false,false,false,false] rfl rfl (by kernel_rfl) (fun _ _ _ h=>h) (Or.inl ⟨by rfl,?_⟩) hHeld ?_ ?_
   rotate_left
   ·rintro w' ⟨s0,s1⟩
    go_simp
    with_reducible rfl
   rotate_left
   ·simp only [Act.put,zA,zB,zC,i64_w,i32_w]
    rfl
   refine pure_ (i:=6) (N:=some 83) (v:=?_) (a':=?_) #[true,true,true,true,true,true,true,false,false,false] rfl rfl (by kernel_rfl) (fun _ _ _ h=>h) (Or.inl ⟨by rfl,?_⟩) ?_ ?_
   rotate_left
   ·intro w'
    go_simp
    with_reducible rfl
   rotate_left
   ·simp only [Act.put,zA,zB,zC,i64_w,i32_w]
    rfl
   refine pure_ (i:=7) (N:=some 84) (v:=?_) (a':=?_) #[true,true,true,true,true,true,true,true,false,false] rfl rfl (by kernel_rfl) (fun _ _ _ h=>h) (Or.inl ⟨by rfl,?_⟩) ?_ ?_
   rotate_left
   ·intro w'
    go_simp
    with_reducible rfl
   rotate_left
   ·simp only [Act.put,zA,zB,zC,i64_w,i32_w]
    rfl
   refine pure_ (i:=8) (N:=some 85) (v:=?_) (a':=?_) #[true,true,true,true,true,true,true,true,true,false] rfl rfl (by kernel_rfl) (fun _ _ _ h=>h) (Or.inl ⟨by rfl,?_⟩) ?_ ?_
   rotate_left
   ·intro w'
    go_simp
    with_reducible rfl
   rotate_left
   ·simp only [Act.put,zA,zB,zC,i64_w,i32_w]
    rfl
   refine last_ (i:=9) (N:=none) #[true,true,true,true,true,true,true,true,true,true] rfl rfl (by kernel_rfl) (by decide) (fun K hK=>?_)
   refine skip_ (w1:=?_) (by rfl) rfl ?_ ?_
   rotate_left
   ·go_simp
    rfl
   refine hK.out _ _ ?_
   clear hK K
   refine done_ (by kernel_rfl) ?_
   clear hHeld u0 u1 f1
   obtain ⟨PC,PD,PK⟩:=cor_size H6.out HD6.out bi (wrap64 (di+sz))
   obtain ⟨w7,hw7⟩ : ∃ w7,w7=(w6.setCell ⟨cAt cs i,1,none⟩ (.int .i64 (wrap64 (di+sz)))).drew:=⟨_,rfl⟩
   rw [← hw7]
   have H7:=hid (show Cor w7 S n0 sb ob mb lv (.slice (some ⟨g,0,none⟩) cs.length cc) hs cs o (pushR (pushR rgs i r1) k r2) run by rw [hw7];exact PC.below (below_drew (Below.refl _ _)))
   have HK7:=hid (show ∀ G,KeepC w w7 G from fun G=>by rw [hw7];exact KeepC.trans (KeepC.trans (HK6.out G) (PK G)) (keepC_below (below_drew (Below.refl _ _)) G))
   have HX7:=hid (show w7.heap[kb]? = some (.cells #[.int .i64 id,.int .i64 bl,.slice tA tn tc,.slice fA fn fc,.int .i64 lv0,.float .f64 sc,.float .f64 sc,.slice none 0 0,.int .i64 bl,.slice tA tn tc,.slice fA fn fc,.pointer (some ⟨tl,0,none⟩),.pointer (some ⟨nlb,0,none⟩),.slice pA pn pc,.slice qA qn qc,.slice a1 r1.lo.length r1.lo.length,.slice b1 r1.hi.length r1.hi.length,.bool r1.inf,.int .i64 0,.slice a2 r2.lo.length r2.lo.length,.slice b2 r2.hi.length r2.hi.length,.bool r2.inf,.int .i64 0,.slice sA sn ss,.int .i64 sz,.slice none 0 0] 129 (0,0)) by rw [hw7];exact ((PK none).2 kb _ _ HX6.out (by decide) (by simp)).trans HX6.out)
   clear PC PD PK hw7 HD6 H6 HK6 HX6 vs
   have HT7:=hid (ptr_keep HC.out.top (HK7.out none) (fun _ _=>by simp))
   have HQ7:=hid (ptr_keep HC.out.bot (HK7.out none) (fun _ _=>by simp))
   have HTB:=hid (tabs_append (tabs_move HC.out.ttab (fun b arr t hb ht=>(HK7.out none).2 b arr t hb (by rcases ht with rfl | rfl<;>decide) (by simp))) (tabs_move HC.out.btab (fun b arr t hb ht=>(HK7.out none).2 b arr t hb (by rcases ht with rfl | rfl<;>decide) (by simp))))
   have HQR:=hid (Kd.R_reads' HQ7.out)
   have u0:=blk_cell HX7.out 13
   have u1:=blk_cell HX7.out 14
   have hqc:ptrK.C w7 qA qn bots:=by have e:qn=bots.length:=HQR.out.1;rw [e];exact HQR.out.2.2
   have HQC:=hid hqc
   clear hqc
   go_wp2_with (first | ((with_reducible refine gate_builtin (b:=.append) (xs:=#[.tmp 87,.tmp 89]) rfl ?_);at_builtin;refine app_op (v:=.slice pA pn pc) rfl (.tmp 87) (.tmp 89) rfl rfl rfl HT7.out HC.out.pos.1 HQC.out (by have:=HC.out.pos.2;omega) H7.out.nb ?_;intro v8 w8 hr8 hg8 ht8 hat8;have HR8:=hid hr8;have HG8:=hid hg8;have HT8:=hid ht8;clear hr8 hg8 ht8 hat8;obtain ⟨A8,n8,c8,hv8⟩:=Nw.slice3 HR8.out;subst hv8))
   clear u0 u1 hsb3
   obtain ⟨PC8,PK8⟩:=cor_grown H7.out HT7.out HG8.out
   have HPC:=hid PC8
   have HK8:=hid (KeepC.trans (HK7.out _) PK8)
   clear PC8 PK8
   have hne98:∀ (b:Nat) (arr:Array Value) (t:Nat),w7.heap[b]? = some (.cells arr t (0,0))→t=98∨t=5→w8.heap[b]? = w7.heap[b]?:=fun b arr t hb ht=>by
    refine HG8.out.block b (blk_lt hb) (fun e=>?_)
    obtain ⟨cs2,hc2⟩:=Kd.R_typed HT7.out b e.symm
    rw [hb] at hc2
    injection hc2 with hc2
    injection hc2 with _ e _
    subst e
    rcases ht with ht | ht<;>exact absurd ht (by decide)
   have HTB8:=hid (tabs_move HTB.out hne98)
   clear hne98
   have hn8:n8=(tops++bots).length:=(Kd.R_reads' HR8.out).1
   subst hn8
   obtain ⟨g8,hg8⟩ : ∃ g8,A8=some ⟨g8,0,none⟩:=by
    obtain ⟨g8,cap,e,_⟩:=Kd.R_form HR8.out (by rw [List.length_append];have:=HC.out.pos.1;omega)
    injection e with e
    exact ⟨g8,e⟩
   subst hg8
   have HL:=hid (show (tops++bots).length=(tt++bt).length∧(tops++bots).length≤1000000 from ⟨HTB8.out.1,by rw [List.length_append];exact HC.out.pos.2⟩)
   obtain ⟨ws,hws⟩ : ∃ ws,ws=tops++bots:=⟨_,rfl⟩
   obtain ⟨us,hus⟩ : ∃ us,us=tt++bt:=⟨_,rfl⟩
   rw [← hws] at HR8
   rw [← hws,← hus] at HTB8 HL
   rw [← hus] at HQ
   rw [← hws]
   clear hws hus HTB HQ7 HQR HQC HT7 HG8 HX7 H7 HK7
   have HSB:=hid (show w8.cell? ⟨sb,3,none⟩=some (.map (some mb)) from blk_cell HPC.out.st.ctl.2 3)
   have HSBM:=hid (show sb≠mb from fun e=>HPC.out.nm (e ▸ HPC.out.st.ctl.1))
   go_loopg [11,92] us.length (fun kq v11 v92 wr=>∃ j:Nat,v92=.int .i64 (j:Int)∧Aside0 (j+kq=us.length∧Cor wr S n0 sb ob mb lv (.slice (some ⟨g,0,none⟩) cs.length cc) hs cs o (pushR (pushR rgs i r1) k r2) ((us.take j).foldl (fun r t=>putR r t.num) run)∧(∀ b,b<w8.heap.size→b≠mb→wr.heap[b]? = w8.heap[b]?)∧Below 0 w8 wr))
   case atStart=>exact ⟨0,rfl,⟨by omega,HPC.out,fun _ _ _=>rfl,Below.refl _ _⟩⟩
   case round =>
    obtain ⟨j,rfl,HQJ⟩:=hrel
    have HJ:=hid HQJ.out.1
    have HCJ:=hid HQJ.out.2.1
    have HF:=hid HQJ.out.2.2.1
    have HZ:=hid HQJ.out.2.2.2
    clear HQJ
    have mvb:∀ {b:Nat} {arr:Array Value} {t:Nat},w8.heap[b]? = some (.cells arr t (0,0))→wr.heap[b]? = some (.cells arr t (0,0)):=fun {b arr t} hb=>(HF.out b (blk_lt hb) (fun e=>by
     obtain ⟨es,ck,m1,_⟩:=HPC.out.mp
     rw [e,m1] at hb
     injection hb with hb
     cases hb)).trans hb
    by_cases hj:j<us.length
    ·have d1:decide ((j:Int)<(ws.length:Int))=true:=decide_eq_true (by have:=HL.out;omega)
     have bj:j<ws.length:=by have:=HL.out;omega
     have HGK:=hid (show gk - 1<gk∧j+1+(gk - 1)=us.length by have:=HJ.out;omega)
     have s3:IntKind.i64.wrap ((j:Int)+1)=((j+1:Nat):Int):=by rw [IntWalk.i64_in _ (by have:=HL.out;omega)];omega
     have cj:wr.cell? ⟨g8,j,none⟩=some (ptr (ws.getD j 0)):=by
      obtain ⟨cs2,hc2⟩:=Kd.R_typed HR8.out g8 (by simp [Value.ownBlock])
      have h1:=(Kd.R_cell (enc:=ptr) (h1:=fun _=>rfl) 0 HR8.out (j:Int) (by omega) (by omega)).1
      rw [Int.toNat_natCast] at h1
      rw [blk_cell (mvb hc2)]
      rw [blk_cell hc2] at h1
      rw [h1]
      simp [rdOf]
     have tj:=Ls.tabs_at HTB8.out bj
     have cn:wr.cell? ⟨ws.getD j 0,0,none⟩=some (.int .u64 (Ls.tAt us j).num):=by
      obtain ⟨b,c,e1,_,_⟩:=tj
      exact blk_cell (mvb e1) 0
     have HTK:=hid (show (us.take (j+1)).foldl (fun r t=>putR r t.num) run=putR ((us.take j).foldl (fun r t=>putR r t.num) run) (Ls.tAt us j).num by
      have e:us.take (j+1)=us.take j++[Ls.tAt us j]:=by rw [List.take_succ_eq_append_getElem hj];simp [Ls.tAt,hj]
      rw [e,List.foldl_append];rfl)
     have c3:wr.cell? ⟨sb,3,none⟩=some (.map (some mb)):=blk_cell HCJ.out.st.ctl.2 3
     obtain ⟨es,ck,m1,m2,m3⟩:=HCJ.out.mp
     have HM1:=hid m1
     have HM2:=hid m2
     have HM3:=hid m3
     clear m1 m2 m3 tj
     simp only [ptr] at cj
     generalize ws.getD j 0=p at *
     generalize (Ls.tAt us j).num=q at *
     have KI:=hid (id_calls (w:=wr.drew) (p:=p) cn)
     go_wp2_with fail
     refine wp_region_still_tail 7 (by kernel_rfl) (by kernel_rfl) ?_
     simp only [List.take_succ_cons,List.take_zero,List.drop_succ_cons,List.drop_zero]
     repeat still_step
     still_call (KI.out.mono fun _ _ ⟨a,b⟩=>⟨a,b.symm⟩)
     repeat still_step
     refine wpStill_nil ?_
     change wpList _ _ _ _ _ wr.drew
     refine wpL_store (q:=.u64) (k:=q) wr.drew rfl (.tmp 99) (.tmp 101) (.tmp 102) rfl (.agg #[]) Rn.u119 Rn.u88 rfl rfl rfl HM1.out ?_
     obtain ⟨PS,PF⟩:=cor_store (w:=wr.drew) (HCJ.out.below (below_drew (Below.refl _ _))) q HM1.out HM2.out HM3.out
     obtain ⟨w9,hw9⟩ : ∃ w9,w9=setO wr.drew mb (.map (rawM .u64 (storedE q (.agg #[]) ck es)) (clockE q ck es)):=⟨_,rfl⟩
     rw [← hw9] at PS PF
     rw [← hw9]
     have HPS:=hid PS
     have HPF:=hid (show (∀ b,b<w8.heap.size→b≠mb→w9.heap[b]? = w8.heap[b]?)∧Below 0 w8 w9 from ⟨fun b hb hne=>(PF b hne).trans (HF.out b hb hne),by rw [hw9];exact HZ.out.trans (below_setO _ _ _)⟩)
     clear PS PF hw9 cj cn c3 KI HM1 HM2 HM3
     go_wp2_with fail
     go_roundg (gk - 1)
     case measure=>exact HGK.out.1
     case rel=>exact ⟨j+1,rfl,⟨HGK.out.2,by rw [HTK.out];exact HPS.out,HPF.out.1,HPF.out.2⟩⟩
    ·have d1:decide ((j:Int)<(ws.length:Int))=false:=decide_eq_false (by have:=HL.out;omega)
     have d1n:decide (j<ws.length)=false:=decide_eq_false (by have:=HL.out;omega)
     have nj:¬ j<ws.length:=by have:=HL.out;omega
     have HE:=hid (show (us.take j)=us from List.take_of_length_le (by omega))
     have HTO:=hid (ptr_frame HT8.out (w1:=wr) (fun b hb e=>by
      obtain ⟨cs2,hc2⟩:=Kd.R_typed HT8.out b e
      exact (mvb hc2).trans hc2.symm))
     have HKR:=hid (show KeepC w wr (Value.slice pA pn pc).ownBlock from ⟨HK8.out.1.trans HZ.out,fun b arr t hb ht hG=>by
      have e1:=HK8.out.2 b arr t hb ht hG
      exact (mvb (e1.trans hb)).trans hb.symm⟩)
     clear mvb
     go_wp2_with fail
     rw [HQ.out]
     have h:=HCJ.out
     rw [HE.out] at h
     exact ⟨rfl,h,HTO.out,HKR.out⟩
end Go.Proofs.YtnineoajmgneiaaGreat.Rg
namespace Go.Proofs.YtnineoajmgneiaaGreat.Rg
open Go.RowKit YtnineoajmgneiaaGreatW YtnineoajmgneiaaGreatW.PrintWords YtnineoajmgneiaaGreatW.PrintLast YtnineoajmgneiaaGreatW.PrintMore Fr L Ky Tm Lm It
/-- A level as a row of tables. -/
structure LRow (w:World) (hp i:Nat) (ps:List Nat) (ts:List Tb) (A:Option Addr) (c:Nat):Prop where
 c0:w.cell? ⟨hp,0,none⟩=some (.slice A ts.length c)
 c3:w.cell? ⟨hp,3,none⟩=some (.int .i64 (i:Int))
 le:ts.length≤c
 pl:ps.length=ts.length
 tr:TRow w A ts
 pc:ptrK.C w A ts.length ps
 tb:Ls.Tabs w ps ts
theorem lrow_of {w:World} {F:Nat→Prop} {ob i:Nat} {h:Hd} (hl:LevF w F ob i h) (hn:h.ts.length≤200000):∃ A c,LRow w h.hp i h.ps h.ts A c:=by
 obtain ⟨A,c,e1,e2,e3⟩:=hl.row
 have tb:Ls.Tabs w h.ps h.ts:=⟨hl.len,fun j p t h1 h2=>by
  obtain ⟨_,b,d,k1,k2,k3⟩:=hl.tab j p t h1 h2
  exact ⟨b,d,k1,k2.2,k3.2⟩⟩
 refine ⟨A,c,?_,blk_cell hl.blk 3,by rw [← hl.len];exact e2,hl.len,fun j hj=>?_,?_,tb⟩
 ·have:=blk_cell hl.blk 0
  rw [e1,hl.len] at this
  exact this
 ·rw [← hl.len] at hj
  obtain ⟨b,cs,k1,_,k3,k4⟩:=e3 (by omega)
  have hj2:h.ps[j]? = some (h.ps.getD j 0):=by simp [hj]
  exact ⟨b,h.ps.getD j 0,k1,by rw [blk_cell k3];exact k4 j _ hj2,Ls.tabs_at tb hj⟩
 ·rw [← hl.len]
  refine Kd.C_of_reads (d:=0) ⟨rfl,by rw [hl.len];omega,fun hp=>?_⟩
  obtain ⟨b,cs,k1,_,k3,k4⟩:=e3 (by omega)
  refine ⟨_,k1,fun j hj=>?_⟩
  rw [add_off,Nat.zero_add,blk_cell k3]
  exact k4 j _ (by simp [hj])
theorem LRow.below {w w1:World} {hp i c:Nat} {ps:List Nat} {ts:List Tb} {A:Option Addr} (h:LRow w hp i ps ts A c) (hb:Below w.heap.size w w1):LRow w1 hp i ps ts A c:=
 ⟨(hb.cell (World.block_lt_of_cell? w _ h.c0)).trans h.c0,(hb.cell (World.block_lt_of_cell? w _ h.c3)).trans h.c3,h.le,h.pl,h.tr.below hb,Kd.C_below h.pc hb,tabs_move h.tb (fun b _ _ hb2 _=>hb.block b (blk_lt hb2))⟩
/-- Pointers that may be none. -/
def ptrV (o:Option Nat):Value:=.pointer (o.map fun b=>⟨b,0,none⟩)
def ptrO:Kd (Option Nat):=Kd.scalar ptrV (fun _=>rfl)
theorem encs_some (ps:List Nat):encs ptrV (ps.map some)=encs ptr ps:=by simp [encs,ptrV,ptr,Function.comp_def]
theorem optR_ptr {w:World} {base:Nat} {v:Value} {ps:List Nat} (h:ptrO.R 140 w base (fun _=>True) v (ps.map some)):ptrK.R 140 w base (fun _=>True) v ps:=by
 have ho:=Kd.own_of_R (enc:=ptrV) (h1:=fun _=>rfl) h
 refine Kd.R_of_own (enc:=ptr) (h1:=fun _=>rfl) ?_ (fun _ _=>trivial)
 rw [encs_some,List.length_map] at ho
 exact ho
theorem optC_ptr {w:World} {A:Option Addr} {n:Nat} {ps:List Nat} (h:ptrK.C w A n ps):ptrO.C w A n (ps.map some):=by
 have hr:=Kd.reads_of_C (enc:=ptr) (h1:=fun _=>rfl) (d:=0) h
 refine Kd.C_of_reads (enc:=ptrV) (h1:=fun _=>rfl) (d:=none) ⟨by rw [List.length_map];exact hr.1,hr.2.1,fun hp=>?_⟩
 obtain ⟨ad,e,hc⟩:=hr.2.2 hp
 refine ⟨ad,e,fun j hj=>?_⟩
 rw [hc j hj]
 have hj2:j<ps.length:=by have:=hr.1;omega
 simp [ptrV,ptr,hj2]
theorem tabs_mid {w:World} {ps:List Nat} {ts:List Tb} (h:Ls.Tabs w ps ts) (a b:Nat):Ls.Tabs w ((ps.take b).drop a) ((ts.take b).drop a):=by
 refine ⟨by rw [List.length_drop,List.length_drop,List.length_take,List.length_take,h.1],fun i p t h1 h2=>?_⟩
 rw [List.getElem?_drop] at h1 h2
 rw [List.getElem?_take] at h1 h2
 split at h1
 ·rename_i hlt
  rw [if_pos hlt] at h2
  exact h.2 _ p t h1 h2
 ·cases h1
theorem tabs_take {w:World} {ps:List Nat} {ts:List Tb} (h:Ls.Tabs w ps ts) (b:Nat):Ls.Tabs w (ps.take b) (ts.take b):=by
 have:=tabs_mid h 0 b
 simpa using this
/-- The tables of level 0 that are taken: from the oldest one on, while they overlap. -/
def takeTop (r:Rg):List Tb→List Tb
 | []=>[]
 | t :: ts=>if ovR r (rgOf [t]) then t :: takeTop (extR r (rgOf [t])) ts else []
theorem takeTop_pre:∀ (ts:List Tb) (r:Rg),takeTop r ts=ts.take (takeTop r ts).length
 | [],_=>rfl
 | t :: ts,r=>by
  unfold takeTop
  split
  ·rw [List.length_cons,List.take_succ_cons,← takeTop_pre ts]
  ·rfl
end Go.Proofs.YtnineoajmgneiaaGreat.Rg
namespace Go.Proofs.YtnineoajmgneiaaGreat.Rg
open Lib (hid)
open List renaming setIfInBounds_toArray → zA,set_cons_zero → zB,set_cons_succ → zC
open Go.RowKit YtnineoajmgneiaaGreatW YtnineoajmgneiaaGreatW.PrintWords YtnineoajmgneiaaGreatW.PrintLast YtnineoajmgneiaaGreatW.PrintMore Fr L Ky Tm Lm It
theorem cdok_keep {w w1:World} {n0 nlb:Nat} {c:Cd} {tops bots:List Nat} {tt bt:List Tb} {G:Option Nat} (h:CdOk w n0 c tops bots tt bt nlb) (hk:KeepC w w1 G) (hG:∀ k,G=some k→(Value.slice c.pA c.pn c.pc).ownBlock=some k∨w.heap.size≤k∨∃ arr,w.heap[k]? = some (.cells arr 129 (0,0))) (ht:ptrK.R 140 w1 n0 (fun _=>True) (.slice c.pA c.pn c.pc) tops):CdOk w1 n0 c tops bots tt bt nlb:=by
 have ty:∀ (k:Nat) (arr:Array Value) (t:Nat),w.heap[k]? = some (.cells arr t (0,0))→t=98∨t=5→G≠some k:=fun k arr t hb ht e=>by
  rcases hG k e with h1 | h1 | ⟨arr2,h1⟩
  ·obtain ⟨cs,hc⟩:=Kd.R_typed h.top k h1
   rw [hb] at hc
   injection hc with hc
   injection hc with _ e _
   subst e
   rcases ht with ht | ht<;>exact absurd ht (by decide)
  ·have:=blk_lt hb
   omega
  ·rw [hb] at h1
   injection h1 with h1
   injection h1 with _ e _
   subst e
   rcases ht with ht | ht<;>exact absurd ht (by decide)
 have kb:∀ {A:Option Addr} {x:List UInt8},KB w (fun k=>n0≤k) A x→KB w1 (fun k=>n0≤k) A x:=fun {A x} hh=>by
  rcases hh with hh | ⟨b,e,h1,h2⟩
  ·exact .inl hh
  ·exact .inr ⟨b,e,(hk.2 b _ _ h1 (by decide) (ty b _ _ h1 (.inr rfl))).trans h1,h2⟩
 refine ⟨h.enl,ht,ptr_keep h.bot hk (fun k hk2 e=>?_),h.apart,h.pos,tabs_move h.ttab (fun b arr t hb ht=>hk.2 b arr t hb (by rcases ht with rfl | rfl<;>decide) (ty b arr t hb ht)),tabs_move h.btab (fun b arr t hb ht=>hk.2 b arr t hb (by rcases ht with rfl | rfl<;>decide) (ty b arr t hb ht)),kb h.k1,kb h.k2,kb h.k3,kb h.k4,h.o1,h.o2⟩
 rcases hG k e with h1 | h1 | ⟨arr2,h1⟩
 ·exact h.apart k hk2 h1
 ·have:=Kd.R_lt h.bot k hk2
  omega
 ·obtain ⟨cs,hc⟩:=Kd.R_typed h.bot k hk2
  rw [h1] at hc
  injection hc with hc
  injection hc with _ e _
  exact absurd e (by decide)
def lowF (s:Nat):Bool:=decide (0<s) && decide (s<4607182418800017408)
def botL (ts:List Tb) (r:Rg):List Tb:=(ts.take (rtN ts r)).drop (ltN ts r)
def nextR (r:Rg) (B:List Tb):Rg:=if B.length=0 then r else rgOf B
/-- What is the same of two compactions: all but their tables and ranges. -/
def SameCd (c d:Cd):Prop:=d.id=c.id∧d.bl=c.bl∧d.tA=c.tA∧d.tn=c.tn∧d.tc=c.tc∧d.fA=c.fA∧d.fn=c.fn∧d.fc=c.fc∧d.lv=c.lv∧d.sc=c.sc∧d.tl=c.tl∧d.nl=c.nl∧d.sA=c.sA∧d.sn=c.sn∧d.ss=c.ss
def OwnF (d:Cd) (m:Nat):Prop:=∀ q,(Value.slice d.pA d.pn d.pc).ownBlock=some q∨(Value.slice d.qA d.qn d.qc).ownBlock=some q→m≤q
def LbPost [Ghost] (w:World) (S:Nat→Prop) (n0 sb ob mb:Nat) (lv cv:Value) (hs:List Hd) (cs:List Nat) (o:Lm.Op) (rgs:List (List Rg)) (run:List Int) (c:Cd) (cdb n:Nat) (h0 hn:Hd) (e:Ending) (w':World):Prop:=
 if lowF c.sc || h0.ts.length == 0 then e=.returned (.bool false)∧Below w.heap.size w w'
 else ∃ (d:Cd) (tops bots:List Nat),SameCd c d∧d.sz=c.sz∧d.r1=rgOf (takeTop rE h0.ts)∧d.r2=nextR d.r1 (botL hn.ts d.r1)∧w'.heap[cdb]? = some (.cells (cdC d) 129 (0,0))∧CdOk w' n0 d tops bots (takeTop rE h0.ts) (botL hn.ts d.r1) hn.hp∧KeepC w w' (some cdb)∧OwnF d w.heap.size ∧
  if hitR rgs 0 d.r1 || hitR rgs n d.r2 then e=.returned (.bool false)∧Cor w' S n0 sb ob mb lv cv hs cs o rgs run
  else e=.returned (.bool true)∧Cor w' S n0 sb ob mb lv cv hs cs o (pushR (pushR rgs 0 d.r1) n d.r2) ((takeTop rE h0.ts++botL hn.ts d.r1).foldl (fun r t=>putR r t.num) run)
theorem ord_f {s:Nat} (h:s≤9218868437227405312) (k:Nat) (hk:k≤9218868437227405312):FloatKind.f64.format.order s k=some (compare s k):=Fl.order_words h hk
/-- The loop over level 0. -/
structure LoI (w wr:World) (ts:List Tb) (ps:List Nat) (kb j:Nat) (v:Value) (r:Rg) (A B:Option Addr):Prop where
 bel:Below w.heap.size w wr
 row:ptrK.R 140 wr w.heap.size (fun _=>True) v (ps.take j)
 blk:wr.heap[kb]? = some (.cells (rgC A B r).toArray 126 (0,0))
 k1:KB wr (fun k=>w.heap.size≤k) A r.lo
 k2:KB wr (fun k=>w.heap.size≤k) B r.hi
 ok:RgOk r
 inf:r.inf=false
 tk:takeTop rE ts=ts.take j++takeTop r (ts.drop j)
 jl:j≤ts.length
theorem rgOf1_iv (t:Tb) (h:KLen t):(8≤(rgOf [t]).lo.length∧(rgOf [t]).lo.length≤100000100)∧(8≤(rgOf [t]).hi.length∧(rgOf [t]).hi.length≤100000100)∧(rgOf [t]).inf=false:=by
 have a:=lo_len (t:=t) (ts:=[]) (by intro u hu;rw [List.mem_singleton.1 hu];exact h)
 have b:=hi_len (t:=t) (ts:=[]) (by intro u hu;rw [List.mem_singleton.1 hu];exact h)
 refine ⟨?_,?_,rfl⟩
 ·simp only [rgOf,List.length_append,uk_len,z8_len];omega
 ·simp only [rgOf,List.length_append,uk_len,f8_len];omega
theorem ext_inf {r k:Rg} (hr:r.inf=false) (hk:k.inf=false):(extR r k).inf=false:=by
 unfold extR
 split
 ·exact hr
 ·show (k.inf || (if emptyR r then k else r).inf)=false
  split<;>simp [hr,hk]
theorem below_at {B:Nat} {w w1:World} (h:Below 0 w w1) (hk:∀ k,k<B→w1.heap[k]? = w.heap[k]?):Below B w w1:=⟨h.os,h.tape,h.output,h.size,hk⟩
theorem four_of {arr:Array Value} {A B:Option Addr} {r:Rg} (hs:arr.size=4) (h:∀ i u,(rgC A B r)[i]? = some u→arr[0+i]? = some u):arr=(rgC A B r).toArray:=by
 apply Array.ext_getElem?
 intro i
 by_cases hi:i<4
 ·have hl:i<(rgC A B r).length:=hi
  have:=h i _ (List.getElem?_eq_getElem hl)
  rw [Nat.zero_add] at this
  rw [this]
  simp [List.getElem?_eq_getElem hl]
 ·rw [Array.getElem?_eq_none (by omega),Array.getElem?_eq_none (by simpa [rgC] using Nat.le_of_not_lt hi)]
theorem takeTop_pos {ts:List Tb} (h:0<ts.length):0<(takeTop rE ts).length:=by
 cases ts with
 | nil=>simp at h
 | cons t ts =>
  have:ovR rE (rgOf [t])=true:=rfl
  simp [takeTop,this]
theorem trow_of {w:World} {base n c:Nat} {A:Option Addr} {ps:List Nat} {ts:List Tb} (hr:ptrK.R 140 w base (fun _=>True) (.slice A n c) ps) (ht:Ls.Tabs w ps ts):TRow w A ts:=fun j hj=>by
 have hj2:j<ps.length:=by rw [ht.1];exact hj
 obtain ⟨blk,c2,e,h1⟩:=It.row_at hr hj2
 injection e with e _ _
 exact ⟨blk,_,e,h1,Ls.tabs_at ht hj2⟩
/-- Under way: the compaction's block is written, what was there else is as it was. -/
structure Ph [Ghost] (w wr:World) (S:Nat→Prop) (n0 sb ob mb:Nat) (lv cv:Value) (hs:List Hd) (cs:List Nat) (o:Lm.Op) (rgs:List (List Rg)) (run:List Int) (cdb:Nat) (c:Cd):Prop where
 bel:Below 0 w wr
 far:∀ b,b<w.heap.size→b≠cdb→wr.heap[b]? = w.heap[b]?
 blk:wr.heap[cdb]? = some (.cells (cdC c) 129 (0,0))
 cor:Cor wr S n0 sb ob mb lv cv hs cs o rgs run
theorem Ph.below [Ghost] {w wr w1:World} {S:Nat→Prop} {n0 sb ob mb:Nat} {lv cv:Value} {hs:List Hd} {cs:List Nat} {o:Lm.Op} {rgs:List (List Rg)} {run:List Int} {cdb:Nat} {c:Cd} (h:Ph w wr S n0 sb ob mb lv cv hs cs o rgs run cdb c) (hb:Below wr.heap.size wr w1):Ph w w1 S n0 sb ob mb lv cv hs cs o rgs run cdb c:=
 ⟨h.bel.trans (hb.mono (Nat.zero_le _)),fun b h1 h2=>(hb.block b (Nat.lt_of_lt_of_le h1 h.bel.size)).trans (h.far b h1 h2),(hb.block _ (blk_lt h.blk)).trans h.blk,h.cor.below hb⟩
theorem Ph.set [Ghost] {w wr:World} {S:Nat→Prop} {n0 sb ob mb:Nat} {lv cv:Value} {hs:List Hd} {cs:List Nat} {o:Lm.Op} {rgs:List (List Rg)} {run:List Int} {cdb:Nat} {c c':Cd} (h:Ph w wr S n0 sb ob mb lv cv hs cs o rgs run cdb c) (hcd:n0≤cdb) (j:Nat) (v:Value) (hc:(cdC c).setIfInBounds j v=cdC c'):Ph w (wr.setCell ⟨cdb,j,none⟩ v) S n0 sb ob mb lv cv hs cs o rgs run cdb c':=
 ⟨h.bel.setCell (Nat.zero_le _) _,fun b h1 h2=>(Below.heap_setCell wr ⟨cdb,j,none⟩ v b h2).trans (h.far b h1 h2),by rw [← hc];exact blk_set h.blk j v,
  h.cor.far h.blk (by decide) (fun hS=>by have:=h.cor.lt _ hS;omega) (by simp) (fun b _ hb=>Below.heap_setCell wr ⟨cdb,j,none⟩ v b hb)⟩
theorem ph_row {wr:World} {cdb j base:Nat} {v u:Value} {ps:List Nat} {c:Cd} (h:ptrK.R 140 wr base (fun _=>True) v ps) (hb:wr.heap[cdb]? = some (.cells (cdC c) 129 (0,0))):ptrK.R 140 (wr.setCell ⟨cdb,j,none⟩ u) base (fun _=>True) v ps:=
 Nw.row_set h hb (by decide) j u
theorem kb_set {wr:World} {cdb j:Nat} {u:Value} {c:Cd} {ok:Nat→Prop} {A:Option Addr} {x:List UInt8} (h:KB wr ok A x) (hb:wr.heap[cdb]? = some (.cells (cdC c) 129 (0,0))):KB (wr.setCell ⟨cdb,j,none⟩ u) ok A x:=by
 rcases h with h | ⟨b,e,h1,h2⟩
 ·exact .inl h
 ·exact .inr ⟨b,e,Nw.set_blk hb j u h1 (fun ds e=>by injection e with _ e _;exact absurd e (by decide)),h2⟩
theorem cor_grownO [Ghost] {α:Type} {d:Kd α} {w w1:World} {S:Nat→Prop} {n0 B sb ob mb:Nat} {lv cv v:Value} {hs:List Hd} {cs:List Nat} {o:Lm.Op} {rgs:List (List Rg)} {run:List Int} {ok:Nat→Prop} {xs:List α} (h:Cor w S n0 sb ob mb lv cv hs cs o rgs run) (hr:d.R 140 w B ok v xs) (hB:n0≤B) (hg:w.grownBy w1 v.ownBlock):Cor w1 S n0 sb ob mb lv cv hs cs o rgs run:=by
 have own_ge:∀ k,v.ownBlock=some k→n0≤k:=fun k hk=>Nat.le_trans hB (Kd.R_base hr k hk)
 have own_ty:∀ k,v.ownBlock=some k→∃ cs,w.heap[k]? = some (Obj.cells cs 140 (0,0)):=fun k hk=>Kd.R_typed hr k hk
 refine h.move (fun b hb=>hg.block b (Nat.lt_of_lt_of_le (h.lt b hb) h.nb) (fun e=>?_)) (fun b arr t hb ht=>hg.block b (blk_lt hb) (fun e=>?_)) (hg.block mb (Nat.lt_of_lt_of_le h.ml h.nb) (fun e=>?_)) hg.size
 ·have:=own_ge b e.symm
  have:=h.lt b hb
  omega
 ·obtain ⟨cs2,hc2⟩:=own_ty b e.symm
  rw [hb] at hc2
  injection hc2 with hc2
  injection hc2 with _ e _
  subst e
  exact absurd ht (by decide)
 ·have:=own_ge mb e.symm
  have:=h.ml
  omega
theorem Ph.grown [Ghost] {α:Type} {d:Kd α} {w wr w1:World} {S:Nat→Prop} {n0 B sb ob mb:Nat} {lv cv v:Value} {hs:List Hd} {cs:List Nat} {o:Lm.Op} {rgs:List (List Rg)} {run:List Int} {cdb:Nat} {c:Cd} {ok:Nat→Prop} {xs:List α} (h:Ph w wr S n0 sb ob mb lv cv hs cs o rgs run cdb c) (hr:d.R 140 wr B ok v xs) (hB:n0≤B) (hB2:w.heap.size≤B) (hg:wr.grownBy w1 v.ownBlock):Ph w w1 S n0 sb ob mb lv cv hs cs o rgs run cdb c:=
 ⟨h.bel.trans ((Below.refl 0 wr).grown hg (Nat.zero_le _) (fun _ _=>Nat.zero_le _)),fun b h1 h2=>(hg.block b (Nat.lt_of_lt_of_le h1 h.bel.size) (fun e=>by have:=Kd.R_base hr b e.symm;omega)).trans (h.far b h1 h2),
  (hg.block cdb (blk_lt h.blk) (fun e=>by
   obtain ⟨cs2,hc2⟩:=Kd.R_typed hr cdb e.symm
   rw [h.blk] at hc2
   injection hc2 with hc2
   injection hc2 with _ e _
   exact absurd e (by decide))).trans h.blk,cor_grownO h.cor hr hB hg⟩
theorem kb_grown {α:Type} {d:Kd α} {wr w1:World} {B:Nat} {v:Value} {ok okr:Nat→Prop} {xs:List α} {A:Option Addr} {x:List UInt8} (h:KB wr ok A x) (hr:d.R 140 wr B okr v xs) (hg:wr.grownBy w1 v.ownBlock):KB w1 ok A x:=by
 rcases h with h | ⟨b,e,h1,h2⟩
 ·exact .inl h
 ·refine .inr ⟨b,e,(hg.block b (blk_lt h1) (fun e=>?_)).trans h1,h2⟩
  obtain ⟨cs2,hc2⟩:=Kd.R_typed hr b e.symm
  rw [h1] at hc2
  injection hc2 with hc2
  injection hc2 with _ e _
  exact absurd e (by decide)
theorem copy_all {ys:List (Option Nat)} {k:Nat} (h:ys.length=k):ys.take (min k (List.replicate k (none:Option Nat)).length)++(List.replicate k (none:Option Nat)).drop (min k (List.replicate k (none:Option Nat)).length)=ys:=by
 rw [List.length_replicate,Nat.min_self,List.drop_of_length_le (by simp),List.append_nil,List.take_of_length_le (by omega)]
theorem ltrt_le (ts:List Tb) (r:Rg):rtN ts r≤ts.length:=by
 have:=List.countP_le_length (p:=fun i => !decide (cmpK r.hi (Ls.tAt ts i).small<0)) (l:=List.range ts.length)
 simpa [rtN] using this
/-- A whole struct is loaded, at a step of a region that draws its order. -/
theorem still_load {P:Program} {ops:Array Oper} {rest:List Oper} {o:Oper} {a:Act} {w:World} {Q:Act→Prop} (hgd:o.guard=none) (ty:TypeId) (x:Operand) (ho:o.op=.load ty x)
  (g:Nat) (hx:a.eval x=.pointer (some ⟨g,0,none⟩)) (t:TypeId) (cs:Array Value) (fr:Nat × Nat) (d:TypeDesc) (hg:w.heap[g]? = some (.cells cs t fr))
  (hu:P.underlying ty=some d) (hd:(match d with | .struct _ | .array _ _=>true | _=>false)=true) (hi:(P.info? ty).map (·.size)=some cs.size)
  (h:wpStill P ops w Q rest (a.put o.dst (.agg cs))):wpStill P ops w Q (o :: rest) a:=by
 refine wpStill_step (fun K hK=>?_)
 have hw:Region.wanted o (yielded ops a.tmps)=true:=by simp [Region.wanted,hgd]
 rw [if_pos hw]
 unfold Oper.still execOp
 simp only [ho,hx,Instr.loadAt,Instr.sureAddr,Sem.run_bind,Sem.run_pure,Result.andThen_ok,run_loadVar_row w g t ty cs fr d hg hu hd hi,Oper.stillUpon]
 exact ⟨trivial,hK _ h⟩
theorem info129:(Tryz.prog.info? 129).map (·.size)=some 26:=by kernel_rfl
set_option maxRecDepth 100000 in
set_option maxHeartbeats 8000000 in
theorem lbase_calls [Ghost] {w:World} {S:Nat→Prop} {n0 sb ob mb:Nat} {lv cv:Value} {hs:List Hd} {cs:List Nat} {o:Lm.Op} {rgs:List (List Rg)} {run:List Int} {c:Cd} {cdb n:Nat} {h0 hn:Hd}
  (h:Cor w S n0 sb ob mb lv cv hs cs o rgs run) (hb:w.heap[cdb]? = some (.cells (cdC c) 129 (0,0))) (hcd:n0≤cdb) (e0:hs[0]? = some h0) (en:hs[n]? = some hn) (hn1:1≤n) (etl:c.tl=h0.hp) (enl:c.nl=some ⟨hn.hp,0,none⟩)
  (hsz:∀ x∈hs,x.ts.length≤10000∧∀ t∈x.ts,KLen t) (hlen:hs.length=cs.length) (hl:cs.length≤1000) (hr:RgsOk rgs) (hsc:c.sc≤9218868437227405312) (hm:Mono hn.ts (rgOf (takeTop rE h0.ts))) (hle:ltN hn.ts (rgOf (takeTop rE h0.ts))≤rtN hn.ts (rgOf (takeTop rE h0.ts))) :
  Calls Tryz.prog 90 #[.pointer (some ⟨sb,0,none⟩),.pointer (some ⟨cdb,0,none⟩)] w (LbPost w S n0 sb ob mb lv cv hs cs o rgs run c cdb n h0 hn):=by
 obtain ⟨Q,hQ⟩ : ∃ Q,Q=LbPost w S n0 sb ob mb lv cv hs cs o rgs run c cdb n h0 hn:=⟨_,rfl⟩
 rw [← hQ]
 have HQ:=hid hQ
 have H0:=hid h
 have HB0:=hid hb
 have HR:=hid hr
 have HM:=hid hm
 have HLE:=hid hle
 have HN:=hid (show n0≤cdb∧hs.length=cs.length∧cs.length≤1000 from ⟨hcd,hlen,hl⟩)
 have l0:=hsz h0 (List.mem_of_getElem? e0)
 have ln:=hsz hn (List.mem_of_getElem? en)
 obtain ⟨A0,c0,hL0⟩:=lrow_of (h.st.lev 0 h0 e0) (by have:=l0.1;omega)
 obtain ⟨An,cn,hLn⟩:=lrow_of (h.st.lev n hn en) (by have:=ln.1;omega)
 have HL0:=hid hL0
 have HLn:=hid hLn
 have HK0:=hid l0
 have HKn:=hid ln
 have HNP:=hid hn1
 have hnlt:=(List.getElem?_eq_some_iff.1 en).1
 have HNL:=hid (show n<cs.length by omega)
 have HSC:=hid hsc
 have HE0:=hid e0
 have HEN:=hid en
 clear hQ h hb hr hm hle hcd hlen hl hsz hL0 hLn l0 ln e0 en hnlt hsc
 obtain ⟨id,bl,tA,tn,tc,fA,fn,fc,lv0,sc,tl,nl,pA,pn,pc,qA,qn,qc,a1,b1,r1,a2,b2,r2,sA,sn,ss,sz⟩:=c
 simp only at etl enl HQ HSC
 subst etl
 subst enl
 have m12:w.cell? ⟨cdb,12,none⟩=some (.pointer (some ⟨hn.hp,0,none⟩)):=blk_cell HB0.out 12
 have m6:w.cell? ⟨cdb,6,none⟩=some (.float .f64 sc):=blk_cell HB0.out 6
 have m11:w.cell? ⟨cdb,11,none⟩=some (.pointer (some ⟨h0.hp,0,none⟩)):=blk_cell HB0.out 11
 have m25:w.cell? ⟨cdb,25,none⟩=some (.slice none 0 0):=blk_cell HB0.out 25
 have k3:=HLn.out.c3
 have k0:=HL0.out.c0
 have d0:((n:Int) == 0)=false:=beq_eq_false_iff_ne.2 (by have:=HNP.out;omega)
 have g0:=ord_f HSC.out 0 (by decide)
 have g1:=ord_f HSC.out 4607182418800017408 (by decide)
 go_enter Tryz.func90,Tryz.ntmps90
 go_upto_region 3 with (fail)
 go_cut [35] from 22 to 35 (fun v35 wc=>v35=.bool (lowF sc)∧w=wc)
 case first =>
  by_cases h1:0<sc
  ·have e1:compare sc 0=.gt:=Nat.compare_eq_gt.2 h1
   rw [e1] at g0
   by_cases h2:sc<4607182418800017408
   ·have e2:compare sc 4607182418800017408=.lt:=Nat.compare_eq_lt.2 h2
    rw [e2] at g1
    have hlow:=hid (show lowF sc=true by simp [lowF,h1,h2])
    clear e1 e2 h1 h2
    go_wp2_with fail
    go_meet
    case rel=>exact ⟨by rw [hlow.out],rfl⟩
   ·have hlow:=hid (show lowF sc=false by simp [lowF,h2])
    by_cases h3:sc=4607182418800017408
    ·have e2:compare sc 4607182418800017408=.eq:=Nat.compare_eq_eq.2 h3
     rw [e2] at g1
     clear e1 e2 h1 h2 h3
     go_wp2_with fail
     go_meet
     case rel=>exact ⟨by rw [hlow.out],rfl⟩
    ·have e2:compare sc 4607182418800017408=.gt:=Nat.compare_eq_gt.2 (by omega)
     rw [e2] at g1
     clear e1 e2 h1 h2 h3
     go_wp2_with fail
     go_meet
     case rel=>exact ⟨by rw [hlow.out],rfl⟩
  ·have hlow:=hid (show lowF sc=false by simp [lowF];omega)
   have e1:compare sc 0=.eq:=Nat.compare_eq_eq.2 (by omega)
   rw [e1] at g0
   clear e1 h1
   go_wp2_with fail
   go_meet
   case rel=>exact ⟨by rw [hlow.out],rfl⟩
 case rest =>
  obtain ⟨rfl,rfl⟩:=hcut
  clear g0 g1
  obtain ⟨lw,hlw⟩ : ∃ b,b=lowF sc:=⟨_,rfl⟩
  rw [← hlw]
  have HLW:=hid hlw
  clear hlw
  cases lw with
  | true =>
   go_wp2_with fail
   rw [HQ.out]
   show if lowF sc || h0.ts.length == 0 then _ else _
   rw [← HLW.out,Bool.true_or,if_pos rfl]
   exact ⟨rfl,Below.refl _ _⟩
  | false =>
   by_cases hz:h0.ts.length=0
   ·have dz:((h0.ts.length:Int) == 0)=true:=by rw [hz];rfl
    have HZ:=hid hz
    clear hz
    go_wp2_with fail
    rw [HQ.out]
    show if lowF sc || h0.ts.length == 0 then _ else _
    rw [if_pos (by rw [HZ.out];simp)]
    exact ⟨rfl,Below.refl _ _⟩
   ·have dz:((h0.ts.length:Int) == 0)=false:=beq_eq_false_iff_ne.2 (by omega)
    have HZ:=hid hz
    clear hz
    go_upto_block 0 with (fail)
    obtain ⟨w1,hw1⟩ : ∃ w1,w1=w.alloc (.cells #[.slice none 0 0,.slice none 0 0,.bool false,.int .i64 0] 126):=⟨_,rfl⟩
    rw [← hw1]
    obtain ⟨kb,hkb⟩ : ∃ b,b=w.heap.size:=⟨_,rfl⟩
    rw [← hkb]
    have HW1:=hid (show LoI w w1 h0.ts h0.ps kb 0 (.slice none 0 0) rE none none from ⟨by rw [hw1];exact below_alloc (Below.refl _ _) _,by rw [List.take_zero];exact Kd.R_nil _ _ _ _ _,by rw [hw1,hkb];exact blk_new w _,.inl ⟨rfl,rfl⟩,.inl ⟨rfl,rfl⟩,.inl ⟨rfl,rfl⟩,rfl,by simp,Nat.zero_le _⟩)
    have HKB:=hid (show w.heap.size≤kb by omega)
    clear hw1 hkb
    go_cut [6,9,10] from 53 to 71 (fun v6 v9 v10 wc=>ptrK.R 140 wc w.heap.size (fun _=>True) v6 (h0.ps.take (takeTop rE h0.ts).length)∧Below w.heap.size w wc)
    case first =>
     go_wp2_with fail
     go_loopg [6,9,10,55] h0.ts.length (fun kq v6 v9 v10 v55 wr=>∃ (j:Nat) (r:Rg) (A B:Option Addr),v55=.int .i64 (j:Int)∧Aside0 (j+kq=h0.ts.length)∧Aside0 (LoI w wr h0.ts h0.ps kb j v6 r A B))
     case atStart=>exact ⟨0,rE,none,none,rfl,⟨by omega⟩,⟨HW1.out⟩⟩
     case round =>
      clear HW1
      obtain ⟨j,r,A,B,rfl,HJ,HQJ⟩:=hrel
      have HI:=hid HQJ.out
      clear HQJ
      by_cases hj:j<h0.ts.length
      ·have d1:decide ((j:Int)<(h0.ts.length:Int))=true:=decide_eq_true (by omega)
       have HGK:=hid (show gk - 1<gk∧j+1+(gk - 1)=h0.ts.length by have:=HJ.out;omega)
       have s3:IntKind.i64.wrap ((j:Int)+1)=((j+1:Nat):Int):=by rw [IntWalk.i64_in _ (by have:=HK0.out.1;omega)];omega
       obtain ⟨g8,p,eA,cj,tj⟩:=(HL0.out.below HI.out.bel).tr j hj
       subst eA
       simp only [ptr] at cj
       have cj2:=cj
       have HT:=hid tj
       have HKT:=hid (HK0.out.2 _ (It.tAt_mem hj))
       have HTK:=hid (show takeTop r (h0.ts.drop j)=if ovR r (rgOf [Ls.tAt h0.ts j]) then Ls.tAt h0.ts j :: takeTop (extR r (rgOf [Ls.tAt h0.ts j])) (h0.ts.drop (j+1)) else [] by rw [drop_at hj];rfl)
       have HTE:=hid (show h0.ts.take (j+1)=h0.ts.take j++[Ls.tAt h0.ts j] by rw [List.take_succ_eq_append_getElem hj];simp [Ls.tAt,hj])
       have HPE:=hid (show h0.ps.take (j+1)=h0.ps.take j++[p] by
        have hj2:j<h0.ps.length:=by rw [HL0.out.pl];exact hj
        obtain ⟨ad,e,hc⟩:=(Kd.reads_of_C (d:=0) (Kd.C_below HL0.out.pc HI.out.bel)).at_ (j:Int) (by omega) (by omega)
        have e2:(⟨g8,0,none⟩ : Addr)=ad:=Option.some.inj e
        rw [← e2,Int.toNat_natCast,add_off,Nat.zero_add,cj] at hc
        have e3:p=h0.ps.getD j 0:=by
         injection hc with hc
         simp only [ptr,rdOf,Int.toNat_natCast] at hc
         injection hc with hc
         injection hc with hc
         injection hc
        rw [List.take_succ_eq_append_getElem hj2,e3]
        simp [hj2])
       have HJL:=hid hj
       obtain ⟨t,ht⟩ : ∃ t,t=Ls.tAt h0.ts j:=⟨_,rfl⟩
       rw [← ht] at HT HKT HTK HTE
       obtain ⟨d,hd⟩ : ∃ d,d=rgOf [t]:=⟨_,rfl⟩
       rw [← hd] at HTK
       have HD:=hid hd
       have HDI:=hid (show (8≤d.lo.length∧d.lo.length≤100000100)∧(8≤d.hi.length∧d.hi.length≤100000100)∧d.inf=false by rw [hd];exact rgOf1_iv t HKT.out)
       clear tj ht hd hj
       go_upto_region 15 with (fail)
       have K95:=hid (range_calls (w:=wr.alloc (.cells #[.pointer (some ⟨p,0,none⟩)] 140)) (A:=some ⟨wr.heap.size,0,none⟩) (c:=1) (ts:=[t]) (fun i hi=>by
        have hi0:i=0:=by simpa using hi
        subst hi0
        exact ⟨wr.heap.size,p,rfl,by rw [blk_cell (blk_new wr _)];rfl,Nw.tab_below (below_alloc (Below.refl _ _) _) HT.out⟩) (by simp) (by intro u hu;rw [List.mem_singleton.1 hu];exact HKT.out))
       rw [← HD.out] at K95
       have HBA:=hid (show Below w.heap.size w (wr.alloc (.cells #[.pointer (some ⟨p,0,none⟩)] 140)) from below_alloc HI.out.bel _)
       have HBR:=hid (show Below wr.heap.size wr (wr.alloc (.cells #[.pointer (some ⟨p,0,none⟩)] 140)) from below_alloc (Below.refl _ _) _)
       go_wp2_with fail
       refine K95.out.mono ?_
       rintro e w3 ⟨A1,B1,rfl,q1,q2,hb3⟩
       have HB3:=hid (below_step HBA.out hb3)
       have HBR3:=hid (below_step HBR.out hb3)
       have HQ1:=hid (q1.mono (ok':=fun k=>w.heap.size≤k) (fun b hb2 _ _=>Nat.le_trans HBA.out.size hb2))
       have HQ2:=hid (q2.mono (ok':=fun k=>w.heap.size≤k) (fun b hb2 _ _=>Nat.le_trans HBA.out.size hb2))
       clear q1 q2 hb3 K95 HBA HBR cj
       simp only [rgC]
       go_upto_region 16 with (fail)
       obtain ⟨w4,hw4⟩ : ∃ w4,w4=w3.alloc (.cells #[.slice A1 d.lo.length d.lo.length,.slice B1 d.hi.length d.hi.length,.bool d.inf,.int .i64 0] 126):=⟨_,rfl⟩
       rw [← hw4]
       obtain ⟨nb,hnb⟩ : ∃ b,b=w3.heap.size:=⟨_,rfl⟩
       rw [← hnb]
       have HBR4:=hid (show Below wr.heap.size wr w4 by rw [hw4];exact below_alloc HBR3.out _)
       have HB4:=hid (show Below w.heap.size w w4 by rw [hw4];exact below_alloc HB3.out _)
       have HY:=hid (show w4.heap[nb]? = some (.cells #[.slice A1 d.lo.length d.lo.length,.slice B1 d.hi.length d.hi.length,.bool d.inf,.int .i64 0] 126 (0,0)) by rw [hw4,hnb];exact blk_new w3 _)
       have HQ14:=hid (show KB w4 (fun k=>w.heap.size≤k) A1 d.lo by rw [hw4];exact HQ1.out.below (below_alloc (Below.refl _ _) _))
       have HQ24:=hid (show KB w4 (fun k=>w.heap.size≤k) B1 d.hi by rw [hw4];exact HQ2.out.below (below_alloc (Below.refl _ _) _))
       have HNK:=hid (show nb≠kb by have:=blk_lt HI.out.blk;have:=HBR3.out.size;omega)
       clear hw4 hnb HB3 HBR3 HQ1 HQ2
       have HX4:=hid ((HBR4.out.block _ (blk_lt HI.out.blk)).trans HI.out.blk)
       have x0:w4.cell? ⟨kb,0,none⟩=some (.slice A r.lo.length r.lo.length):=blk_cell HX4.out 0
       have x1:w4.cell? ⟨kb,1,none⟩=some (.slice B r.hi.length r.hi.length):=blk_cell HX4.out 1
       have x2:w4.cell? ⟨kb,2,none⟩=some (.bool r.inf):=blk_cell HX4.out 2
       have x3:w4.cell? ⟨kb,3,none⟩=some (.int .i64 0):=blk_cell HX4.out 3
       have y0:=blk_cell HY.out 0
       have y1:=blk_cell HY.out 1
       have y2:=blk_cell HY.out 2
       have y3:=blk_cell HY.out 3
       have HK14:=hid (HI.out.k1.below HBR4.out)
       have HK24:=hid (HI.out.k2.below HBR4.out)
       have K119:=hid (ovR_calls (w:=w4) (HK14.out.mono (fun _ _ _ _=>trivial)) (HK24.out.mono (fun _ _ _ _=>trivial)) (HQ14.out.mono (fun _ _ _ _=>trivial)) (HQ24.out.mono (fun _ _ _ _=>trivial)) HI.out.ok (.inr ⟨HDI.out.1,HDI.out.2.1⟩))
       simp only [rgC] at K119
       obtain ⟨q,hq⟩ : ∃ q,q=ovR r d:=⟨_,rfl⟩
       rw [← hq] at K119
       rw [← hq] at HTK
       clear hq
       go_wp2_with fail
       refine K119.out.mono ?_
       rintro e w5 ⟨rfl,hb5⟩
       have HBR5:=hid (below_step HBR4.out hb5)
       have HB5:=hid (below_step HB4.out hb5)
       have HY5:=hid ((hb5.block _ (blk_lt HY.out)).trans HY.out)
       have HX5:=hid ((hb5.block _ (blk_lt HX4.out)).trans HX4.out)
       have HK15:=hid (HK14.out.below hb5)
       have HK25:=hid (HK24.out.below hb5)
       have HQ15:=hid (HQ14.out.below hb5)
       have HQ25:=hid (HQ24.out.below hb5)
       clear hb5 x0 x1 x2 x3 y0 y1 y2 y3 K119 HBR4 HB4 HY HX4 HK14 HK24 HQ14 HQ24
       cases q with
       | true =>
        have HR5:=hid (Kd.R_below HI.out.row HBR5.out)
        go_upto_region 18 with (first | ((with_reducible refine gate_builtin (b:=.append) (xs:=#[.tmp 65,.tmp 67]) rfl ?_);at_builtin;refine Kd.R_append ptrK (w0:=w) w.heap.size rfl (.tmp 65) (.tmp 67) 124 140 (.pointer none) 8 rfl Tryz.underlying124 info140 rfl (by decide) (by omega) u6 (h0.ps.take j) p [ptr p] (fun _=>True) (fun _=>False) rfl rfl ?aP (fun _ hk=>hk.elim) ?aF ?aO ?aB ?aS ?aL ?_;(case aP=>exact rfl);(case aB=>exact HB5.out);(case aF=>exact (fun _ _=>trivial));(case aO=>exact HR5.out);(case aS=>exact below_size HB5.out);(case aL=>rw [List.length_take];have:=HK0.out.1;omega);intro v7 w7 ho hbb hg hat;have HR7:=hid ho;have HB7:=hid hbb;have HG7:=hid hg;clear ho hbb hg hat))
        clear HB5
        obtain ⟨ka,eka,hka,oka⟩ : ∃ b,A1=some ⟨b,0,none⟩∧w5.heap[b]? = some (keyO d.lo)∧w.heap.size≤b:=by
         rcases HQ15.out with h | ⟨b,e,h1,h2⟩
         ·have:=HDI.out.1.1
          rw [h.1] at this
          simp at this
         ·exact ⟨b,e,h1,h2⟩
        obtain ⟨kc,ekc,hkc,okc⟩ : ∃ b,B1=some ⟨b,0,none⟩∧w5.heap[b]? = some (keyO d.hi)∧w.heap.size≤b:=by
         rcases HQ25.out with h | ⟨b,e,h1,h2⟩
         ·have:=HDI.out.2.1.1
          rw [h.1] at this
          simp at this
         ·exact ⟨b,e,h1,h2⟩
        subst eka
        subst ekc
        have mv:∀ {b t:Nat} {arr:Array Value},w5.heap[b]? = some (.cells arr t (0,0))→t≠140→w7.heap[b]? = some (.cells arr t (0,0)):=fun h ht=>Nw.grown_blk HR5.out HG7.out h ht
        have mk:∀ {A:Option Addr} {x:List UInt8},KB w5 (fun k=>w.heap.size≤k) A x→KB w7 (fun k=>w.heap.size≤k) A x:=fun {A x} h=>by
         rcases h with h | ⟨b,e,h1,h2⟩
         ·exact .inl h
         ·exact .inr ⟨b,e,mv h1 (by decide),h2⟩
        have y0:=blk_cell (mv HY5.out (by decide)) 0
        have y1:=blk_cell (mv HY5.out (by decide)) 1
        have y2:=blk_cell (mv HY5.out (by decide)) 2
        have y3:=blk_cell (mv HY5.out (by decide)) 3
        have K100:=hid (ext_calls (w:=w7) (ok:=fun k=>w.heap.size≤k) (g:=kb) (o:=0) (T:=126) (A0:=A) (B0:=B) (arr:=(rgC A B r).toArray) (r:=r) (k:=d) (mv HX5.out (by decide)) (by decide) (fun i u hu=>by rw [Nat.zero_add];simpa using hu) (mv hka (by decide)) oka (mv hkc (by decide)) okc HDI.out.1 HDI.out.2.1 HDI.out.2.2 (mk HK15.out) (mk HK25.out) HI.out.ok HI.out.inf)
        clear mv mk hka hkc
        simp only [rgC] at K100
        obtain ⟨r2',hr2'⟩ : ∃ x,x=extR r d:=⟨_,rfl⟩
        have HRO:=hid (show RgOk r2'∧r2'.inf=false by rw [hr2'];exact ⟨ext_ok HI.out.ok (.inr ⟨HDI.out.1,HDI.out.2.1⟩) (fun _=>HDI.out.2.2),ext_inf HI.out.inf HDI.out.2.2⟩)
        rw [← hr2'] at K100
        rw [← hr2'] at HTK
        clear hr2'
        go_wp2_with fail
        refine K100.out.mono ?_
        rintro e w8 ⟨rfl,arr',A',B',hx1,hx2,hx3,hx4,hx5,hx6,hx7,hx8⟩
        have HKB8:=hid HKB.out
        have HI8:=hid (show LoI w w8 h0.ts h0.ps kb (j+1) v7 r2' A' B' from ⟨HB7.out.trans (below_at hx7 (fun k hk=>hx8 k (Nat.lt_of_lt_of_le hk HB7.out.size) (by have:=HKB.out;omega))),
         by
          rw [HPE.out]
          exact ptr_frame HR7.out (fun k hk e=>hx8 k hk (fun ek=>by
           obtain ⟨cs2,hc2⟩:=Kd.R_typed HR7.out k e
           have h2:=Nw.grown_blk HR5.out HG7.out HX5.out (by decide)
           rw [ek,h2] at hc2
           injection hc2 with hc2
           injection hc2 with _ e _
           exact absurd e (by decide))),
         by rw [hx1,four_of (hx4.trans rfl) hx2],hx5,hx6,HRO.out.1,HRO.out.2,by rw [HI.out.tk,HTK.out,if_pos trivial,HTE.out,List.append_assoc];rfl,HJL.out⟩)
        clear hx1 hx2 hx3 hx4 hx5 hx6 hx7 hx8 y0 y1 y2 y3 K100
        go_wp2_with fail
        go_roundg (gk - 1)
        case measure=>exact HGK.out.1
        case rel=>exact ⟨j+1,r2',A',B',rfl,⟨HGK.out.2⟩,⟨HI8.out⟩⟩
       | false =>
        have HEQ:=hid (show (takeTop rE h0.ts).length=j by
         rw [HI.out.tk,HTK.out]
         simp [List.length_take]
         have:=HJL.out
         omega)
        have HR5:=hid (show ptrK.R 140 w5 w.heap.size (fun _=>True) u6 (h0.ps.take (takeTop rE h0.ts).length) by rw [HEQ.out];exact Kd.R_below HI.out.row HBR5.out)
        go_wp2_with fail
        go_meet
        case rel=>exact ⟨HR5.out,HB5.out⟩
      ·have d1:decide ((j:Int)<(h0.ts.length:Int))=false:=decide_eq_false (by omega)
       have HEQ:=hid (show (takeTop rE h0.ts).length=j by
        rw [HI.out.tk,List.drop_of_length_le (by omega)]
        simp [takeTop,List.length_take]
        have:=HI.out.jl
        omega)
       have HR5:=hid (show ptrK.R 140 wr w.heap.size (fun _=>True) u6 (h0.ps.take (takeTop rE h0.ts).length) by rw [HEQ.out];exact HI.out.row)
       go_wp2_with fail
       go_meet
       case rel=>exact ⟨HR5.out,HI.out.bel⟩
    case rest =>
     have HRT:=hid hcut.1
     have HBT:=hid hcut.2
     clear hcut HW1 k3 k0
     obtain ⟨m,hm⟩ : ∃ m,m=(takeTop rE h0.ts).length:=⟨_,rfl⟩
     have HTM:=hid (show takeTop rE h0.ts=h0.ts.take m by rw [hm];exact takeTop_pre _ _)
     have HMP:=hid (show 0<m∧m≤h0.ts.length by
      refine ⟨by rw [hm];exact takeTop_pos (by have:=HZ.out;omega),?_⟩
      have:=congrArg List.length HTM.out
      rw [List.length_take,← hm] at this
      omega)
     rw [← hm] at HRT
     have HPL:=hid (show (h0.ps.take m).length=m by rw [List.length_take,HL0.out.pl];have:=HMP.out;omega)
     have HTL:=hid (show (takeTop rE h0.ts).length=m from hm.symm)
     clear hm
     obtain ⟨T,hT⟩ : ∃ T,T=takeTop rE h0.ts:=⟨_,rfl⟩
     rw [← hT] at HTM HTL HM HLE
     have HTT:=hid hT
     clear hT
     obtain ⟨A6,n6,c6,hv6⟩:=Nw.slice3 HRT.out
     subst hv6
     have hn6:n6=m:=(Kd.R_reads' HRT.out).1.trans HPL.out
     subst hn6
     obtain ⟨R1,hR1⟩ : ∃ R,R=rgOf T:=⟨_,rfl⟩
     have HR1:=hid hR1
     rw [← hR1] at HM HLE
     have P0:=hid (show Ph w wc S n0 sb ob mb lv cv hs cs o rgs run cdb ⟨id,bl,tA,tn,tc,fA,fn,fc,lv0,sc,h0.hp,some ⟨hn.hp,0,none⟩,pA,pn,pc,qA,qn,qc,a1,b1,r1,a2,b2,r2,sA,sn,ss,sz⟩ from ⟨HBT.out.mono (Nat.zero_le _),fun b hb _=>HBT.out.block b hb,(HBT.out.block _ (blk_lt HB0.out)).trans HB0.out,H0.out.below HBT.out⟩)
     have hkt:∀ t∈T,KLen t:=fun t ht=>HK0.out.2 t (by rw [HTM.out] at ht;exact List.mem_of_mem_take ht)
     have HKT:=hid hkt
     have htb0:Ls.Tabs wc (h0.ps.take n6) T:=by rw [HTM.out];exact tabs_take (HL0.out.below HBT.out).tb n6
     have K95:=hid (range_calls (w:=wc) (A:=A6) (c:=c6) (ts:=T) (trow_of HRT.out htb0) (by rw [HTL.out];have:=HK0.out.1;have:=HMP.out;omega) hkt)
     rw [HTL.out,← hR1] at K95
     clear hR1 hkt htb0
     go_upto_region 20 with (fail)
     go_wp2_with fail
     refine K95.out.mono ?_
     rintro e w3 ⟨A1,B1,rfl,q1,q2,hb3⟩
     have P1:=hid (P0.out.below hb3)
     have HRT1:=hid (Kd.R_below HRT.out hb3)
     have hnw:n0≤wc.heap.size:=P0.out.cor.nb
     have HQ1:=hid (q1.mono (ok':=fun k=>n0≤k) (fun b hb2 _ _=>Nat.le_trans hnw hb2))
     have HQ2:=hid (q2.mono (ok':=fun k=>n0≤k) (fun b hb2 _ _=>Nat.le_trans hnw hb2))
     clear q1 q2 hb3 K95 HRT P0 hnw
     simp only [rgC]
     have f15:=blk_frozen P1.out.blk 15
     have f16:=blk_frozen P1.out.blk 16
     have f17:=blk_frozen P1.out.blk 17
     have f18:=blk_frozen P1.out.blk 18
     have x15:w3.cell? ⟨cdb,15,none⟩=some (.slice a1 r1.lo.length r1.lo.length):=blk_cell P1.out.blk 15
     have x16:w3.cell? ⟨cdb,16,none⟩=some (.slice b1 r1.hi.length r1.hi.length):=blk_cell P1.out.blk 16
     have x17:w3.cell? ⟨cdb,17,none⟩=some (.bool r1.inf):=blk_cell P1.out.blk 17
     have x18:w3.cell? ⟨cdb,18,none⟩=some (.int .i64 0):=blk_cell P1.out.blk 18
     go_upto_region 21 with (fail)
     obtain ⟨w4,hw4⟩ : ∃ w4,w4=(((w3.setCell ⟨cdb,15,none⟩ (.slice A1 R1.lo.length R1.lo.length)).setCell ⟨cdb,16,none⟩ (.slice B1 R1.hi.length R1.hi.length)).setCell ⟨cdb,17,none⟩ (.bool R1.inf)).setCell ⟨cdb,18,none⟩ (.int .i64 0):=⟨_,rfl⟩
     rw [← hw4]
     have S1:=P1.out.set (c':=⟨id,bl,tA,tn,tc,fA,fn,fc,lv0,sc,h0.hp,some ⟨hn.hp,0,none⟩,pA,pn,pc,qA,qn,qc,A1,b1,⟨R1.lo,r1.hi,r1.inf⟩,a2,b2,r2,sA,sn,ss,sz⟩) HN.out.1 15 (.slice A1 R1.lo.length R1.lo.length) rfl
     have S2:=S1.set (c':=⟨id,bl,tA,tn,tc,fA,fn,fc,lv0,sc,h0.hp,some ⟨hn.hp,0,none⟩,pA,pn,pc,qA,qn,qc,A1,B1,⟨R1.lo,R1.hi,r1.inf⟩,a2,b2,r2,sA,sn,ss,sz⟩) HN.out.1 16 (.slice B1 R1.hi.length R1.hi.length) rfl
     have S3:=S2.set (c':=⟨id,bl,tA,tn,tc,fA,fn,fc,lv0,sc,h0.hp,some ⟨hn.hp,0,none⟩,pA,pn,pc,qA,qn,qc,A1,B1,R1,a2,b2,r2,sA,sn,ss,sz⟩) HN.out.1 17 (.bool R1.inf) rfl
     have S4:=S3.set (c':=⟨id,bl,tA,tn,tc,fA,fn,fc,lv0,sc,h0.hp,some ⟨hn.hp,0,none⟩,pA,pn,pc,qA,qn,qc,A1,B1,R1,a2,b2,r2,sA,sn,ss,sz⟩) HN.out.1 18 (.int .i64 0) rfl
     have P4:=hid S4
     have HRT4:=hid (ph_row (j:=18) (u:=.int .i64 0) (ph_row (j:=17) (u:=.bool R1.inf) (ph_row (j:=16) (u:=.slice B1 R1.hi.length R1.hi.length) (ph_row (j:=15) (u:=.slice A1 R1.lo.length R1.lo.length) HRT1.out P1.out.blk) S1.blk) S2.blk) S3.blk)
     have HQ14:=hid (kb_set (j:=18) (u:=.int .i64 0) (kb_set (j:=17) (u:=.bool R1.inf) (kb_set (j:=16) (u:=.slice B1 R1.hi.length R1.hi.length) (kb_set (j:=15) (u:=.slice A1 R1.lo.length R1.lo.length) HQ1.out P1.out.blk) S1.blk) S2.blk) S3.blk)
     have HQ24:=hid (kb_set (j:=18) (u:=.int .i64 0) (kb_set (j:=17) (u:=.bool R1.inf) (kb_set (j:=16) (u:=.slice B1 R1.hi.length R1.hi.length) (kb_set (j:=15) (u:=.slice A1 R1.lo.length R1.lo.length) HQ2.out P1.out.blk) S1.blk) S2.blk) S3.blk)
     rw [← hw4] at P4 HRT4 HQ14 HQ24
     clear hw4 S1 S2 S3 S4 f15 f16 f17 f18 x15 x16 x17 x18 P1 HRT1 HQ1 HQ2
     have f13:=blk_frozen P4.out.blk 13
     have x13:w4.cell? ⟨cdb,13,none⟩=some (.slice pA pn pc):=blk_cell P4.out.blk 13
     go_upto_region 22 with (fail)
     obtain ⟨w5,hw5⟩ : ∃ w5,w5=w4.setCell ⟨cdb,13,none⟩ (.slice A6 n6 c6):=⟨_,rfl⟩
     rw [← hw5]
     have P5:=hid (P4.out.set (c':=⟨id,bl,tA,tn,tc,fA,fn,fc,lv0,sc,h0.hp,some ⟨hn.hp,0,none⟩,A6,n6,c6,qA,qn,qc,A1,B1,R1,a2,b2,r2,sA,sn,ss,sz⟩) HN.out.1 13 (.slice A6 n6 c6) rfl)
     have HRT5:=hid (ph_row (j:=13) (u:=.slice A6 n6 c6) HRT4.out P4.out.blk)
     have HQ15:=hid (kb_set (j:=13) (u:=.slice A6 n6 c6) HQ14.out P4.out.blk)
     have HQ25:=hid (kb_set (j:=13) (u:=.slice A6 n6 c6) HQ24.out P4.out.blk)
     rw [← hw5] at P5 HRT5 HQ15 HQ25
     clear hw5 f13 x13 P4 HRT4 HQ14 HQ24
     have HRO:=hid (show (8≤R1.lo.length∧R1.lo.length≤100000100)∧8≤R1.hi.length∧R1.hi.length≤100000100 by
      have h:=rgOf_ok HKT.out
      rw [← HR1.out] at h
      rcases h with h | h
      ·exfalso
       have e:=HR1.out
       have hl:=HTL.out
       cases hT2:T with
       | nil=>rw [hT2] at hl;have:=HMP.out;simp at hl;omega
       | cons t ts =>
        rw [hT2] at e
        rw [e] at h
        have:=congrArg List.length h.1
        simp [rgOf,z8_len] at this
      ·exact h)
     obtain ⟨ka,eka,hka,oka⟩ : ∃ b,A1=some ⟨b,0,none⟩∧w5.heap[b]? = some (keyO R1.lo)∧n0≤b:=by
      rcases HQ15.out with h | ⟨b,e,h1,h2⟩
      ·have:=HRO.out.1.1
       rw [h.1] at this
       simp at this
      ·exact ⟨b,e,h1,h2⟩
     obtain ⟨kc,ekc,hkc,okc⟩ : ∃ b,B1=some ⟨b,0,none⟩∧w5.heap[b]? = some (keyO R1.hi)∧n0≤b:=by
      rcases HQ25.out with h | ⟨b,e,h1,h2⟩
      ·have:=HRO.out.2.1
       rw [h.1] at this
       simp at this
      ·exact ⟨b,e,h1,h2⟩
     subst eka
     subst ekc
     obtain ⟨An,cn,hLn⟩:=lrow_of (P5.out.cor.st.lev n hn HEN.out) (by have:=HKn.out.1;omega)
     have K97:=hid (overTabs_calls (w:=w5.drew) (r:=R1) (a:=ka) (b:=kc) hLn.c0 (hLn.below (below_drew (Below.refl _ _))).tr (by have:=HKn.out.1;omega) HKn.out.2 hka hkc HRO.out.1 HRO.out.2 HM.out)
     simp only [rgC] at K97
     have HLN5:=hid hLn
     clear hLn hka hkc
     have u0:w5.cell? ⟨cdb,12,none⟩=some (.pointer (some ⟨hn.hp,0,none⟩)):=blk_cell P5.out.blk 12
     have u1:w5.cell? ⟨cdb,15,none⟩=some (.slice (some ⟨ka,0,none⟩) R1.lo.length R1.lo.length):=blk_cell P5.out.blk 15
     have u2:w5.cell? ⟨cdb,16,none⟩=some (.slice (some ⟨kc,0,none⟩) R1.hi.length R1.hi.length):=blk_cell P5.out.blk 16
     have u3:w5.cell? ⟨cdb,17,none⟩=some (.bool R1.inf):=blk_cell P5.out.blk 17
     have u4:w5.cell? ⟨cdb,18,none⟩=some (.int .i64 0):=blk_cell P5.out.blk 18
     refine start_ (n:=15) (S:=fun w'=>w'.cell? ⟨cdb,12,none⟩=some (.pointer (some ⟨hn.hp,0,none⟩))∧w'.cell? ⟨cdb,15,none⟩=some (.slice (some ⟨ka,0,none⟩) R1.lo.length R1.lo.length)∧w'.cell? ⟨cdb,16,none⟩=some (.slice (some ⟨kc,0,none⟩) R1.hi.length R1.hi.length)∧w'.cell? ⟨cdb,17,none⟩=some (.bool R1.inf)∧w'.cell? ⟨cdb,18,none⟩=some (.int .i64 0)) (ds:=[]) #[false,false,false,false,false,false,false,false,false,false,false,false,false,false,false] (by kernel_rfl) rfl rfl ⟨u0,u1,u2,u3,u4⟩ (fun hHeld=>?_)
     refine pure_ (i:=0) (N:=some 82) (v:=?_) (a':=?_) #[true,false,false,false,false,false,false,false,false,false,false,false,false,false,false] rfl rfl (by kernel_rfl) (fun _ _ _ h=>h) (Or.inl ⟨by rfl,?_⟩) ?_ ?_
     rotate_left
     ·intro w'
      go_simp
      with_reducible rfl
     rotate_left
     ·simp only [Act.put,zA,zB,zC,i64_w,i32_w]
      rfl
     refine pure_ (i:=1) (N:=some 83) (v:=?_) (a':=?_) #[true,true,false,false,false,false,false,false,false,false,false,false,false,false,false] rfl rfl (by kernel_rfl) (fun _ _ _ h=>h) (Or.inl ⟨by rfl,?_⟩) ?_ ?_
     rotate_left
     ·intro w'
      go_simp
      with_reducible rfl
     rotate_left
     ·simp only [Act.put,zA,zB,zC,i64_w,i32_w]
      rfl
     refine pure_ (i:=2) (N:=some 84) (v:=?_) (a':=?_) #[true,true,true,false,false,false,false,false,false,false,false,false,false,false,false] rfl rfl (by kernel_rfl) (fun _ _ _ h=>h) (Or.inl ⟨by rfl,?_⟩) ?_ ?_
     rotate_left
     ·intro w'
      go_simp
      with_reducible rfl
     rotate_left
     ·simp only [Act.put,zA,zB,zC,i64_w,i32_w]
      rfl
     refine pure_ (i:=4) (N:=some 86) (v:=?_) (a':=?_) #[true,true,true,false,true,false,false,false,false,false,false,false,false,false,false] rfl rfl (by kernel_rfl) (fun _ _ _ h=>h) (Or.inl ⟨by rfl,?_⟩) ?_ ?_
     rotate_left
     ·intro w'
      go_simp
      with_reducible rfl
     rotate_left
     ·simp only [Act.put,zA,zB,zC,i64_w,i32_w]
      rfl
     refine pure_ (i:=5) (N:=some 87) (v:=?_) (a':=?_) #[true,true,true,false,true,true,false,false,false,false,false,false,false,false,false] rfl rfl (by kernel_rfl) (fun _ _ _ h=>h) (Or.inl ⟨by rfl,?_⟩) ?_ ?_
     rotate_left
     ·intro w'
      go_simp
      with_reducible rfl
     rotate_left
     ·simp only [Act.put,zA,zB,zC,i64_w,i32_w]
      rfl
     refine pure_ (i:=6) (N:=some 88) (v:=?_) (a':=?_) #[true,true,true,false,true,true,true,false,false,false,false,false,false,false,false] rfl rfl (by kernel_rfl) (fun _ _ _ h=>h) (Or.inl ⟨by rfl,?_⟩) ?_ ?_
     rotate_left
     ·intro w'
      go_simp
      with_reducible rfl
     rotate_left
     ·simp only [Act.put,zA,zB,zC,i64_w,i32_w]
      rfl
     refine pure_ (i:=7) (N:=some 89) (v:=?_) (a':=?_) #[true,true,true,false,true,true,true,true,false,false,false,false,false,false,false] rfl rfl (by kernel_rfl) (fun _ _ _ h=>h) (Or.inl ⟨by rfl,?_⟩) ?_ ?_
     rotate_left
     ·intro w'
      go_simp
      with_reducible rfl
     rotate_left
     ·simp only [Act.put,zA,zB,zC,i64_w,i32_w]
      rfl
     refine take_ (i:=3) (N:=some 85) (v:=?_) (a':=?_) #[true,true,true,true,true,true,true,true,false,false,false,false,false,false,false] rfl rfl (by kernel_rfl) (fun _ _ _ h=>h) (Or.inl ⟨by rfl,?_⟩) hHeld ?_ ?_
     rotate_left
     ·rintro w' ⟨s0,s1,s2,s3,s4⟩
      go_simp
      with_reducible rfl
     rotate_left
     ·simp only [Act.put,zA,zB,zC,i64_w,i32_w]
      rfl
     refine take_ (i:=8) (N:=some 90) (v:=?_) (a':=?_) #[true,true,true,true,true,true,true,true,true,false,false,false,false,false,false] rfl rfl (by kernel_rfl) (fun _ _ _ h=>h) (Or.inl ⟨by rfl,?_⟩) hHeld ?_ ?_
     rotate_left
     ·rintro w' ⟨s0,s1,s2,s3,s4⟩
      go_simp
      with_reducible rfl
     rotate_left
     ·simp only [Act.put,zA,zB,zC,i64_w,i32_w]
      rfl
     refine one_ (i:=9) (N:=some 91) #[true,true,true,true,true,true,true,true,true,true,false,false,false,false,false] rfl rfl (by kernel_rfl) (by decide) (fun K hK=>?_)
     refine goes_ Tryz.func97 (by kernel_rfl) rfl #[.pointer (some ⟨hn.hp,0,none⟩),.agg #[],.agg #[.slice (some ⟨ka,0,none⟩) R1.lo.length R1.lo.length,.slice (some ⟨kc,0,none⟩) R1.hi.length R1.hi.length,.bool R1.inf,.int .i64 0]] (by rfl) rfl rfl (by simp only [List.map_toArray,List.map_cons,List.map_nil];rfl) ?_
     with_reducible refine (K97.out).mono ?_
     rintro e w6 ⟨rfl,hb6⟩
     refine ⟨_,rfl,?_⟩
     have HB6:=hid (show Below w5.heap.size w5 w6 from below_step (below_drew (Below.refl _ _)) hb6)
     refine hK.out _ _ ⟨(HB6.out.cell (World.block_lt_of_cell? w5 _ u0)).trans u0,(HB6.out.cell (World.block_lt_of_cell? w5 _ u1)).trans u1,(HB6.out.cell (World.block_lt_of_cell? w5 _ u2)).trans u2,(HB6.out.cell (World.block_lt_of_cell? w5 _ u3)).trans u3,(HB6.out.cell (World.block_lt_of_cell? w5 _ u4)).trans u4⟩ (fun hHeld=>?_)
     clear hK K
     refine norm_ (a':=?_) ?_ ?_
     rotate_left
     ·show Act.put _ (some 91) _=_
      simp only [Act.put,zA,zB,zC,i64_w,i32_w]
      rfl
     refine pure_ (i:=10) (N:=some 81) (v:=?_) (a':=?_) #[true,true,true,true,true,true,true,true,true,true,true,false,false,false,false] rfl rfl (by kernel_rfl) (fun _ _ _ h=>h) (Or.inl ⟨by rfl,?_⟩) ?_ ?_
     rotate_left
     ·intro w'
      go_simp
      with_reducible rfl
     rotate_left
     ·simp only [Act.put,zA,zB,zC,i64_w,i32_w]
      rfl
     refine pure_ (i:=11) (N:=some 92) (v:=?_) (a':=?_) #[true,true,true,true,true,true,true,true,true,true,true,true,false,false,false] rfl rfl (by kernel_rfl) (fun _ _ _ h=>h) (Or.inl ⟨by rfl,?_⟩) ?_ ?_
     rotate_left
     ·intro w'
      go_simp
      with_reducible rfl
     rotate_left
     ·simp only [Act.put,zA,zB,zC,i64_w,i32_w]
      rfl
     refine pure_ (i:=12) (N:=some 93) (v:=?_) (a':=?_) #[true,true,true,true,true,true,true,true,true,true,true,true,true,false,false] rfl rfl (by kernel_rfl) (fun _ _ _ h=>h) (Or.inl ⟨by rfl,?_⟩) ?_ ?_
     rotate_left
     ·intro w'
      go_simp
      with_reducible rfl
     rotate_left
     ·simp only [Act.put,zA,zB,zC,i64_w,i32_w]
      rfl
     refine pure_ (i:=13) (N:=some 11) (v:=?_) (a':=?_) #[true,true,true,true,true,true,true,true,true,true,true,true,true,true,false] rfl rfl (by kernel_rfl) (fun _ _ _ h=>h) (Or.inl ⟨by rfl,?_⟩) ?_ ?_
     rotate_left
     ·intro w'
      go_simp
      with_reducible rfl
     rotate_left
     ·simp only [Act.put,zA,zB,zC,i64_w,i32_w]
      rfl
     refine pure_ (i:=14) (N:=some 12) (v:=?_) (a':=?_) #[true,true,true,true,true,true,true,true,true,true,true,true,true,true,true] rfl rfl (by kernel_rfl) (fun _ _ _ h=>h) (Or.inl ⟨by rfl,?_⟩) ?_ ?_
     rotate_left
     ·intro w'
      go_simp
      with_reducible rfl
     rotate_left
     ·simp only [Act.put,zA,zB,zC,i64_w,i32_w]
      rfl
     refine done_ (by kernel_rfl) ?_
     have P6:=hid (P5.out.below HB6.out)
     have HRT6:=hid (Kd.R_below HRT5.out HB6.out)
     have HQ16:=hid (HQ15.out.below HB6.out)
     have HQ26:=hid (HQ25.out.below HB6.out)
     clear hHeld u0 u1 u2 u3 u4 hb6 HB6 P5 HRT5 HQ15 HQ25 K97 HLN5
     obtain ⟨l,hl⟩ : ∃ l,l=ltN hn.ts R1:=⟨_,rfl⟩
     obtain ⟨rr,hrr⟩ : ∃ r,r=rtN hn.ts R1:=⟨_,rfl⟩
     rw [← hl,← hrr]
     have HLR:=hid (show l≤rr∧rr≤hn.ts.length from ⟨by rw [hl,hrr];exact HLE.out,by rw [hrr];exact ltrt_le _ _⟩)
     have HBL:=hid (show botL hn.ts R1=(hn.ts.take rr).drop l by rw [hl,hrr];rfl)
     clear hl hrr HLE
     have s5:IntKind.i64.wrap ((rr:Int) - (l:Int))=((rr - l:Nat):Int):=by rw [IntWalk.i64_in _ (by have:=HLR.out;have:=HKn.out.1;omega)];have:=HLR.out;omega
     have HK:=hid (show rr - l≤10000 by have:=HLR.out;have:=HKn.out.1;omega)
     obtain ⟨k,hk⟩ : ∃ k,k=rr - l:=⟨_,rfl⟩
     rw [← hk] at s5 HK
     have HKL:=hid hk
     clear hk
     have f14:=blk_frozen P6.out.blk 14
     have x14:w6.cell? ⟨cdb,14,none⟩=some (.slice qA qn qc):=blk_cell P6.out.blk 14
     have HN6:=hid (show n0≤w6.heap.size∧w.heap.size≤w6.heap.size∧cdb<w6.heap.size from ⟨P6.out.cor.nb,P6.out.bel.size,blk_lt P6.out.blk⟩)
     go_upto_region 24 with (first | ((with_reducible refine gate_dst (N:=98) rfl ?_);refine Kd.R_make ptrO (w0:=w6) w6.heap.size 140 ?hg (N:=98) ?hd 124 (.tmp 97) (.tmp 97) rfl (k:Int) ?hx ?hy Tryz.underlying124 (.pointer none) 8 info140 rfl (by decide) (by decide) none (okp:=fun _=>False) (ok:=fun _=>True) ?hz (fun _ h=>h.elim) trivial ?h0 ?hl (Below.refl _ _) (Nat.le_refl _) ?_;(case hg=>rfl);(case hd=>rfl);(case hx=>rfl);(case hy=>rfl);(case hz=>rfl);(case h0=>omega);(case hl=>(rw [Int.toNat_natCast];have:=HK.out;omega));intro v7 w7 ho hb hg hnew;have HR7:=hid ho;have HB7:=hid hb;clear ho hb hg hnew;obtain ⟨A7,n7,c7,hv7⟩ : ∃ A n c,v7=.slice A n c:=(by obtain ⟨A,c,e⟩:=Kd.R_slice HR7.out;exact ⟨A,_,c,e⟩);subst hv7;have f14:=blk_frozen ((HB7.out.block _ (blk_lt P6.out.blk)).trans P6.out.blk) 14;have x14:w7.cell? ⟨cdb,14,none⟩=some (.slice qA qn qc):=blk_cell ((HB7.out.block _ (blk_lt P6.out.blk)).trans P6.out.blk) 14))
     obtain ⟨w8,hw8⟩ : ∃ w8,w8=w7.setCell ⟨cdb,14,none⟩ (.slice A7 n7 c7):=⟨_,rfl⟩
     rw [← hw8]
     have P7:=P6.out.below HB7.out
     have P8:=hid (P7.set (c':=⟨id,bl,tA,tn,tc,fA,fn,fc,lv0,sc,h0.hp,some ⟨hn.hp,0,none⟩,A6,n6,c6,A7,n7,c7,some ⟨ka,0,none⟩,some ⟨kc,0,none⟩,R1,a2,b2,r2,sA,sn,ss,sz⟩) HN.out.1 14 (.slice A7 n7 c7) rfl)
     have HRT8:=hid (ph_row (j:=14) (u:=.slice A7 n7 c7) (Kd.R_below HRT6.out HB7.out) P7.blk)
     have HQ18:=hid (kb_set (j:=14) (u:=.slice A7 n7 c7) (HQ16.out.below HB7.out) P7.blk)
     have HQ28:=hid (kb_set (j:=14) (u:=.slice A7 n7 c7) (HQ26.out.below HB7.out) P7.blk)
     have HR8:=hid (Kd.R_set (j:=14) (u:=.slice A7 n7 c7) HR7.out P7.blk (by intro q hq;have:q∈[140]:=hq;rw [List.mem_singleton.1 this];decide))
     have HZ8:=hid (show w6.heap.size≤w8.heap.size by rw [hw8];simpa using HB7.out.size)
     have HTL6:=hid (Kd.R_lt HRT6.out)
     rw [← hw8] at P8 HRT8 HQ18 HQ28 HR8
     clear hw8 P7 f14 x14 HR7 HB7 P6 HRT6 HQ16 HQ26
     have hkn:n7=k:=by have h:=(Kd.R_reads' HR8.out).1;rw [Int.toNat_natCast,List.length_replicate] at h;exact h
     subst hkn
     rw [Int.toNat_natCast] at HR8
     obtain ⟨An,cn,hLn⟩:=lrow_of (P8.out.cor.st.lev n hn HEN.out) (by have:=HKn.out.1;omega)
     obtain ⟨i0,hi0,hzz⟩:=Option.map_eq_some_iff.1 info140
     simp only [Prod.mk.injEq] at hzz
     obtain ⟨Am,hmid,hmr,hmc⟩:=print_mid_of ptr 0 124 140 .i64 .i64 Tryz.underlying124 hi0 hzz.2.1 An cn hn.ps (l:Int) (rr:Int) (by omega) (by have:=HLR.out;omega) (by rw [hLn.pl];have:=HLR.out;omega) (by rw [hLn.pl];exact hLn.le)
     have HMC:=hid (optC_ptr (Kd.C_of_reads (hmr w8.drew (by
      have h:=Kd.reads_of_C (enc:=ptr) (h1:=fun _=>rfl) (d:=0) hLn.pc
      rw [← hLn.pl] at h
      exact h))))
     rw [Int.toNat_natCast,Int.toNat_natCast] at HMC
     have HPM:=hid (show ((hn.ps.take rr).drop l).length=n7 by rw [List.length_drop,List.length_take,hLn.pl];have:=HLR.out;have:=HKL.out;omega)
     rw [Int.toNat_natCast,Int.toNat_natCast,HPM.out,hLn.pl] at hmid
     rw [HPM.out] at HMC
     have HTB8:=hid (tabs_mid hLn.tb l rr)
     have x14:w8.cell? ⟨cdb,14,none⟩=some (.slice A7 n7 c7):=blk_cell P8.out.blk 14
     have x12:w8.cell? ⟨cdb,12,none⟩=some (.pointer (some ⟨hn.hp,0,none⟩)):=blk_cell P8.out.blk 12
     have k0:=hLn.c0
     clear hmr hmc hi0 hzz hLn
     refine wp_region_still_tail 14 (by kernel_rfl) (by kernel_rfl) ?_
     simp only [List.take_succ_cons,List.take_zero,List.drop_succ_cons,List.drop_zero]
     repeat still_step
     refine wpStill_nil ?_
     change wpList _ _ _ _ _ w8.drew
     refine Kd.R_copy (enc:=ptrV) (h1:=fun _=>rfl) none (w0:=w8) w6.heap.size rfl (.tmp 104) (.tmp 114) 124 124 140 rfl Tryz.underlying124 (by kernel_rfl) (.slice A7 n7 c7) (List.replicate n7 none) (((hn.ps.take rr).drop l).map some) Am n7 (cn - l) (fun _=>True) rfl rfl (Kd.R_drew HR8.out) HMC.out (below_drew (Below.refl _ w8)) HZ8.out ?_
     intro w9 ho hb9 hg9
     rw [copy_all (by rw [List.length_map];exact HPM.out)] at ho
     have HB9:=hid (optR_ptr ho)
     have P9:=hid (Ph.grown (wr:=w8.drew) (P8.out.below (below_drew (Below.refl _ _))) (Kd.R_drew HR8.out) HN6.out.1 HN6.out.2.1 hg9)
     have HT9:=hid (ptr_frame HRT8.out (fun q _ e=>hb9.block q (HTL6.out q e)))
     have HQ19:=hid (kb_grown (wr:=w8.drew) (HQ18.out.below (below_drew (Below.refl _ _))) (Kd.R_drew HR8.out) hg9)
     have HQ29:=hid (kb_grown (wr:=w8.drew) (HQ28.out.below (below_drew (Below.refl _ _))) (Kd.R_drew HR8.out) hg9)
     have HTB9:=hid (tabs_move (w1:=w9) HTB8.out (fun b arr t hb ht=>hg9.block b (blk_lt (w:=w8.drew) hb) (fun e=>by
      obtain ⟨cs2,hc2⟩:=Kd.R_typed HR8.out b e.symm
      have hb2:w8.heap[b]? = some (.cells arr t (0,0)):=hb
      rw [hb2] at hc2
      injection hc2 with hc2
      injection hc2 with _ e _
      subst e
      rcases ht with ht | ht<;>exact absurd ht (by decide))))
     clear ho hb9 hg9 x14 x12 k0 hmid HMC P8 HRT8 HQ18 HQ28 HR8 HTB8
     have x14:w9.cell? ⟨cdb,14,none⟩=some (.slice A7 n7 c7):=blk_cell P9.out.blk 14
     go_upto_if 121 with (fail)
     obtain ⟨q0,hq0⟩ : ∃ q,q=((n7:Int) == 0):=⟨_,rfl⟩
     rw [← hq0]
     have HQ0:=hid hq0
     clear hq0
     go_cut [] from 122 to 136 (fun wx=>∃ A2 B2,Ph w wx S n0 sb ob mb lv cv hs cs o rgs run cdb ⟨id,bl,tA,tn,tc,fA,fn,fc,lv0,sc,h0.hp,some ⟨hn.hp,0,none⟩,A6,n6,c6,A7,n7,c7,some ⟨ka,0,none⟩,some ⟨kc,0,none⟩,R1,A2,B2,nextR R1 (botL hn.ts R1),sA,sn,ss,sz⟩∧ptrK.R 140 wx w.heap.size (fun _=>True) (.slice A6 n6 c6) (h0.ps.take n6)∧ptrK.R 140 wx w6.heap.size (fun _=>True) (.slice A7 n7 c7) ((hn.ps.take rr).drop l)∧KB wx (fun k=>n0≤k) (some ⟨ka,0,none⟩) R1.lo∧KB wx (fun k=>n0≤k) (some ⟨kc,0,none⟩) R1.hi∧KB wx (fun k=>n0≤k) A2 (nextR R1 (botL hn.ts R1)).lo∧KB wx (fun k=>n0≤k) B2 (nextR R1 (botL hn.ts R1)).hi)
     case first =>
      cases q0 with
      | true =>
       have hz:n7=0:=by have:=beq_iff_eq.1 HQ0.out.symm;omega
       have HZN:=hid (show nextR R1 (botL hn.ts R1)=R1 by
        unfold nextR
        rw [if_pos]
        have h:=HTB9.out.1
        rw [HPM.out] at h
        rw [HBL.out,← h]
        exact hz)
       have y15:w9.cell? ⟨cdb,15,none⟩=some (.slice (some ⟨ka,0,none⟩) R1.lo.length R1.lo.length):=blk_cell P9.out.blk 15
       have y16:w9.cell? ⟨cdb,16,none⟩=some (.slice (some ⟨kc,0,none⟩) R1.hi.length R1.hi.length):=blk_cell P9.out.blk 16
       have y17:w9.cell? ⟨cdb,17,none⟩=some (.bool R1.inf):=blk_cell P9.out.blk 17
       have y18:w9.cell? ⟨cdb,18,none⟩=some (.int .i64 0):=blk_cell P9.out.blk 18
       have f19:=blk_frozen P9.out.blk 19
       have f20:=blk_frozen P9.out.blk 20
       have f21:=blk_frozen P9.out.blk 21
       have f22:=blk_frozen P9.out.blk 22
       have y19:w9.cell? ⟨cdb,19,none⟩=some (.slice a2 r2.lo.length r2.lo.length):=blk_cell P9.out.blk 19
       have y20:w9.cell? ⟨cdb,20,none⟩=some (.slice b2 r2.hi.length r2.hi.length):=blk_cell P9.out.blk 20
       have y21:w9.cell? ⟨cdb,21,none⟩=some (.bool r2.inf):=blk_cell P9.out.blk 21
       have y22:w9.cell? ⟨cdb,22,none⟩=some (.int .i64 0):=blk_cell P9.out.blk 22
       have H9P:=hid P9.out
       have H9T:=hid HT9.out
       have H9B:=hid HB9.out
       clear hz
       go_wp2_with fail
       obtain ⟨wx,hwx⟩ : ∃ wx,wx=(((w9.setCell ⟨cdb,19,none⟩ (.slice (some ⟨ka,0,none⟩) R1.lo.length R1.lo.length)).setCell ⟨cdb,20,none⟩ (.slice (some ⟨kc,0,none⟩) R1.hi.length R1.hi.length)).setCell ⟨cdb,21,none⟩ (.bool R1.inf)).setCell ⟨cdb,22,none⟩ (.int .i64 0):=⟨_,rfl⟩
       rw [← hwx]
       have S1:=H9P.out.set (c':=⟨id,bl,tA,tn,tc,fA,fn,fc,lv0,sc,h0.hp,some ⟨hn.hp,0,none⟩,A6,n6,c6,A7,n7,c7,some ⟨ka,0,none⟩,some ⟨kc,0,none⟩,R1,some ⟨ka,0,none⟩,b2,⟨R1.lo,r2.hi,r2.inf⟩,sA,sn,ss,sz⟩) HN.out.1 19 (.slice (some ⟨ka,0,none⟩) R1.lo.length R1.lo.length) rfl
       have S2:=S1.set (c':=⟨id,bl,tA,tn,tc,fA,fn,fc,lv0,sc,h0.hp,some ⟨hn.hp,0,none⟩,A6,n6,c6,A7,n7,c7,some ⟨ka,0,none⟩,some ⟨kc,0,none⟩,R1,some ⟨ka,0,none⟩,some ⟨kc,0,none⟩,⟨R1.lo,R1.hi,r2.inf⟩,sA,sn,ss,sz⟩) HN.out.1 20 (.slice (some ⟨kc,0,none⟩) R1.hi.length R1.hi.length) rfl
       have S3:=S2.set (c':=⟨id,bl,tA,tn,tc,fA,fn,fc,lv0,sc,h0.hp,some ⟨hn.hp,0,none⟩,A6,n6,c6,A7,n7,c7,some ⟨ka,0,none⟩,some ⟨kc,0,none⟩,R1,some ⟨ka,0,none⟩,some ⟨kc,0,none⟩,R1,sA,sn,ss,sz⟩) HN.out.1 21 (.bool R1.inf) rfl
       have S4:=S3.set (c':=⟨id,bl,tA,tn,tc,fA,fn,fc,lv0,sc,h0.hp,some ⟨hn.hp,0,none⟩,A6,n6,c6,A7,n7,c7,some ⟨ka,0,none⟩,some ⟨kc,0,none⟩,R1,some ⟨ka,0,none⟩,some ⟨kc,0,none⟩,R1,sA,sn,ss,sz⟩) HN.out.1 22 (.int .i64 0) rfl
       have PX:=hid S4
       have HTX:=hid (ph_row (j:=22) (u:=(.int .i64 0)) (ph_row (j:=21) (u:=(.bool R1.inf)) (ph_row (j:=20) (u:=(.slice (some ⟨kc,0,none⟩) R1.hi.length R1.hi.length)) (ph_row (j:=19) (u:=(.slice (some ⟨ka,0,none⟩) R1.lo.length R1.lo.length)) H9T.out H9P.out.blk) S1.blk) S2.blk) S3.blk)
       have HBX:=hid (ph_row (j:=22) (u:=(.int .i64 0)) (ph_row (j:=21) (u:=(.bool R1.inf)) (ph_row (j:=20) (u:=(.slice (some ⟨kc,0,none⟩) R1.hi.length R1.hi.length)) (ph_row (j:=19) (u:=(.slice (some ⟨ka,0,none⟩) R1.lo.length R1.lo.length)) H9B.out H9P.out.blk) S1.blk) S2.blk) S3.blk)
       have kx:∀ {A:Option Addr} {x:List UInt8},KB w9 (fun k=>n0≤k) A x→KB wx (fun k=>n0≤k) A x:=fun {A x} h=>by
        rw [hwx]
        exact kb_set (j:=22) (u:=(.int .i64 0)) (kb_set (j:=21) (u:=(.bool R1.inf)) (kb_set (j:=20) (u:=(.slice (some ⟨kc,0,none⟩) R1.hi.length R1.hi.length)) (kb_set (j:=19) (u:=(.slice (some ⟨ka,0,none⟩) R1.lo.length R1.lo.length)) h H9P.out.blk) S1.blk) S2.blk) S3.blk
       rw [← hwx] at PX HTX HBX
       clear hwx S1 S2 S3 S4
       go_meet
       case rel=>exact ⟨some ⟨ka,0,none⟩,some ⟨kc,0,none⟩,by rw [HZN.out];exact PX.out,HTX.out,HBX.out,kx HQ19.out,kx HQ29.out,by rw [HZN.out];exact kx HQ19.out,by rw [HZN.out];exact kx HQ29.out⟩
      | false =>
       have hz:¬ n7=0:=by have:=beq_eq_false_iff_ne.1 HQ0.out.symm;omega
       obtain ⟨R2,hR2⟩ : ∃ R,R=rgOf (botL hn.ts R1):=⟨_,rfl⟩
       have HZN:=hid (show nextR R1 (botL hn.ts R1)=R2 by
        unfold nextR
        rw [if_neg,hR2]
        have h:=HTB9.out.1
        rw [HPM.out] at h
        rw [HBL.out,← h]
        exact hz)
       have hll:(botL hn.ts R1).length=n7:=by
        have h:=HTB9.out.1
        rw [HPM.out] at h
        rw [HBL.out,← h]
       have K95:=hid (range_calls (w:=w9) (A:=A7) (c:=c7) (ts:=botL hn.ts R1) (trow_of HB9.out (by rw [HBL.out];exact HTB9.out)) (by rw [hll];have:=HK.out;omega) (fun t ht=>HKn.out.2 t (by rw [HBL.out] at ht;exact List.mem_of_mem_take (List.mem_of_mem_drop ht))))
       rw [hll,← hR2] at K95
       clear hR2 hz hll
       go_wp2_with fail
       refine K95.out.mono ?_
       rintro e w10 ⟨A2,B2,rfl,q1,q2,hb10⟩
       have hnw:n0≤w9.heap.size:=P9.out.cor.nb
       have HQ1:=hid (q1.mono (ok':=fun k=>n0≤k) (fun b hb2 _ _=>Nat.le_trans hnw hb2))
       have HQ2:=hid (q2.mono (ok':=fun k=>n0≤k) (fun b hb2 _ _=>Nat.le_trans hnw hb2))
       have H9P:=hid (P9.out.below hb10)
       have H9T:=hid (Kd.R_below HT9.out hb10)
       have H9B:=hid (Kd.R_below HB9.out hb10)
       have HQ110:=hid (HQ19.out.below hb10)
       have HQ210:=hid (HQ29.out.below hb10)
       clear q1 q2 hb10 hnw K95 x14
       have f19:=blk_frozen H9P.out.blk 19
       have f20:=blk_frozen H9P.out.blk 20
       have f21:=blk_frozen H9P.out.blk 21
       have f22:=blk_frozen H9P.out.blk 22
       have y19:w10.cell? ⟨cdb,19,none⟩=some (.slice a2 r2.lo.length r2.lo.length):=blk_cell H9P.out.blk 19
       have y20:w10.cell? ⟨cdb,20,none⟩=some (.slice b2 r2.hi.length r2.hi.length):=blk_cell H9P.out.blk 20
       have y21:w10.cell? ⟨cdb,21,none⟩=some (.bool r2.inf):=blk_cell H9P.out.blk 21
       have y22:w10.cell? ⟨cdb,22,none⟩=some (.int .i64 0):=blk_cell H9P.out.blk 22
       simp only [rgC]
       go_wp2_with fail
       obtain ⟨wx,hwx⟩ : ∃ wx,wx=(((w10.setCell ⟨cdb,19,none⟩ (.slice (A2) R2.lo.length R2.lo.length)).setCell ⟨cdb,20,none⟩ (.slice (B2) R2.hi.length R2.hi.length)).setCell ⟨cdb,21,none⟩ (.bool R2.inf)).setCell ⟨cdb,22,none⟩ (.int .i64 0):=⟨_,rfl⟩
       rw [← hwx]
       have S1:=H9P.out.set (c':=⟨id,bl,tA,tn,tc,fA,fn,fc,lv0,sc,h0.hp,some ⟨hn.hp,0,none⟩,A6,n6,c6,A7,n7,c7,some ⟨ka,0,none⟩,some ⟨kc,0,none⟩,R1,A2,b2,⟨R2.lo,r2.hi,r2.inf⟩,sA,sn,ss,sz⟩) HN.out.1 19 (.slice (A2) R2.lo.length R2.lo.length) rfl
       have S2:=S1.set (c':=⟨id,bl,tA,tn,tc,fA,fn,fc,lv0,sc,h0.hp,some ⟨hn.hp,0,none⟩,A6,n6,c6,A7,n7,c7,some ⟨ka,0,none⟩,some ⟨kc,0,none⟩,R1,A2,B2,⟨R2.lo,R2.hi,r2.inf⟩,sA,sn,ss,sz⟩) HN.out.1 20 (.slice (B2) R2.hi.length R2.hi.length) rfl
       have S3:=S2.set (c':=⟨id,bl,tA,tn,tc,fA,fn,fc,lv0,sc,h0.hp,some ⟨hn.hp,0,none⟩,A6,n6,c6,A7,n7,c7,some ⟨ka,0,none⟩,some ⟨kc,0,none⟩,R1,A2,B2,R2,sA,sn,ss,sz⟩) HN.out.1 21 (.bool R2.inf) rfl
       have S4:=S3.set (c':=⟨id,bl,tA,tn,tc,fA,fn,fc,lv0,sc,h0.hp,some ⟨hn.hp,0,none⟩,A6,n6,c6,A7,n7,c7,some ⟨ka,0,none⟩,some ⟨kc,0,none⟩,R1,A2,B2,R2,sA,sn,ss,sz⟩) HN.out.1 22 (.int .i64 0) rfl
       have PX:=hid S4
       have HTX:=hid (ph_row (j:=22) (u:=(.int .i64 0)) (ph_row (j:=21) (u:=(.bool R2.inf)) (ph_row (j:=20) (u:=(.slice (B2) R2.hi.length R2.hi.length)) (ph_row (j:=19) (u:=(.slice (A2) R2.lo.length R2.lo.length)) H9T.out H9P.out.blk) S1.blk) S2.blk) S3.blk)
       have HBX:=hid (ph_row (j:=22) (u:=(.int .i64 0)) (ph_row (j:=21) (u:=(.bool R2.inf)) (ph_row (j:=20) (u:=(.slice (B2) R2.hi.length R2.hi.length)) (ph_row (j:=19) (u:=(.slice (A2) R2.lo.length R2.lo.length)) H9B.out H9P.out.blk) S1.blk) S2.blk) S3.blk)
       have kx:∀ {A:Option Addr} {x:List UInt8},KB w10 (fun k=>n0≤k) A x→KB wx (fun k=>n0≤k) A x:=fun {A x} h=>by
        rw [hwx]
        exact kb_set (j:=22) (u:=(.int .i64 0)) (kb_set (j:=21) (u:=(.bool R2.inf)) (kb_set (j:=20) (u:=(.slice (B2) R2.hi.length R2.hi.length)) (kb_set (j:=19) (u:=(.slice (A2) R2.lo.length R2.lo.length)) h H9P.out.blk) S1.blk) S2.blk) S3.blk
       rw [← hwx] at PX HTX HBX
       clear hwx S1 S2 S3 S4
       go_meet
       case rel=>exact ⟨A2,B2,by rw [HZN.out];exact PX.out,HTX.out,HBX.out,kx HQ110.out,kx HQ210.out,by rw [HZN.out];exact kx HQ1.out,by rw [HZN.out];exact kx HQ2.out⟩
     case rest =>
      revert hcut
      generalize wc=wx
      intro hcut
      obtain ⟨A2,B2,px,htx,hbx,k1,k2,k3,k4⟩:=hcut
      obtain ⟨R3,hR3⟩ : ∃ R,R=nextR R1 (botL hn.ts R1):=⟨_,rfl⟩
      rw [← hR3] at px k3 k4
      have HR3:=hid hR3
      have PX:=hid px
      have HLX0:=lrow_of (px.cor.st.lev 0 h0 HE0.out) (by have:=HK0.out.1;omega)
      obtain ⟨Ax,cx,hLx⟩:=HLX0
      obtain ⟨Ay,cy,hLy⟩:=lrow_of (px.cor.st.lev n hn HEN.out) (by have:=HKn.out.1;omega)
      have hT0:Ls.Tabs wx (h0.ps.take n6) T:=by rw [HTM.out];exact tabs_take hLx.tb n6
      have hTn:Ls.Tabs wx ((hn.ps.take rr).drop l) (botL hn.ts R1):=by rw [HBL.out];exact tabs_mid hLy.tb l rr
      have hro3:RgOk R3:=by
       rw [hR3]
       unfold nextR
       split
       ·exact .inr HRO.out
       ·exact rgOf_ok (fun t ht=>HKn.out.2 t (by rw [HBL.out] at ht;exact List.mem_of_mem_take (List.mem_of_mem_drop ht)))
      have HCO:=hid (show CdOk wx.drew n0 ⟨id,bl,tA,tn,tc,fA,fn,fc,lv0,sc,h0.hp,some ⟨hn.hp,0,none⟩,A6,n6,c6,A7,n7,c7,some ⟨ka,0,none⟩,some ⟨kc,0,none⟩,R1,A2,B2,R3,sA,sn,ss,sz⟩ (h0.ps.take n6) ((hn.ps.take rr).drop l) T (botL hn.ts R1) hn.hp from
       ⟨rfl,Kd.R_drew (Kd.R_lower htx H0.out.nb),Kd.R_drew (Kd.R_lower hbx HN6.out.1),fun q e1 e2=>by
        have h1:=HTL6.out q e2
        have h2:=Kd.R_base hbx q e1
        omega,
       ⟨by rw [HPL.out];exact HMP.out.1,by rw [HPL.out,HPM.out];have:=HK.out;have:=HK0.out.1;have:=HMP.out;omega⟩,hT0,hTn,k1,k2,k3,k4,.inr HRO.out,hro3⟩)
      have K98:=hid (caa_calls (w:=wx.drew) (i:=0) (k:=n) (px.cor.below (below_drew (Below.refl _ _))) HCO.out (by have:=HNL.out;omega) HNL.out hLx.c3 hLy.c3 HN.out.2.2 HR.out)
      have HTX:=hid htx
      have HOWN:=hid (show ∀ q,(Value.slice A6 n6 c6).ownBlock=some q∨(Value.slice A7 n7 c7).ownBlock=some q→w.heap.size≤q from fun q hq=>by
       rcases hq with hq | hq
       ·exact Kd.R_base htx q hq
       ·exact Nat.le_trans HN6.out.2.1 (Kd.R_base hbx q hq))
      clear px htx hbx k1 k2 k3 k4 hLx hLy hT0 hTn hro3 hR3 x14
      go_upto_region 28 with (fail)
      refine wp_region_still_tail 7 (by kernel_rfl) (by kernel_rfl) ?_
      simp only [List.take_succ_cons,List.take_zero,List.drop_succ_cons,List.drop_zero]
      still_step
      still_step
      still_step
      still_step
      still_step
      still_step
      refine still_load rfl 129 (.tmp 142) rfl cdb rfl 129 (cdC ⟨id,bl,tA,tn,tc,fA,fn,fc,lv0,sc,h0.hp,some ⟨hn.hp,0,none⟩,A6,n6,c6,A7,n7,c7,some ⟨ka,0,none⟩,some ⟨kc,0,none⟩,R1,A2,B2,R3,sA,sn,ss,sz⟩) (0,0) _ PX.out.blk Tryz.underlying129 rfl info129 ?_
      refine wpStill_nil ?_
      change wpList _ _ _ _ _ wx.drew
      go_wp2_with fail
      refine K98.out.mono ?_
      intro e w' hp
      have HP:=hid hp
      clear hp K98
      have hlr:(lowF sc || h0.ts.length == 0)=false:=by
       rw [← HLW.out]
       simp only [Bool.false_or]
       exact beq_eq_false_iff_ne.2 HZ.out
      have hown:∀ q,(Value.slice A6 n6 c6).ownBlock=some q→w.heap.size≤q∧q≠cdb:=fun q hq=>⟨Kd.R_base HTX.out q hq,fun e=>by
       obtain ⟨cs2,hc2⟩:=Kd.R_typed HTX.out q hq
       rw [e,PX.out.blk] at hc2
       injection hc2 with hc2
       injection hc2 with _ e _
       exact absurd e (by decide)⟩
      have keep:∀ {w2:World},KeepC wx.drew w2 (Value.slice A6 n6 c6).ownBlock→KeepC w w2 (some cdb):=fun {w2} hk=>⟨PX.out.bel.trans ((below_drew (Below.refl 0 wx)).trans hk.1),fun b arr t hb ht hG=>by
       have hbl:=blk_lt hb
       have e1:=PX.out.far b hbl (fun e=>hG (by rw [e]))
       refine (hk.2 b arr t (show wx.drew.heap[b]? = _ from e1.trans hb) ht (fun e=>?_)).trans e1
       have:=(hown b e).1
       omega⟩
      have fin:∀ (e2:Ending) (w2:World),CdOk w2 n0 ⟨id,bl,tA,tn,tc,fA,fn,fc,lv0,sc,h0.hp,some ⟨hn.hp,0,none⟩,A6,n6,c6,A7,n7,c7,some ⟨ka,0,none⟩,some ⟨kc,0,none⟩,R1,A2,B2,R3,sA,sn,ss,sz⟩ (h0.ps.take n6) ((hn.ps.take rr).drop l) T (botL hn.ts R1) hn.hp→w2.heap[cdb]? = some (.cells (cdC ⟨id,bl,tA,tn,tc,fA,fn,fc,lv0,sc,h0.hp,some ⟨hn.hp,0,none⟩,A6,n6,c6,A7,n7,c7,some ⟨ka,0,none⟩,some ⟨kc,0,none⟩,R1,A2,B2,R3,sA,sn,ss,sz⟩) 129 (0,0))→KeepC w w2 (some cdb) →
        (if hitR rgs 0 R1 || hitR rgs n R3 then e2=.returned (.bool false)∧Cor w2 S n0 sb ob mb lv cv hs cs o rgs run else e2=.returned (.bool true)∧Cor w2 S n0 sb ob mb lv cv hs cs o (pushR (pushR rgs 0 R1) n R3) ((T++botL hn.ts R1).foldl (fun r t=>putR r t.num) run))→Q e2 w2:=fun e2 w2 f1 f2 f3 f4=>by
       rw [HQ.out]
       show if lowF sc || h0.ts.length == 0 then _ else _
       rw [hlr,if_neg (by decide)]
       refine ⟨⟨id,bl,tA,tn,tc,fA,fn,fc,lv0,sc,h0.hp,some ⟨hn.hp,0,none⟩,A6,n6,c6,A7,n7,c7,some ⟨ka,0,none⟩,some ⟨kc,0,none⟩,R1,A2,B2,R3,sA,sn,ss,sz⟩,h0.ps.take n6,(hn.ps.take rr).drop l,⟨rfl,rfl,rfl,rfl,rfl,rfl,rfl,rfl,rfl,rfl,rfl,rfl,rfl,rfl,rfl⟩,rfl,?_,?_,f2,?_,f3,HOWN.out,?_⟩
       ·rw [← HTT.out];exact HR1.out
       ·exact HR3.out
       ·rw [← HTT.out];exact f1
       ·rw [← HTT.out];exact f4
      have hp:=HP.out
      by_cases hh:(hitR rgs 0 R1 || hitR rgs n R3)=true
      ·rw [if_pos hh] at hp
       obtain ⟨rfl,hb⟩:=hp
       have P2:=(PX.out.below (below_drew (Below.refl _ _))).below hb
       have HK:=keep (keepC_below hb _)
       have HC2:=cdok_keep HCO.out (keepC_below hb none) (fun k hk=>by cases hk) (Kd.R_below HCO.out.top hb)
       have HF:=hid (fin (.returned (.bool false)) w' HC2 P2.blk HK (by rw [if_pos hh];exact ⟨rfl,P2.cor⟩))
       clear P2 HK HC2 hh keep hown fin hb
       go_wp2_with fail
       exact HF.out
      ·rw [if_neg hh] at hp
       obtain ⟨rfl,hc,ht,hk⟩:=hp
       have HK:=keep hk
       have HC2:=cdok_keep HCO.out hk (fun q hq=>.inl hq) ht
       have hblk:w'.heap[cdb]? = some (.cells (cdC ⟨id,bl,tA,tn,tc,fA,fn,fc,lv0,sc,h0.hp,some ⟨hn.hp,0,none⟩,A6,n6,c6,A7,n7,c7,some ⟨ka,0,none⟩,some ⟨kc,0,none⟩,R1,A2,B2,R3,sA,sn,ss,sz⟩) 129 (0,0)):=(hk.2 cdb _ _ (show wx.drew.heap[cdb]? = _ from PX.out.blk) (by decide) (fun e=>(hown cdb e).2 rfl)).trans PX.out.blk
       have HF:=hid (fin (.returned (.bool true)) w' HC2 hblk HK (by rw [if_neg hh];exact ⟨rfl,hc⟩))
       clear HK HC2 hblk hh keep hown fin hc ht hk
       go_wp2_with fail
       exact HF.out
end Go.Proofs.YtnineoajmgneiaaGreat.Rg
namespace Go.Proofs.YtnineoajmgneiaaGreat.Rg
open Lib (hid)
open Go.RowKit YtnineoajmgneiaaGreatW YtnineoajmgneiaaGreatW.PrintWords YtnineoajmgneiaaGreatW.PrintLast YtnineoajmgneiaaGreatW.PrintMore Fr L Ky Tm Lm It
/-- What is left of a compaction that was entered. -/
def LbT [Ghost] (w:World) (S:Nat→Prop) (n0 sb ob mb:Nat) (lv cv:Value) (hs:List Hd) (cs:List Nat) (o:Lm.Op) (rgs:List (List Rg)) (run:List Int) (c:Cd) (cdb n:Nat) (h0 hn:Hd) (e:Ending) (w':World):Prop:=
 e=.returned (.bool true)∧∃ (d:Cd) (tops bots:List Nat),SameCd c d∧d.sz=c.sz∧d.r1=rgOf (takeTop rE h0.ts)∧d.r2=nextR d.r1 (botL hn.ts d.r1)∧w'.heap[cdb]? = some (.cells (cdC d) 129 (0,0))∧CdOk w' n0 d tops bots (takeTop rE h0.ts) (botL hn.ts d.r1) hn.hp∧KeepC w w' (some cdb)∧OwnF d w.heap.size ∧
  Cor w' S n0 sb ob mb lv cv hs cs o (pushR (pushR rgs 0 d.r1) n d.r2) ((takeTop rE h0.ts++botL hn.ts d.r1).foldl (fun r t=>putR r t.num) run)
theorem lbT_of [Ghost] {w:World} {S:Nat→Prop} {n0 sb ob mb:Nat} {lv cv:Value} {hs:List Hd} {cs:List Nat} {o:Lm.Op} {rgs:List (List Rg)} {run:List Int} {c:Cd} {cdb n:Nat} {h0 hn:Hd} {e:Ending} {w':World} (h:LbPost w S n0 sb ob mb lv cv hs cs o rgs run c cdb n h0 hn e w') (hl:lowF c.sc=false) (hp:0<h0.ts.length)
  (hf:hitR rgs 0 (rgOf (takeTop rE h0.ts))=false) (hg:hitR rgs n (nextR (rgOf (takeTop rE h0.ts)) (botL hn.ts (rgOf (takeTop rE h0.ts))))=false):LbT w S n0 sb ob mb lv cv hs cs o rgs run c cdb n h0 hn e w':=by
 unfold LbPost at h
 have hb:(lowF c.sc || h0.ts.length == 0)=false:=by
  rw [hl,Bool.false_or]
  exact beq_eq_false_iff_ne.2 (by omega)
 rw [hb,if_neg (by decide)] at h
 obtain ⟨d,tops,bots,h1,h2,h3,h4,h5,h6,h7,h9,h8⟩:=h
 have hh:(hitR rgs 0 d.r1 || hitR rgs n d.r2)=false:=by rw [h4,h3,hf,hg];rfl
 rw [hh,if_neg (by decide)] at h8
 exact ⟨h8.1,d,tops,bots,h1,h2,h3,h4,h5,h6,h7,h9,h8.2⟩
set_option maxRecDepth 1000000 in
set_option maxHeartbeats 2000000 in
theorem l0_calls [Ghost] {w:World} {S:Nat→Prop} {n0 sb ob mb:Nat} {lv cv:Value} {hs:List Hd} {cs:List Nat} {o:Lm.Op} {rgs:List (List Rg)} {run:List Int} {c:Cd} {cdb n:Nat} {h0 hn:Hd}
  (K:Calls Tryz.prog 90 #[.pointer (some ⟨sb,0,none⟩),.pointer (some ⟨cdb,0,none⟩)] w (LbPost w S n0 sb ob mb lv cv hs cs o rgs run c cdb n h0 hn)) (hl:lowF c.sc=false) (hp:0<h0.ts.length)
  (hf:hitR rgs 0 (rgOf (takeTop rE h0.ts))=false) (hg:hitR rgs n (nextR (rgOf (takeTop rE h0.ts)) (botL hn.ts (rgOf (takeTop rE h0.ts))))=false) :
  Calls Tryz.prog 72 #[.pointer (some ⟨sb,0,none⟩),.pointer (some ⟨cdb,0,none⟩)] w (LbT w S n0 sb ob mb lv cv hs cs o rgs run c cdb n h0 hn):=by
 have HK:=hid (K.mono (fun e w' h=>lbT_of h hl hp hf hg))
 obtain ⟨Q,hQ⟩ : ∃ Q,Q=LbT w S n0 sb ob mb lv cv hs cs o rgs run c cdb n h0 hn:=⟨_,rfl⟩
 have HE:=hid (show ∀ e w',Q e w'→e=.returned (.bool true) from fun e w' h=>by rw [hQ] at h;exact h.1)
 rw [← hQ]
 have HK2:=hid (show Calls Tryz.prog 90 #[.pointer (some ⟨sb,0,none⟩),.pointer (some ⟨cdb,0,none⟩)] w Q by rw [hQ];exact HK.out)
 clear K hl hp hf hg HK hQ
 go_enter Tryz.func72,Tryz.ntmps72
 go_wp2_with (go_at_call 90;refine HK2.out.mono ?_;intro e w' h;have he:=HE.out _ _ h;subst he;have HP:=hid h;clear h HK2)
 exact HP.out
theorem run_ceil (x:Nat) (w:World):∃ r,∃ w',(callFunc 131 #[.float .f64 x]).run Tryz.prog w=.ok (.value (.float .f64 r)) w'∧∃ q,w'=w.drewN q:=by
 rw [run_callFunc_extern (e:=Extern.MathFloor.toIntegral "math.archCeil" .up) Tryz.func131 (by kernel_rfl) (by kernel_rfl) (by kernel_rfl) (by kernel_rfl)]
 have:∃ r w',(Extern.MathFloor.toIntegral "math.archCeil" .up #[.float .f64 x]).run Tryz.prog w=.ok (.float .f64 r) w'∧∃ q,w'=w.drewN q:=by
  change ∃ r w',Sem.run Tryz.prog (match FloatKind.f64.decode x with
   | .nan s t=>if FloatKind.f64.format.quiet t=t then (pure (.float .f64 x):Sem Value) else do
    let kept ← choose (.extern "math.Floor,Ceil,Trunc,RoundToEven.signallingNaN kept" 2)
    pure (.float .f64 (if kept == 1 then x else FloatKind.f64.encode (.nan s (FloatKind.f64.format.quiet t))))
   | d=>(pure (.float .f64 (FloatKind.f64.encode (d.integral .up))):Sem Value)) w=.ok (.float .f64 r) w'∧∃ q,w'=w.drewN q
  split
  ·split
   ·exact ⟨x,w,rfl,0,rfl⟩
   ·exact ⟨_,w.drew,rfl,1,rfl⟩
  ·exact ⟨_,w,rfl,0,rfl⟩
 obtain ⟨r,w',h,hq⟩:=this
 exact ⟨r,w',by rw [h];rfl,hq⟩
set_option maxRecDepth 100000 in
set_option maxHeartbeats 1000000 in
theorem ceil_calls {w:World} {x:Nat}:Calls Tryz.prog 99 #[.float .f64 x] w fun e w'=>(∃ r,e=.returned (.float .f64 r))∧∃ q,w'=w.drewN q:=by
 obtain ⟨r,w',hx,q,hq⟩:=run_ceil x w
 have HQ:=hid hq
 clear hq
 go_enter Tryz.func99,Tryz.ntmps99
 go_wp2_with fail
 go_ret
 exact ⟨⟨r,rfl⟩,q,HQ.out⟩
theorem run_f2i (b:Nat) (w:World):∃ v w',(Conv.floatToInt .f64 b .i64).run Tryz.prog w=.ok (.int .i64 v) w'∧(∃ q,w'=w.drewN q) ∧ -9223372036854775808≤v∧v≤9223372036854775807:=by
 have hany:∃ v w',(do pure (Value.int .i64 (IntKind.i64.wrap (← choose (.floatToInt .f64 b .i64)))):Sem Value).run Tryz.prog w=.ok (.int .i64 v) w'∧(∃ q,w'=w.drewN q) ∧ -9223372036854775808≤v∧v≤9223372036854775807:=
  ⟨_,w.drew,rfl,⟨1,rfl⟩,by rw [IntKind.wrap_i64];omega,by rw [IntKind.wrap_i64];omega⟩
 unfold Conv.floatToInt
 split
 ·split
  ·rename_i h
   exact ⟨_,w,rfl,⟨0,rfl⟩,h.1,h.2⟩
  ·exact hany
 ·exact hany
end Go.Proofs.YtnineoajmgneiaaGreat.Rg
namespace Go.Proofs.YtnineoajmgneiaaGreat.Rg
open Lib (hid)
open List renaming setIfInBounds_toArray → zA,set_cons_zero → zB,set_cons_succ → zC
open Go.RowKit YtnineoajmgneiaaGreatW YtnineoajmgneiaaGreatW.PrintWords YtnineoajmgneiaaGreatW.PrintLast YtnineoajmgneiaaGreatW.PrintMore Fr L Ky Tm Lm It
/-- A split: its cells, whatever they are. -/
structure Sp where
 A:Option Addr
 n:Nat
 c:Nat
 B:Option Addr
 m:Nat
 d:Nat
 i:Bool
def spC (x:Sp):List Value:=[.slice x.A x.n x.c,.slice x.B x.m x.d,.bool x.i,.int .i64 0]
def kS:Kd Sp where
 sz:=4
 E:=[]
 K:=fun _ x cs=>cs=spC x
 M:=fun _ _ _ x cs=>cs=spC x
 K_len:=fun h=>by rw [h];rfl
 K_one:=fun h u hu=>by
  rw [h] at hu
  simp only [spC,List.mem_cons,List.not_mem_nil,or_false] at hu
  rcases hu with h | h | h | h<;>rw [h]<;>rfl
 K_below:=fun _ h=>h
 K_of_M:=fun h=>h
 M_mono:=fun _ h=>h
 M_bound:=fun h=>h
 M_move:=fun _ h=>h
 M_lower:=fun _ h=>h
set_option maxRecDepth 4000 in
set_option maxHeartbeats 1000000 in
theorem copy_calls {w:World} {A:Option Addr} {n c:Nat} {x:List UInt8} (hn:x.length=n) (hA:0<n→∃ a,A=some a∧At w a x) (hn2:n≤100000100) :
  Calls Tryz.prog 102 #[.slice A n c] w fun e w'=>e=.returned (.slice (some ⟨w.heap.size,0,none⟩) n n)∧Below w.heap.size w w':=by
 have hm:∀ W:World,(Instr.makeSlice 81 (.int .i64 (n:Int)) (.int .i64 (n:Int))).run Tryz.prog W=.ok (.slice (some ⟨W.heap.size,0,none⟩) n n) (W.alloc (.cells (madeCells #[.int .u8 0] n) 5)):=
  print_make (P:=Tryz.prog) 81 5 .u8 1 Tryz.underlying81 info5 (by omega) n (by omega)
 have HN:=hid hn
 have HA:=hid hA
 clear hn hA
 go_enter Tryz.func102,Tryz.ntmps102
 go_upto_region 2 with (fail)
 obtain ⟨w1,hw1⟩ : ∃ w1,w1=w.alloc (.cells (madeCells #[.int .u8 0] n) 5):=⟨_,rfl⟩
 have HG:=hid (show w1.heap[w.heap.size]? = some (.cells (List.replicate n (Value.int .u8 0)).toArray 5 (0,0)) by rw [hw1,made_bytes];exact blk_new _ _)
 have HB1:=hid (show Below w.heap.size w w1 by rw [hw1];exact below_alloc (Below.refl _ _) _)
 rw [← hw1]
 clear hw1
 have HSRC:=hid (src_at HN.out HA.out HB1.out)
 go_wp2_with (first | ((with_reducible refine wpList_copy_splice rfl (.tmp 7) (.tmp 8) 81 81 rfl 5 Tryz.underlying81 (by kernel_rfl) (some ⟨w.heap.size,0,none⟩) A n n n c rfl rfl w.heap.size 0 (List.replicate n (Value.int .u8 0)) 5 HG.out (x.map bv) ?hn ?hpos ?hfit ?h1 w.heap.size w HB1.out (Nat.le_refl _) ?_);(case hn=>exact (List.length_map _).trans (HN.out.trans (Nat.min_self n).symm));(case hpos=>exact fun hp=>⟨rfl,HSRC.out hp⟩);(case hfit=>rw [List.length_map,List.length_replicate,HN.out];omega);(case h1=>exact bv_one x);intro w2 hg2 hb2;have HG2:=hid hg2.out;have HB2:=hid hb2;clear hg2 hb2))
 go_ret
 exact ⟨rfl,HB2.out⟩
def SameS (c d:Cd):Prop:=d.id=c.id∧d.bl=c.bl∧d.tA=c.tA∧d.tn=c.tn∧d.tc=c.tc∧d.fA=c.fA∧d.fn=c.fn∧d.fc=c.fc∧d.lv=c.lv∧d.sc=c.sc∧d.tl=c.tl∧d.nl=c.nl∧d.pA=c.pA∧d.pn=c.pn∧d.pc=c.pc∧d.qA=c.qA∧d.qn=c.qn∧d.qc=c.qc∧d.a1=c.a1∧d.b1=c.b1∧d.r1=c.r1∧d.a2=c.a2∧d.b2=c.b2∧d.r2=c.r2∧d.sz=c.sz
theorem sameS_of {c d:Cd} (h:SameS c d):d = { c with sA:=d.sA,sn:=d.sn,ss:=d.ss }:=by
 obtain ⟨h1,h2,h3,h4,h5,h6,h7,h8,h9,h10,h11,h12,h13,h14,h15,h16,h17,h18,h19,h20,h21,h22,h23,h24,h25⟩:=h
 cases c
 cases d
 simp only at *
 subst h1 h2 h3 h4 h5 h6 h7 h8 h9 h10 h11 h12 h13 h14 h15 h16 h17 h18 h19 h20 h21 h22 h23 h24 h25
 rfl
set_option maxRecDepth 100000 in
set_option maxHeartbeats 4000000 in
/-- A range is added: what it holds is kept; the next one begins where it ends. -/
theorem add_calls {w:World} {A B Rr:Option Addr} {n cc m dd rn rc skb cpb cdb B0:Nat} {inf:Bool} {x:List UInt8} {c:Cd} {xs:List Sp} (hs:w.heap[skb]? = some (.cells #[.slice A n cc,.slice B m dd,.bool inf,.int .i64 0] 126 (0,0))) (hp:w.cell? ⟨cpb,0,none⟩=some (.pointer (some ⟨cdb,0,none⟩))) (hc:w.heap[cdb]? = some (.cells (cdC c) 129 (0,0))) (hr:kS.R 126 w B0 (fun _=>True) (.slice c.sA c.sn c.ss) xs)
  (hpb:∃ arr,w.heap[cpb]? = some (.cells arr 114 (0,0))) (hB0:B0≤w.heap.size) (hne:(Value.slice c.sA c.sn c.ss).ownBlock≠some skb) (hl:xs.length≤100000) (hx:x.length=rn) (hA:0<rn→∃ a,Rr=some a∧At w a x) (hrn:rn≤100000100) :
  Calls Tryz.prog 101 (#[.slice Rr rn rc] ++ #[.pointer (some ⟨skb,0,none⟩),.pointer (some ⟨cpb,0,none⟩)]) w fun e w'=>e=.returned (.tuple #[])∧∃ (c':Cd) (y:Sp) (A2:Option Addr) (n2 cc2:Nat),SameS c c'∧w'.heap[cdb]? = some (.cells (cdC c') 129 (0,0))∧kS.R 126 w' B0 (fun _=>True) (.slice c'.sA c'.sn c'.ss) (xs++[y])∧(Value.slice c'.sA c'.sn c'.ss).ownBlock≠some skb ∧
   w'.heap[skb]? = some (.cells #[.slice A2 n2 cc2,.slice A2 n2 cc2,.bool inf,.int .i64 0] 126 (0,0))∧Below 0 w w'∧∀ b,b<w.heap.size→b≠skb→b≠cdb→(Value.slice c.sA c.sn c.ss).ownBlock≠some b→w'.heap[b]? = w.heap[b]?:=by
 have HS:=hid hs
 have HC:=hid hc
 have HR:=hid hr
 have HPB:=hid hpb
 have HP:=hid hp
 have K:=hid (copy_calls (c:=rc) hx hA hrn)
 have HNE:=hid hne
 have HL:=hid hl
 have HB0:=hid hB0
 clear hs hc hr hpb hp hx hA hrn hne hl hB0
 go_enter Tryz.func101,Tryz.ntmps101
 go_wp2_with fail
 refine K.out.mono ?_
 rintro e w1 ⟨rfl,hb1⟩
 obtain ⟨nb,hnb⟩ : ∃ b,b=w.heap.size:=⟨_,rfl⟩
 rw [← hnb]
 have HB1:=hid hb1
 have HS1:=hid ((hb1.block _ (blk_lt HS.out)).trans HS.out)
 have HC1:=hid ((hb1.block _ (blk_lt HC.out)).trans HC.out)
 have HR1:=hid (Kd.R_below HR.out hb1)
 clear hb1 hnb K
 have f1:=blk_frozen HS1.out 1
 have x1:=blk_cell HS1.out 1
 go_upto_region 1 with (fail)
 obtain ⟨w2,hw2⟩ : ∃ w2,w2=w1.setCell ⟨skb,1,none⟩ (.slice (some ⟨nb,0,none⟩) rn rn):=⟨_,rfl⟩
 rw [← hw2]
 have far2:∀ b,b≠skb→w2.heap[b]? = w1.heap[b]?:=fun b hb=>by rw [hw2];exact Below.heap_setCell w1 ⟨skb,1,none⟩ _ b hb
 have HS2:=hid (show w2.heap[skb]? = some (.cells #[.slice A n cc,.slice (some ⟨nb,0,none⟩) rn rn,.bool inf,.int .i64 0] 126 (0,0)) by
  rw [hw2]
  have:=blk_set HS1.out 1 (.slice (some ⟨nb,0,none⟩) rn rn)
  simpa using this)
 have HC2:=hid ((far2 cdb (fun e=>by
  have h:=HS1.out
  rw [← e,HC1.out] at h
  injection h with h
  injection h with _ e _
  exact absurd e (by decide))).trans HC1.out)
 have HP2:=hid (show w2.cell? ⟨cpb,0,none⟩=some (.pointer (some ⟨cdb,0,none⟩)) by
  obtain ⟨arr,ha⟩:=HPB.out
  have h1:=(HB1.out.block _ (blk_lt ha)).trans ha
  have h2:=(far2 cpb (fun e=>by
   have h:=HS1.out
   rw [← e,h1] at h
   injection h with h
   injection h with _ e _
   exact absurd e (by decide))).trans h1
  have h3:=HP.out
  rw [blk_cell ha] at h3
  rw [blk_cell h2]
  exact h3)
 have HPB2:=hid (show ∃ arr,w2.heap[cpb]? = some (.cells arr 114 (0,0)) by
  obtain ⟨arr,ha⟩:=HPB.out
  have h1:=(HB1.out.block _ (blk_lt ha)).trans ha
  exact ⟨arr,(far2 cpb (fun e=>by
   have h:=HS1.out
   rw [← e,h1] at h
   injection h with h
   injection h with _ e _
   exact absurd e (by decide))).trans h1⟩)
 have HR2:=hid (show kS.R 126 w2 B0 (fun _=>True) (.slice c.sA c.sn c.ss) xs from Kd.R_mono (Kd.R_step (Kd.R_tight rfl HR1.out) (fun k hk _=>far2 k (fun e=>HNE.out (by rw [← e];exact hk.symm)))) (fun _ _=>trivial))
 have HF2:=hid (show Below 0 w w2∧∀ b,b<w.heap.size→b≠skb→w2.heap[b]? = w.heap[b]? from ⟨by rw [hw2];exact (HB1.out.mono (Nat.zero_le _)).setCell (Nat.zero_le _) _,fun b hb hne=>(far2 b hne).trans (HB1.out.block b hb)⟩)
 clear far2 hw2 f1 x1 HS1 HC1 HR1 HB1 HP HPB
 have hno:∀ {k t:Nat} {arr:Array Value},w2.heap[k]? = some (.cells arr t (0,0))→t≠126→(Value.slice c.sA c.sn c.ss).ownBlock≠some k:=fun {k t arr} hk ht e=>by
  obtain ⟨cs,h2⟩:=Kd.R_typed HR2.out k e
  rw [hk] at h2
  injection h2 with h2
  injection h2 with _ e _
  exact ht e
 have HOP:=hid (show (Value.slice c.sA c.sn c.ss).ownBlock≠some cpb by obtain ⟨arr,ha⟩:=HPB2.out;exact hno ha (by decide))
 have HOC:=hid (hno HC2.out (by decide))
 have HN0:=hid (show B0≤w2.drew.heap.size from Nat.le_trans HB0.out HF2.out.1.size)
 have HLN:=hid (show (xs.length+1)*64≤140737488355328 by have:=HL.out;omega)
 clear hno
 have u0:=HP2.out
 have u1:w2.cell? ⟨cdb,23,none⟩=some (.slice c.sA c.sn c.ss):=blk_cell HC2.out 23
 have u2:w2.cell? ⟨skb,0,none⟩=some (.slice A n cc):=blk_cell HS2.out 0
 have u3:w2.cell? ⟨skb,1,none⟩=some (.slice (some ⟨nb,0,none⟩) rn rn):=blk_cell HS2.out 1
 have u4:w2.cell? ⟨skb,2,none⟩=some (.bool inf):=blk_cell HS2.out 2
 have u5:w2.cell? ⟨skb,3,none⟩=some (.int .i64 0):=blk_cell HS2.out 3
 refine start_ (n:=11) (S:=fun w'=>w'.cell? ⟨cpb,0,none⟩=some (.pointer (some ⟨cdb,0,none⟩))∧w'.cell? ⟨cdb,23,none⟩=some (.slice c.sA c.sn c.ss)∧w'.cell? ⟨skb,0,none⟩=some (.slice A n cc)∧w'.cell? ⟨skb,1,none⟩=some (.slice (some ⟨nb,0,none⟩) rn rn)∧w'.cell? ⟨skb,2,none⟩=some (.bool inf)∧w'.cell? ⟨skb,3,none⟩=some (.int .i64 0)) (ds:=[10]) #[false,false,false,false,false,false,false,false,false,false,false] (by kernel_rfl) rfl rfl ⟨u0,u1,u2,u3,u4,u5⟩ (fun hHeld=>?_)
 refine take_ (i:=0) (N:=some 7) (v:=?_) (a':=?_) #[true,false,false,false,false,false,false,false,false,false,false] rfl rfl (by kernel_rfl) (fun _ _ _ h=>h) (Or.inl ⟨by rfl,?_⟩) hHeld ?_ ?_
 rotate_left
 ·rintro w' ⟨s0,s1,s2,s3,s4,s5⟩
  go_simp
  with_reducible rfl
 rotate_left
 ·simp only [Act.put,zA,zB,zC,i64_w,i32_w]
  rfl
 refine take_ (i:=1) (N:=some 8) (v:=?_) (a':=?_) #[true,true,false,false,false,false,false,false,false,false,false] rfl rfl (by kernel_rfl) (fun _ _ _ h=>h) (Or.inl ⟨by rfl,?_⟩) hHeld ?_ ?_
 rotate_left
 ·rintro w' ⟨s0,s1,s2,s3,s4,s5⟩
  go_simp
  with_reducible rfl
 rotate_left
 ·simp only [Act.put,zA,zB,zC,i64_w,i32_w]
  rfl
 refine pure_ (i:=2) (N:=some 9) (v:=?_) (a':=?_) #[true,true,true,false,false,false,false,false,false,false,false] rfl rfl (by kernel_rfl) (fun _ _ _ h=>h) (Or.inl ⟨by rfl,?_⟩) ?_ ?_
 rotate_left
 ·intro w'
  go_simp
  with_reducible rfl
 rotate_left
 ·simp only [Act.put,zA,zB,zC,i64_w,i32_w]
  rfl
 refine pure_ (i:=3) (N:=some 10) (v:=?_) (a':=?_) #[true,true,true,true,false,false,false,false,false,false,false] rfl rfl (by kernel_rfl) (fun _ _ _ h=>h) (Or.inl ⟨by rfl,?_⟩) ?_ ?_
 rotate_left
 ·intro w'
  go_simp
  with_reducible rfl
 rotate_left
 ·simp only [Act.put,zA,zB,zC,i64_w,i32_w]
  rfl
 refine take_ (i:=4) (N:=some 11) (v:=?_) (a':=?_) #[true,true,true,true,true,false,false,false,false,false,false] rfl rfl (by kernel_rfl) (fun _ _ _ h=>h) (Or.inl ⟨by rfl,?_⟩) hHeld ?_ ?_
 rotate_left
 ·rintro w' ⟨s0,s1,s2,s3,s4,s5⟩
  go_simp
  with_reducible rfl
 rotate_left
 ·simp only [Act.put,zA,zB,zC,i64_w,i32_w]
  rfl
 refine take_ (i:=5) (N:=some 12) (v:=?_) (a':=?_) #[true,true,true,true,true,true,false,false,false,false,false] rfl rfl (by kernel_rfl) (fun _ _ _ h=>h) (Or.inl ⟨by rfl,?_⟩) hHeld ?_ ?_
 rotate_left
 ·rintro w' ⟨s0,s1,s2,s3,s4,s5⟩
  go_simp
  with_reducible rfl
 rotate_left
 ·simp only [Act.put,zA,zB,zC,i64_w,i32_w]
  rfl
 refine one_ (i:=6) (N:=some 13) #[true,true,true,true,true,true,true,false,false,false,false] rfl rfl (by kernel_rfl) (by decide) (fun K hK=>?_)
 refine value_ (w1:=?_) (v:=?_) (by rfl) rfl ?_ ?_
 rotate_left 2
 ·go_simp
  constructor
  ·rfl
  ·rfl
 refine hK.out _ _ ⟨cell_up (w:=w2.drew) u0 _,cell_up (w:=w2.drew) u1 _,cell_up (w:=w2.drew) u2 _,cell_up (w:=w2.drew) u3 _,cell_up (w:=w2.drew) u4 _,cell_up (w:=w2.drew) u5 _⟩ (fun hHeld=>?_)
 clear hK K
 refine norm_ (a':=?_) ?_ ?_
 rotate_left
 ·show Act.put _ (some 13) _=_
  simp only [Act.put,zA,zB,zC,i64_w,i32_w]
  rfl
 refine one_ (i:=7) (N:=some 14) #[true,true,true,true,true,true,true,true,false,false,false] rfl rfl (by kernel_rfl) (by decide) (fun K hK=>?_)
 refine Kd.R_append_step kS (w0:=w2) (W:=w2.drew) B0 (by rfl) (.tmp 11) (.tmp 13) 127 126 (.agg #[.slice none 0 0,.slice none 0 0,.bool false,.int .i64 0]) 64 (by rfl) Tryz.underlying127 info126 rfl (by decide) (by decide) (.slice c.sA c.sn c.ss) xs ⟨A,n,cc,some ⟨nb,0,none⟩,rn,rn,inf⟩ (spC ⟨A,n,cc,some ⟨nb,0,none⟩,rn,rn,inf⟩) (fun _=>True) (fun _=>False) rfl rfl rfl (fun _ h=>h.elim) (fun _ _=>trivial) (Kd.R_drew HR2.out) ((Below.refl B0 w2).drew) HN0.out HLN.out ?_
 intro v1 w3 hr1 hb1 hg1 hn1
 obtain ⟨n7,A7,c7,rfl⟩ : ∃ n A c,v1=.slice A n c:=(by obtain ⟨A,c,e⟩:=Kd.R_slice hr1;exact ⟨_,A,c,e⟩)
 have kg:∀ k2,k2<w2.heap.size→(Value.slice c.sA c.sn c.ss).ownBlock≠some k2→w3.heap[k2]? = w2.heap[k2]?:=fun k2 hl2 hn2=>hg1.block k2 hl2 (fun e=>hn2 e.symm)
 have u0':=kg_cell kg u0 HOP.out
 have u1':=kg_cell kg u1 HOC.out
 have u2':=kg_cell kg u2 HNE.out
 have u3':=kg_cell kg u3 HNE.out
 have u4':=kg_cell kg u4 HNE.out
 have u5':=kg_cell kg u5 HNE.out
 have u1f:=blk_frozen ((kg _ (blk_lt HC2.out) HOC.out).trans HC2.out) 23
 refine hK.out _ _ ⟨u0',u1',u2',u3',u4',u5'⟩ (fun hHeld=>?_)
 clear hK K
 refine norm_ (a':=?_) ?_ ?_
 rotate_left
 ·show Act.put _ (some 14) _=_
  simp only [Act.put,zA,zB,zC,i64_w,i32_w]
  rfl
 refine pure_ (i:=8) (N:=some 15) (v:=?_) (a':=?_) #[true,true,true,true,true,true,true,true,true,false,false] rfl rfl (by kernel_rfl) (fun _ _ _ h=>h) (Or.inl ⟨by rfl,?_⟩) ?_ ?_
 rotate_left
 ·intro w'
  go_simp
  with_reducible rfl
 rotate_left
 ·simp only [Act.put,zA,zB,zC,i64_w,i32_w]
  rfl
 refine pure_ (i:=9) (N:=some 16) (v:=?_) (a':=?_) #[true,true,true,true,true,true,true,true,true,true,false] rfl rfl (by kernel_rfl) (fun _ _ _ h=>h) (Or.inl ⟨by rfl,?_⟩) ?_ ?_
 rotate_left
 ·intro w'
  go_simp
  with_reducible rfl
 rotate_left
 ·simp only [Act.put,zA,zB,zC,i64_w,i32_w]
  rfl
 refine last_ (i:=10) (N:=none) #[true,true,true,true,true,true,true,true,true,true,true] rfl rfl (by kernel_rfl) (by decide) (fun K hK=>?_)
 refine skip_ (w1:=?_) (by rfl) rfl ?_ ?_
 rotate_left
 ·go_simp
  rfl
 refine hK.out _ _ ?_
 clear hK K
 refine done_ (by kernel_rfl) ?_
 have hs3:w3.heap[skb]? = some (.cells #[.slice A n cc,.slice (some ⟨nb,0,none⟩) rn rn,.bool inf,.int .i64 0] 126 (0,0)):=(kg skb (blk_lt HS2.out) HNE.out).trans HS2.out
 have hc3:w3.heap[cdb]? = some (.cells (cdC c) 129 (0,0)):=(kg cdb (blk_lt HC2.out) HOC.out).trans HC2.out
 have hsc:skb≠cdb:=fun e=>by
  rw [e,hc3] at hs3
  injection hs3 with h
  injection h with _ e _
  exact absurd e (by decide)
 obtain ⟨w4,hw4⟩ : ∃ w4,w4=w3.setCell ⟨cdb,23,none⟩ (.slice A7 n7 c7):=⟨_,rfl⟩
 rw [← hw4]
 have HC4:=hid (show w4.heap[cdb]? = some (.cells (cdC { c with sA:=A7,sn:=n7,ss:=c7 }) 129 (0,0)) by rw [hw4];exact blk_set hc3 23 _)
 have HS4:=hid (show w4.heap[skb]? = some (.cells #[.slice A n cc,.slice (some ⟨nb,0,none⟩) rn rn,.bool inf,.int .i64 0] 126 (0,0)) by rw [hw4];exact (Below.heap_setCell w3 ⟨cdb,23,none⟩ _ skb hsc).trans hs3)
 have HR4:=hid (show kS.R 126 w4 B0 (fun _=>True) (.slice A7 n7 c7) (xs++[⟨A,n,cc,some ⟨nb,0,none⟩,rn,rn,inf⟩]) by rw [hw4];exact Kd.R_set hr1 hc3 (by intro q hq;have:q∈[126]:=hq;rw [List.mem_singleton.1 this];decide) 23 _)
 have HN4:=hid (show (Value.slice A7 n7 c7).ownBlock≠some skb from fun e=>by
  rcases hn1 with h | ⟨b,h1,h2⟩
  ·rw [h] at e;exact HNE.out e
  ·rw [h1] at e
   injection e with e
   have:=blk_lt HS2.out
   have h3:w2.heap.size≤b:=h2
   omega)
 have HF4:=hid (show Below 0 w w4∧∀ b,b<w.heap.size→b≠skb→b≠cdb→(Value.slice c.sA c.sn c.ss).ownBlock≠some b→w4.heap[b]? = w.heap[b]? from ⟨by
   rw [hw4]
   exact ((HF2.out.1.drew).grown hg1 (Nat.zero_le _) (fun _ _=>Nat.zero_le _)).setCell (Nat.zero_le _) _,fun b hb h1 h2 h3=>by
   rw [hw4]
   exact (Below.heap_setCell w3 ⟨cdb,23,none⟩ _ b h2).trans ((kg b (Nat.lt_of_lt_of_le hb HF2.out.1.size) h3).trans (HF2.out.2 b hb h1))⟩)
 clear hs3 hc3 hsc hw4 hr1 hg1 hn1 hb1 kg hHeld u0 u1 u2 u3 u4 u5 u0' u1' u2' u3' u4' u5' u1f HS2 HC2 HP2 HPB2 HR2 HF2 HOP HOC HN0 HLN
 have y1:=blk_cell HS4.out 1
 have y0:=blk_cell HS4.out 0
 have f0:=blk_frozen HS4.out 0
 go_wp2_with fail
 obtain ⟨w5,hw5⟩ : ∃ w5,w5=w4.setCell ⟨skb,0,none⟩ (.slice (some ⟨nb,0,none⟩) rn rn):=⟨_,rfl⟩
 rw [← hw5]
 go_end0
 have hsc:cdb≠skb:=fun e=>by
  have h:=HS4.out
  rw [← e,HC4.out] at h
  injection h with h
  injection h with _ e _
  exact absurd e (by decide)
 refine ⟨rfl,{ c with sA:=A7,sn:=n7,ss:=c7 },⟨A,n,cc,some ⟨nb,0,none⟩,rn,rn,inf⟩,some ⟨nb,0,none⟩,rn,rn,⟨rfl,rfl,rfl,rfl,rfl,rfl,rfl,rfl,rfl,rfl,rfl,rfl,rfl,rfl,rfl,rfl,rfl,rfl,rfl,rfl,rfl,rfl,rfl,rfl,rfl⟩,?_,?_,HN4.out,?_,?_,fun b hb h1 h2 h3=>?_⟩
 ·rw [hw5];exact (Below.heap_setCell w4 ⟨skb,0,none⟩ _ cdb hsc).trans HC4.out
 ·rw [hw5]
  exact Kd.R_mono (Kd.R_step (Kd.R_tight rfl HR4.out) (fun k hk _=>Below.heap_setCell w4 ⟨skb,0,none⟩ _ k (fun e=>HN4.out (by have e:k=skb:=e;rw [← e];exact hk.symm)))) (fun _ _=>trivial)
 ·rw [hw5]
  have:=blk_set HS4.out 0 (.slice (some ⟨nb,0,none⟩) rn rn)
  simpa using this
 ·rw [hw5];exact HF4.out.1.setCell (Nat.zero_le _) _
 ·rw [hw5];exact (Below.heap_setCell w4 ⟨skb,0,none⟩ _ b h1).trans (HF4.out.2 b hb h1 h2 h3)
end Go.Proofs.YtnineoajmgneiaaGreat.Rg
namespace Go.Proofs.YtnineoajmgneiaaGreat.Rg
open Lib (hid)
open List renaming setIfInBounds_toArray → zA,set_cons_zero → zB,set_cons_succ → zC
open Go.RowKit YtnineoajmgneiaaGreatW YtnineoajmgneiaaGreatW.PrintWords YtnineoajmgneiaaGreatW.PrintLast YtnineoajmgneiaaGreatW.PrintMore Fr L Ky Tm Lm It
def IvR (r:Rg):Prop:=((8≤r.lo.length∧r.lo.length≤100000100)∧8≤r.hi.length∧r.hi.length≤100000100)∧r.inf=false
def AddPost (w:World) (cdb:Nat) (c:Cd) (e:Ending) (w':World):Prop:=e=.returned (.tuple #[])∧∃ (c':Cd) (xs:List Sp),SameS c c'∧w'.heap[cdb]? = some (.cells (cdC c') 129 (0,0))∧kS.R 126 w' w.heap.size (fun _=>True) (.slice c'.sA c'.sn c'.ss) xs∧xs.length≤20000∧Below 0 w w'∧∀ b,b<w.heap.size→b≠cdb→w'.heap[b]? = w.heap[b]?
theorem run_quo (x y:Nat) (W:World):∃ r w',(binOp .quo 62 (.float .f64 x) (.float .f64 y)).run Tryz.prog W=.ok (.float .f64 r) w'∧∃ q,w'=W.drewN q:=by
 cases hd:FloatKind.f64.format.div x y with
 | some r=>exact ⟨r,W,run_float_arith W .quo 62 .f64 x y r (by unfold floatBits;exact hd),0,rfl⟩
 | none =>
  refine ⟨(Question.nanBits .f64 x y).cut (W.tape W.drawn (.nanBits .f64 x y)),W.drew,?_,1,rfl⟩
  simp only [binOp,Op.floatArith,hd,Sem.run_bind,Sem.run_pure,Result.andThen_ok,run_choose_drew,Question.forced]
  rfl
theorem run_conv (b:Nat) (W:World):∃ v w',(convert 62 3 (.float .f64 b)).run Tryz.prog W=.ok (.int .i64 v) w'∧(∃ q,w'=W.drewN q) ∧ -9223372036854775808≤v∧v≤9223372036854775807:=by
 obtain ⟨v,w',h,hq,hb⟩:=run_f2i b W
 refine ⟨v,w',?_,hq,hb⟩
 simp only [convert,Sem.run_bind,run_underlying Tryz.underlying62,run_underlying Tryz.underlying3,Result.andThen_ok]
 exact h
theorem wrap_tmod {x m:Int} (hm:0<m) (h0:0≤x) (h1:x≤1000000):IntKind.i64.wrap (x.tmod m)=x.tmod m:=by
 rw [Int.tmod_eq_emod_of_nonneg h0]
 have a:=Int.emod_nonneg x (show m≠0 by omega)
 have b:=Int.emod_add_mul_ediv x m
 have c:0≤m*(x / m):=Int.mul_nonneg (by omega) (Int.ediv_nonneg h0 (by omega))
 rw [IntWalk.i64_in _ (by omega)]
/-- The loop of addSplits. -/
structure AsI (w wr:World) (cdb skb cpb:Nat) (c:Cd) (inf:Bool) (j:Nat) (c':Cd) (xs:List Sp) (A:Option Addr) (n cc:Nat) (B:Option Addr) (m dd:Nat):Prop where
 same:SameS c c'
 blk:wr.heap[cdb]? = some (.cells (cdC c') 129 (0,0))
 row:kS.R 126 wr w.heap.size (fun _=>True) (.slice c'.sA c'.sn c'.ss) xs
 len:xs.length≤j
 ne:(Value.slice c'.sA c'.sn c'.ss).ownBlock≠some skb
 skr:wr.heap[skb]? = some (.cells #[.slice A n cc,.slice B m dd,.bool inf,.int .i64 0] 126 (0,0))
 box:wr.heap[cpb]? = some (.cells #[.pointer (some ⟨cdb,0,none⟩)] 114 (0,0))
 bel:Below 0 w wr
 far:∀ b,b<w.heap.size→b≠cdb→wr.heap[b]? = w.heap[b]?
theorem SameS.trans {a b c:Cd} (h:SameS a b) (k:SameS b c):SameS a c:=by
 obtain ⟨h1,h2,h3,h4,h5,h6,h7,h8,h9,h10,h11,h12,h13,h14,h15,h16,h17,h18,h19,h20,h21,h22,h23,h24,h25⟩:=h
 obtain ⟨k1,k2,k3,k4,k5,k6,k7,k8,k9,k10,k11,k12,k13,k14,k15,k16,k17,k18,k19,k20,k21,k22,k23,k24,k25⟩:=k
 exact ⟨k1.trans h1,k2.trans h2,k3.trans h3,k4.trans h4,k5.trans h5,k6.trans h6,k7.trans h7,k8.trans h8,k9.trans h9,k10.trans h10,k11.trans h11,k12.trans h12,k13.trans h13,k14.trans h14,k15.trans h15,k16.trans h16,k17.trans h17,k18.trans h18,k19.trans h19,k20.trans h20,k21.trans h21,k22.trans h22,k23.trans h23,k24.trans h24,k25.trans h25⟩
theorem AsI.below {w wr w1:World} {cdb skb cpb:Nat} {c:Cd} {inf:Bool} {j:Nat} {c':Cd} {xs:List Sp} {A:Option Addr} {n cc:Nat} {B:Option Addr} {m dd:Nat} (h:AsI w wr cdb skb cpb c inf j c' xs A n cc B m dd) (hb:Below wr.heap.size wr w1):AsI w w1 cdb skb cpb c inf j c' xs A n cc B m dd:=
 ⟨h.same,(hb.block _ (blk_lt h.blk)).trans h.blk,Kd.R_below h.row hb,h.len,h.ne,(hb.block _ (blk_lt h.skr)).trans h.skr,(hb.block _ (blk_lt h.box)).trans h.box,h.bel.trans (hb.mono (Nat.zero_le _)),fun b hb2 hne=>(hb.block b (Nat.lt_of_lt_of_le hb2 h.bel.size)).trans (h.far b hb2 hne)⟩
theorem AsI.add {w wr w1:World} {cdb skb cpb:Nat} {c:Cd} {inf:Bool} {j:Nat} {c' c2:Cd} {xs:List Sp} {y:Sp} {A A2:Option Addr} {n cc n2 cc2:Nat} {B:Option Addr} {m dd:Nat} (h:AsI w wr cdb skb cpb c inf j c' xs A n cc B m dd) (hs:w.heap.size≤skb) (hp:w.heap.size≤cpb) (hcs:cpb≠skb) (hcd:cpb≠cdb) (k1:SameS c' c2) (k2:w1.heap[cdb]? = some (.cells (cdC c2) 129 (0,0))) (k3:kS.R 126 w1 w.heap.size (fun _=>True) (.slice c2.sA c2.sn c2.ss) (xs++[y])) (k4:(Value.slice c2.sA c2.sn c2.ss).ownBlock≠some skb)
  (k5:w1.heap[skb]? = some (.cells #[.slice A2 n2 cc2,.slice A2 n2 cc2,.bool inf,.int .i64 0] 126 (0,0))) (k6:Below 0 wr w1) (k7:∀ b,b<wr.heap.size→b≠skb→b≠cdb→(Value.slice c'.sA c'.sn c'.ss).ownBlock≠some b→w1.heap[b]? = wr.heap[b]?):AsI w w1 cdb skb cpb c inf (j+1) c2 (xs++[y]) A2 n2 cc2 A2 n2 cc2:=by
 have ge:∀ b,b<w.heap.size→(Value.slice c'.sA c'.sn c'.ss).ownBlock≠some b:=fun b hb e=>by have:=Kd.R_base h.row b e;omega
 refine ⟨h.same.trans k1,k2,k3,by rw [List.length_append,List.length_singleton];have:=h.len;omega,k4,k5,?_,h.bel.trans k6,fun b hb hne=>(k7 b (Nat.lt_of_lt_of_le hb h.bel.size) (by omega) hne (ge b hb)).trans (h.far b hb hne)⟩
 refine (k7 cpb (blk_lt h.box) hcs hcd (fun e=>?_)).trans h.box
 obtain ⟨cs,h2⟩:=Kd.R_typed h.row cpb e
 rw [h.box] at h2
 injection h2 with h2
 injection h2 with _ e _
 exact absurd e (by decide)
set_option maxRecDepth 100000 in
set_option maxHeartbeats 8000000 in
theorem splits_calls {w:World} {sb cdb:Nat} {c:Cd} {bots:List Nat} {bt:List Tb} {n0:Nat} (hc:w.heap[cdb]? = some (.cells (cdC c) 129 (0,0))) (hs:c.sA=none∧c.sn=0∧c.ss=0) (hb:ptrK.R 140 w n0 (fun _=>True) (.slice c.qA c.qn c.qc) bots) (ht:Ls.Tabs w bots bt) (hn:bots.length≤10000) (hk:∀ t∈bt,KLen t)
  (k1:KT w c.a1 c.r1.lo) (k2:KT w c.b1 c.r1.hi) (k3:KT w c.a2 c.r2.lo) (k4:KT w c.b2 c.r2.hi) (o1:IvR c.r1) (o2:IvR c.r2) :
  Calls Tryz.prog 75 #[.pointer (some ⟨sb,0,none⟩),.pointer (some ⟨cdb,0,none⟩)] w (AddPost w cdb c):=by
 obtain ⟨Q,hQ⟩ : ∃ Q,Q=AddPost w cdb c:=⟨_,rfl⟩
 rw [← hQ]
 have HQ:=hid hQ
 have HC:=hid hc
 have HB:=hid hb
 have HT:=hid ht
 have HK:=hid (show ∀ j,j<bt.length→KLen (Ls.tAt bt j) from fun j hj=>hk _ (It.tAt_mem hj))
 have HN:=hid hn
 have K1:=hid k1
 have K2:=hid k2
 have K3:=hid k3
 have K4:=hid k4
 have O1:=hid o1
 have O2:=hid o2
 obtain ⟨e1,e2,e3⟩:=hs
 have hqn:c.qn=bots.length:=(Kd.R_reads' hb).1
 clear hQ hc hb ht hk hn k1 k2 k3 k4 o1 o2
 obtain ⟨id,bl,tA,tn,tc,fA,fn,fc,lv0,sc,tl,nl,pA,pn,pc,qA,qn,qc,a1,b1,r1,a2,b2,r2,sA,sn,ss,sz⟩:=c
 simp only at e1 e2 e3 hqn HB K1 K2 K3 K4 O1 O2
 subst e1
 subst e2
 subst e3
 subst hqn
 go_enter Tryz.func75,Tryz.ntmps75
 go_upto_region 1 with (fail)
 obtain ⟨w1,hw1⟩ : ∃ w1,w1=w.alloc (.cells #[.pointer (some ⟨cdb,0,none⟩)] 114):=⟨_,rfl⟩
 rw [← hw1]
 obtain ⟨cpb,hcpb⟩ : ∃ b,b=w.heap.size:=⟨_,rfl⟩
 rw [← hcpb]
 have HB1:=hid (show Below w.heap.size w w1 by rw [hw1];exact below_alloc (Below.refl _ _) _)
 have HP1:=hid (show w1.heap[cpb]? = some (.cells #[.pointer (some ⟨cdb,0,none⟩)] 114 (0,0)) by rw [hw1,hcpb];exact blk_new w _)
 have HCP:=hid (show w.heap.size≤cpb by omega)
 clear hw1 hcpb
 have HC1:=hid ((HB1.out.block _ (blk_lt HC.out)).trans HC.out)
 have u0:w1.cell? ⟨cpb,0,none⟩=some (.pointer (some ⟨cdb,0,none⟩)):=blk_cell HP1.out 0
 have u1:w1.cell? ⟨cdb,23,none⟩=some (.slice none 0 0):=blk_cell HC1.out 23
 have u1f:=blk_frozen HC1.out 23
 refine start_ (n:=9) (S:=fun w'=>w'.cell? ⟨cpb,0,none⟩=some (.pointer (some ⟨cdb,0,none⟩))∧w'.cell? ⟨cdb,23,none⟩=some (.slice none 0 0)) (ds:=[8]) #[false,false,false,false,false,false,false,false,false] (by kernel_rfl) rfl rfl ⟨u0,u1⟩ (fun hHeld=>?_)
 refine take_ (i:=0) (N:=some 10) (v:=?_) (a':=?_) #[true,false,false,false,false,false,false,false,false] rfl rfl (by kernel_rfl) (fun _ _ _ h=>h) (Or.inl ⟨by rfl,?_⟩) hHeld ?_ ?_
 rotate_left
 ·rintro w' ⟨s0,s1⟩
  go_simp
  with_reducible rfl
 rotate_left
 ·simp only [Act.put,zA,zB,zC,i64_w,i32_w]
  rfl
 refine take_ (i:=1) (N:=some 11) (v:=?_) (a':=?_) #[true,true,false,false,false,false,false,false,false] rfl rfl (by kernel_rfl) (fun _ _ _ h=>h) (Or.inl ⟨by rfl,?_⟩) hHeld ?_ ?_
 rotate_left
 ·rintro w' ⟨s0,s1⟩
  go_simp
  with_reducible rfl
 rotate_left
 ·simp only [Act.put,zA,zB,zC,i64_w,i32_w]
  rfl
 refine pure_ (i:=2) (N:=some 12) (v:=?_) (a':=?_) #[true,true,true,false,false,false,false,false,false] rfl rfl (by kernel_rfl) (fun _ _ _ h=>h) (Or.inl ⟨by rfl,?_⟩) ?_ ?_
 rotate_left
 ·intro w'
  go_simp
  with_reducible rfl
 rotate_left
 ·simp only [Act.put,zA,zB,zC,i64_w,i32_w]
  rfl
 refine pure_ (i:=3) (N:=some 13) (v:=?_) (a':=?_) #[true,true,true,true,false,false,false,false,false] rfl rfl (by kernel_rfl) (fun _ _ _ h=>h) (Or.inl ⟨by rfl,?_⟩) ?_ ?_
 rotate_left
 ·intro w'
  go_simp
  with_reducible rfl
 rotate_left
 ·simp only [Act.put,zA,zB,zC,i64_w,i32_w]
  rfl
 refine take_ (i:=4) (N:=some 14) (v:=?_) (a':=?_) #[true,true,true,true,true,false,false,false,false] rfl rfl (by kernel_rfl) (fun _ _ _ h=>h) (Or.inl ⟨by rfl,?_⟩) hHeld ?_ ?_
 rotate_left
 ·rintro w' ⟨s0,s1⟩
  go_simp
  with_reducible rfl
 rotate_left
 ·simp only [Act.put,zA,zB,zC,i64_w,i32_w]
  rfl
 refine pure_ (i:=5) (N:=some 15) (v:=?_) (a':=?_) #[true,true,true,true,true,true,false,false,false] rfl rfl (by kernel_rfl) (fun _ _ _ h=>h) (Or.inl ⟨by rfl,?_⟩) ?_ ?_
 rotate_left
 ·intro w'
  go_simp
  with_reducible rfl
 rotate_left
 ·simp only [Act.put,zA,zB,zC,i64_w,i32_w]
  rfl
 refine pure_ (i:=6) (N:=some 16) (v:=?_) (a':=?_) #[true,true,true,true,true,true,true,false,false] rfl rfl (by kernel_rfl) (fun _ _ _ h=>h) (Or.inl ⟨by rfl,?_⟩) ?_ ?_
 rotate_left
 ·intro w'
  go_simp
  with_reducible rfl
 rotate_left
 ·simp only [Act.put,zA,zB,zC,i64_w,i32_w]
  rfl
 refine pure_ (i:=7) (N:=some 17) (v:=?_) (a':=?_) #[true,true,true,true,true,true,true,true,false] rfl rfl (by kernel_rfl) (fun _ _ _ h=>h) (Or.inl ⟨by rfl,?_⟩) ?_ ?_
 rotate_left
 ·intro w'
  go_simp
  with_reducible rfl
 rotate_left
 ·simp only [Act.put,zA,zB,zC,i64_w,i32_w]
  rfl
 refine last_ (i:=8) (N:=none) #[true,true,true,true,true,true,true,true,true] rfl rfl (by kernel_rfl) (by decide) (fun K hK=>?_)
 refine skip_ (w1:=?_) (by rfl) rfl ?_ ?_
 rotate_left
 ·go_simp
  rfl
 refine hK.out _ _ ?_
 clear hK K
 refine done_ (by kernel_rfl) ?_
 obtain ⟨w2,hw2⟩ : ∃ w2,w2=(w1.setCell ⟨cdb,23,none⟩ (.slice none 0 0)).drew:=⟨_,rfl⟩
 rw [← hw2]
 have hne:cpb≠cdb:=fun e=>by
  have h:=HP1.out
  rw [e,HC1.out] at h
  injection h with h
  injection h with _ e _
  exact absurd e (by decide)
 have HC2:=hid (show w2.heap[cdb]? = some (.cells (cdC ⟨id,bl,tA,tn,tc,fA,fn,fc,lv0,sc,tl,nl,pA,pn,pc,qA,bots.length,qc,a1,b1,r1,a2,b2,r2,none,0,0,sz⟩) 129 (0,0)) by rw [hw2];exact blk_set HC1.out 23 _)
 have HP2:=hid (show w2.heap[cpb]? = some (.cells #[.pointer (some ⟨cdb,0,none⟩)] 114 (0,0)) by rw [hw2];exact (Below.heap_setCell w1 ⟨cdb,23,none⟩ _ cpb hne).trans HP1.out)
 have HF2:=hid (show Below 0 w w2∧∀ b,b<w.heap.size→b≠cdb→w2.heap[b]? = w.heap[b]? from ⟨by rw [hw2];exact below_drew ((HB1.out.mono (Nat.zero_le _)).setCell (Nat.zero_le _) _),fun b hb h1=>by rw [hw2];exact (Below.heap_setCell w1 ⟨cdb,23,none⟩ _ b h1).trans (HB1.out.block b hb)⟩)
 clear hHeld u0 u1 u1f hw2 HP1 HC1 HB1
 have u0:w2.cell? ⟨cpb,0,none⟩=some (.pointer (some ⟨cdb,0,none⟩)):=blk_cell HP2.out 0
 have u1:w2.cell? ⟨cdb,14,none⟩=some (.slice qA bots.length qc):=blk_cell HC2.out 14
 obtain ⟨rq,wq,hq1,nq1,hq2⟩:=run_quo (floatOfInt FloatKind.f64 (bots.length:Int)) 4617315517961601024 w2
 have HQ2:=hid hq2
 clear hq2
 go_wp2_with fail
 refine (ceil_calls (w:=wq)).mono ?_
 rintro e w3 ⟨⟨rc,rfl⟩,nq2,hw3⟩
 have HW3:=hid (show w3=(w2.drewN nq1).drewN nq2 by rw [hw3,HQ2.out])
 clear hw3 hq1 HQ2
 obtain ⟨wd,w4,hc1,⟨nq3,hc2⟩,hwd⟩:=run_conv rc w3
 have HW4:=hid (show w4=((w2.drewN nq1).drewN nq2).drewN nq3 by rw [hc2,HW3.out])
 have HWD:=hid hwd
 clear hc2 hwd HW3
 go_upto_if 28 with (fail)
 clear hc1 u0 u1
 obtain ⟨q0,hq0⟩ : ∃ q,q=decide (wd<3):=⟨_,rfl⟩
 rw [← hq0]
 have HQ0:=hid hq0
 clear hq0
 go_cut [4] from 29 to 29 (fun v4 wc=>∃ W:Int,v4=.int .i64 W∧(3≤W∧W≤9223372036854775807)∧w4=wc)
 case first =>
  cases q0 with
  | true =>
   go_wp2_with fail
   go_meet
   case rel=>exact ⟨3,rfl,⟨by omega,by omega⟩,rfl⟩
  | false =>
   have H3:=hid (show ¬ wd<3 from of_decide_eq_false HQ0.out.symm)
   go_wp2_with fail
   go_meet
   case rel=>exact ⟨wd,rfl,⟨by have:=H3.out;omega,HWD.out.2⟩,rfl⟩
 case rest =>
  obtain ⟨W,rfl,hW,rfl⟩:=hcut
  have HWW:=hid hW
  have HC4:=hid (show w4.heap[cdb]? = some (.cells (cdC ⟨id,bl,tA,tn,tc,fA,fn,fc,lv0,sc,tl,nl,pA,pn,pc,qA,bots.length,qc,a1,b1,r1,a2,b2,r2,none,0,0,sz⟩) 129 (0,0)) by rw [HW4.out];exact HC2.out)
  have HP4:=hid (show w4.heap[cpb]? = some (.cells #[.pointer (some ⟨cdb,0,none⟩)] 114 (0,0)) by rw [HW4.out];exact HP2.out)
  have HF4:=hid (show Below 0 w w4∧∀ b,b<w.heap.size→b≠cdb→w4.heap[b]? = w.heap[b]? by rw [HW4.out];exact ⟨pw_below_drewN (pw_below_drewN (pw_below_drewN HF2.out.1 _) _) _,HF2.out.2⟩)
  clear hW HWD HW4 HC2 HP2 HF2
  have u0:w4.cell? ⟨cpb,0,none⟩=some (.pointer (some ⟨cdb,0,none⟩)):=blk_cell HP4.out 0
  have x0:w4.cell? ⟨cdb,15,none⟩=some (.slice a1 r1.lo.length r1.lo.length):=blk_cell HC4.out 15
  have x1:w4.cell? ⟨cdb,16,none⟩=some (.slice b1 r1.hi.length r1.hi.length):=blk_cell HC4.out 16
  have x2:w4.cell? ⟨cdb,17,none⟩=some (.bool r1.inf):=blk_cell HC4.out 17
  have x3:w4.cell? ⟨cdb,18,none⟩=some (.int .i64 0):=blk_cell HC4.out 18
  go_upto_region 6 with (fail)
  obtain ⟨w5,hw5⟩ : ∃ w5,w5=w4.alloc (.cells #[.slice a1 r1.lo.length r1.lo.length,.slice b1 r1.hi.length r1.hi.length,.bool r1.inf,.int .i64 0] 126):=⟨_,rfl⟩
  rw [← hw5]
  obtain ⟨skb,hskb⟩ : ∃ b,b=w4.heap.size:=⟨_,rfl⟩
  rw [← hskb]
  have hb5:Below w4.heap.size w4 w5:=by rw [hw5];exact below_alloc (Below.refl _ _) _
  have HS5:=hid (show w5.heap[skb]? = some (.cells (rgC a1 b1 r1).toArray 126 (0,0)) by rw [hw5,hskb];exact blk_new w4 _)
  have HSK:=hid (show w.heap.size≤skb by have:=HF4.out.1.size;omega)
  have HC5:=hid ((hb5.block _ (blk_lt HC4.out)).trans HC4.out)
  have HP5:=hid ((hb5.block _ (blk_lt HP4.out)).trans HP4.out)
  have HF5:=hid (show Below 0 w w5∧∀ b,b<w.heap.size→b≠cdb→w5.heap[b]? = w.heap[b]? from ⟨HF4.out.1.trans (hb5.mono (Nat.zero_le _)),fun b hb hne=>(hb5.block b (Nat.lt_of_lt_of_le hb HF4.out.1.size)).trans (HF4.out.2 b hb hne)⟩)
  clear hw5 hskb hb5 u0 x0 x1 x2 x3 HC4 HP4 HF4
  have kk:∀ {A:Option Addr} {x:List UInt8},KT w A x→0<x.length→∃ b,A=some ⟨b,0,none⟩∧w5.heap[b]? = some (keyO x):=fun {A x} h hx=>by
   obtain ⟨b,e,h1⟩:=h.key hx
   refine ⟨b,e,(HF5.out.2 b (blk_lt h1) (fun e2=>?_)).trans h1⟩
   have h:=HC.out
   rw [← e2,h1] at h
   injection h with h
   injection h with _ e _
   exact absurd e (by decide)
  obtain ⟨ka,rfl,hka⟩:=kk K1.out (by have:=O1.out.1;omega)
  obtain ⟨kc,rfl,hkc⟩:=kk K2.out (by have:=O1.out.1;omega)
  obtain ⟨ke,rfl,hke⟩:=kk K3.out (by have:=O2.out.1;omega)
  obtain ⟨kf,rfl,hkf⟩:=kk K4.out (by have:=O2.out.1;omega)
  have K100:=hid (ext_calls (w:=w5) (ok:=fun _=>True) (g:=skb) (o:=0) (T:=126) (arr:=(rgC (some ⟨ka,0,none⟩) (some ⟨kc,0,none⟩) r1).toArray) (r:=r1) (k:=r2) HS5.out (by decide) (fun i u hu=>by rw [Nat.zero_add];simpa using hu) hke trivial hkf trivial O2.out.1.1 O2.out.1.2 O2.out.2 (.inr ⟨ka,rfl,hka,trivial⟩) (.inr ⟨kc,rfl,hkc,trivial⟩) (.inr O1.out.1) O1.out.2)
  simp only [rgC] at K100
  clear kk hka hkc hke hkf
  have u0:w5.cell? ⟨cpb,0,none⟩=some (.pointer (some ⟨cdb,0,none⟩)):=blk_cell HP5.out 0
  have x0:w5.cell? ⟨cdb,19,none⟩=some (.slice (some ⟨ke,0,none⟩) r2.lo.length r2.lo.length):=blk_cell HC5.out 19
  have x1:w5.cell? ⟨cdb,20,none⟩=some (.slice (some ⟨kf,0,none⟩) r2.hi.length r2.hi.length):=blk_cell HC5.out 20
  have x2:w5.cell? ⟨cdb,21,none⟩=some (.bool r2.inf):=blk_cell HC5.out 21
  have x3:w5.cell? ⟨cdb,22,none⟩=some (.int .i64 0):=blk_cell HC5.out 22
  have HPC:=hid (show cpb≠skb∧cdb≠skb from ⟨fun e=>by
    have h:=HS5.out
    rw [← e,HP5.out] at h
    injection h with h
    injection h with _ e _
    exact absurd e (by decide),fun e=>by
    have h:=HS5.out
    rw [← e,HC5.out] at h
    injection h with h
    injection h with _ e _
    exact absurd e (by decide)⟩)
  go_wp2_with fail
  refine K100.out.mono ?_
  rintro e w6 ⟨rfl,arr',A',B',hx1,hx2,hx3,hx4,hx5,hx6,hx7,hx8⟩
  have HS6:=hid (show w6.heap[skb]? = some (.cells #[.slice A' (extR r1 r2).lo.length (extR r1 r2).lo.length,.slice B' (extR r1 r2).hi.length (extR r1 r2).hi.length,.bool (extR r1 r2).inf,.int .i64 0] 126 (0,0)) by rw [hx1,four_of (hx4.trans rfl) hx2];rfl)
  have HC6:=hid ((hx8 cdb (blk_lt HC5.out) HPC.out.2).trans HC5.out)
  have HP6:=hid ((hx8 cpb (blk_lt HP5.out) HPC.out.1).trans HP5.out)
  have HF6:=hid (show Below 0 w w6∧∀ b,b<w.heap.size→b≠cdb→w6.heap[b]? = w.heap[b]? from ⟨HF5.out.1.trans hx7,fun b hb hne=>(hx8 b (Nat.lt_of_lt_of_le hb HF5.out.1.size) (fun e=>by have:=HSK.out;omega)).trans (HF5.out.2 b hb hne)⟩)
  clear hx1 hx2 hx3 hx4 hx5 hx6 hx7 hx8 K100 u0 x0 x1 x2 x3 HS5 HC5 HP5 HF5
  have u0:w6.cell? ⟨cpb,0,none⟩=some (.pointer (some ⟨cdb,0,none⟩)):=blk_cell HP6.out 0
  have u1:w6.cell? ⟨cdb,14,none⟩=some (.slice qA bots.length qc):=blk_cell HC6.out 14
  generalize (extR r1 r2).lo.length=e1 at *
  generalize (extR r1 r2).hi.length=e2 at *
  generalize (extR r1 r2).inf=e3 at *
  go_wp2_with fail
  obtain ⟨cc0,hcc0⟩ : ∃ c:Cd,c=⟨id,bl,tA,tn,tc,fA,fn,fc,lv0,sc,tl,nl,pA,pn,pc,qA,bots.length,qc,some ⟨ka,0,none⟩,some ⟨kc,0,none⟩,r1,some ⟨ke,0,none⟩,some ⟨kf,0,none⟩,r2,none,0,0,sz⟩:=⟨_,rfl⟩
  have HCC:=hid hcc0
  rw [← hcc0] at HC6 HQ
  have HI0:=hid (show AsI w w6 cdb skb cpb cc0 e3 0 cc0 [] A' e1 e1 B' e2 e2 from ⟨⟨rfl,rfl,rfl,rfl,rfl,rfl,rfl,rfl,rfl,rfl,rfl,rfl,rfl,rfl,rfl,rfl,rfl,rfl,rfl,rfl,rfl,rfl,rfl,rfl,rfl⟩,HC6.out,by rw [hcc0];exact Kd.R_nil _ _ _ _ _,Nat.le_refl _,by rw [hcc0];simp [Value.ownBlock],HS6.out,HP6.out,HF6.out.1,HF6.out.2⟩)
  have HQC:=hid (show cc0.qA=qA∧cc0.qn=bots.length∧cc0.qc=qc by rw [hcc0];exact ⟨rfl,rfl,rfl⟩)
  clear hcc0 u0 u1 HS6 HC6 HP6 HF6
  have HAT:=hid (show ∀ j,j<bots.length→∃ g p,qA=some ⟨g,0,none⟩∧w.cell? ⟨g,j,none⟩=some (ptr p)∧g≠cdb∧Ls.TabH w p (Ls.tAt bt j) from fun j hj=>by
   obtain ⟨g,c2,e,hc⟩:=It.row_at HB.out hj
   injection e with e _ _
   refine ⟨g,_,e,hc,fun e2=>?_,Ls.tabs_at HT.out hj⟩
   obtain ⟨cs,h2⟩:=Kd.R_typed HB.out g (by rw [e];simp [Value.ownBlock])
   have h3:=HC.out
   rw [← e2,h2] at h3
   injection h3 with h3
   injection h3 with _ e _
   exact absurd e (by decide))
  have HTL:=hid (show bt.length=bots.length from HT.out.1.symm)
  go_loopg [7,8,9,44] bots.length (fun kq v7 v8 v9 v44 wr=>∃ (j:Nat) (c':Cd) (xs:List Sp) (A:Option Addr) (n cc:Nat) (B:Option Addr) (m dd:Nat),v44=.int .i64 (j:Int)∧Aside0 (j+kq=bots.length)∧Aside0 (AsI w wr cdb skb cpb cc0 e3 j c' xs A n cc B m dd))
  case atStart=>exact ⟨0,cc0,[],A',e1,e1,B',e2,e2,rfl,⟨by omega⟩,⟨HI0.out⟩⟩
  case round =>
   clear HI0
   obtain ⟨j,c',xs,A,n,cc,B,m,dd,rfl,HJ,HI⟩:=hrel
   have HII:=hid HI.out
   clear HI
   by_cases hj:j<bots.length
   ·have d1:decide ((j:Int)<(bots.length:Int))=true:=decide_eq_true (by omega)
    have HGK:=hid (show gk - 1<gk∧j+1+(gk - 1)=bots.length by have:=HJ.out;omega)
    have s3:IntKind.i64.wrap ((j:Int)+1)=((j+1:Nat):Int):=by rw [IntWalk.i64_in _ (by have:=HN.out;omega)];omega
    have s4:IntKind.i64.wrap ((bots.length:Int) - 1)=(bots.length:Int) - 1:=by rw [IntWalk.i64_in _ (by have:=HN.out;omega)]
    obtain ⟨gb,p,eA,cj0,hgd,tj⟩:=HAT.out j hj
    subst eA
    have cj:wr.cell? ⟨gb,j,none⟩=some (.pointer (some ⟨p,0,none⟩)):=by
     have e:=HII.out.far gb (World.block_lt_of_cell? w _ cj0) hgd
     have h:=cj0
     simp only [ptr] at h
     simpa [World.cell?,e] using h
    have u0:wr.cell? ⟨cpb,0,none⟩=some (.pointer (some ⟨cdb,0,none⟩)):=blk_cell HII.out.box 0
    have u1:wr.cell? ⟨cdb,14,none⟩=some (.slice (some ⟨gb,0,none⟩) bots.length qc):=by
     have h:=blk_cell HII.out.blk 14
     have e:(cdC c')[14]? = some (.slice c'.qA c'.qn c'.qc):=rfl
     obtain ⟨_,_,_,_,_,_,_,_,_,_,_,_,_,_,_,h16,h17,h18,_⟩:=HII.out.same
     rw [h,e,h16,h17,h18,HQC.out.1,HQC.out.2.1,HQC.out.2.2]
    by_cases hl:j+1=bots.length
    ·have dq:((j:Int) == (bots.length:Int) - 1)=true:=beq_iff_eq.2 (by omega)
     have HIA:=hid (HII.out.below (below_alloc (Below.refl _ wr) (.cells #[] 5)))
     have K101:=hid (add_calls (w:=wr.alloc (.cells #[] 5)) (Rr:=some ⟨wr.heap.size,0,none⟩) (rn:=0) (rc:=0) (x:=[]) (B0:=w.heap.size) HIA.out.skr (blk_cell HIA.out.box 0) HIA.out.blk HIA.out.row ⟨_,HIA.out.box⟩ HIA.out.bel.size HIA.out.ne (by have:=HIA.out.len;have:=HN.out;omega) rfl (fun h=>absurd h (Nat.lt_irrefl _)) (by omega))
     have HJN:=hid hl
     clear hl
     go_wp2_with fail
     refine K101.out.mono ?_
     rintro e w7 ⟨rfl,c2,y,A2,n2,cc2,q1,q2,q3,q4,q5,q6,q7⟩
     have HI2:=hid (HIA.out.add HSK.out HCP.out HPC.out.1 hne q1 q2 q3 q4 q5 q6 q7)
     clear q1 q2 q3 q4 q5 q6 q7 K101
     have HE:=hid (show Q (.returned (.tuple #[])) w7 by
      rw [HQ.out]
      exact ⟨rfl,c2,_,HI2.out.same,HI2.out.blk,HI2.out.row,by have:=HI2.out.len;have:=HJN.out;have:=HN.out;omega,HI2.out.bel,HI2.out.far⟩)
     go_wp2_with fail
     first
      | exact HE.out
      | (go_end0;exact HE.out)
    ·have dq:((j:Int) == (bots.length:Int) - 1)=false:=beq_eq_false_iff_ne.2 (by omega)
     clear hl
     have hw0:(W == 0)=false:=beq_eq_false_iff_ne.2 (by have:=HWW.out;omega)
     have hw1:¬ W=0:=by have:=HWW.out;omega
     have s5:IntKind.i64.wrap (W - 1)=W - 1:=by rw [IntWalk.i64_in _ (by have:=HWW.out;omega)]
     have s6:IntKind.i64.wrap ((j:Int).tmod W)=(j:Int).tmod W:=wrap_tmod (by have:=HWW.out;omega) (by omega) (by have:=HN.out;omega)
     go_upto_if 65 with (fail)
     obtain ⟨q2,hq2⟩ : ∃ q,q=((j:Int) % W == W - 1):=⟨_,rfl⟩
     rw [← hq2]
     clear hq2
     cases q2 with
     | false =>
      go_wp2_with fail
      go_roundg (gk - 1)
      case measure=>exact HGK.out.1
      case rel=>exact ⟨j+1,c',xs,A,n,cc,B,m,dd,rfl,⟨HGK.out.2⟩,⟨⟨HII.out.same,HII.out.blk,HII.out.row,by have:=HII.out.len;omega,HII.out.ne,HII.out.skr,HII.out.box,HII.out.bel,HII.out.far⟩⟩⟩
     | true =>
      have tw:Ls.TabH wr p (Ls.tAt bt j):=by
       obtain ⟨b1,b2,k1,k2,k3⟩:=tj
       have mv:∀ {b t:Nat} {arr:Array Value},w.heap[b]? = some (.cells arr t (0,0))→t≠129→wr.heap[b]? = some (.cells arr t (0,0)):=fun {b t arr} hb ht=>(HII.out.far b (blk_lt hb) (fun e=>by
        have h:=HC.out
        rw [← e,hb] at h
        injection h with h
        injection h with _ e _
        exact ht e)).trans hb
       exact ⟨b1,b2,mv k1 (by decide),mv k2 (by decide),mv k3 (by decide)⟩
      have hkl:=HK.out j (by rw [HTL.out];exact hj)
      obtain ⟨t,hte⟩ : ∃ t,t=Ls.tAt bt j:=⟨_,rfl⟩
      rw [← hte] at tw hkl
      clear hte tj
      obtain ⟨l1,l2,g1,g2,g3,g4⟩:=tab_keys tw
      obtain ⟨kn,hkn⟩ : ∃ k,t.big.length=k+8:=⟨t.big.length - 8,by have:=hkl.2;omega⟩
      rw [hkn] at g2
      have HBG:=hid (biggest_calls g2)
      have HPK:=hid (Rn.parseKey_calls (w:=wr) (b:=l2) (k:=kn) (c:=kn+8) (by have:=hkl.2;omega) (Nat.le_refl _))
      have HKW:=hid (keyWithTs_calls (w:=wr) (A:=some ⟨l2,0,none⟩) (n:=kn) (c:=kn+8) (x:=uk t.big) (ts:=0) (by rw [uk_len,hkn];omega) (fun _=>⟨_,rfl,at_key0 g4⟩) (by have:=hkl.2;omega) (by omega) (by omega))
      have HKN:=hid (show kn+8≤100000000∧(uk t.big++be64b (top 0)).length=kn+8 from ⟨by have:=hkl.2;omega,by rw [List.length_append,uk_len,hkn,be64b_len];omega⟩)
      clear g1 g2 g3 g4 tw hkl hkn
      go_wp2_with (first | (go_at_call 103;refine HBG.out.mono ?_;rintro e w' ⟨rfl,rfl⟩) | (go_at_call 64;refine HPK.out.mono ?_;rintro e w' ⟨rfl,rfl⟩))
      refine HKW.out.mono ?_
      rintro e w7 ⟨rfl,hk7,hb7⟩
      obtain ⟨kb7,hkb7⟩ : ∃ g,g=wr.heap.size:=⟨_,rfl⟩
      rw [← hkb7] at hk7
      rw [← hkb7]
      have HIA:=hid (HII.out.below hb7)
      have HAt:=hid (show At w7 ⟨kb7,0,none⟩ (uk t.big++be64b (top 0)) from by
       have h:=at_key hk7 0 (uk t.big++be64b (top 0)).length
       rwa [List.drop_zero,List.take_length] at h)
      clear hk7 hb7 hkb7 u0 u1 cj
      have K101:=hid (add_calls (w:=w7) (Rr:=some ⟨kb7,0,none⟩) (rn:=kn+8) (rc:=kn+8) (x:=uk t.big++be64b (top 0)) (B0:=w.heap.size) HIA.out.skr (blk_cell HIA.out.box 0) HIA.out.blk HIA.out.row ⟨_,HIA.out.box⟩ HIA.out.bel.size HIA.out.ne (by have:=HIA.out.len;have:=HN.out;omega) HKN.out.2 (fun _=>⟨_,rfl,HAt.out⟩) (by have:=HKN.out.1;omega))
      go_wp2_with fail
      refine K101.out.mono ?_
      rintro e w8 ⟨rfl,c2,y,A2,n2,cc2,q1,q2,q3,q4,q5,q6,q7⟩
      have HI2:=hid (HIA.out.add HSK.out HCP.out HPC.out.1 hne q1 q2 q3 q4 q5 q6 q7)
      clear q1 q2 q3 q4 q5 q6 q7 K101
      go_wp2_with fail
      go_roundg (gk - 1)
      case measure=>exact HGK.out.1
      case rel=>exact ⟨j+1,c2,_,A2,n2,cc2,A2,n2,cc2,rfl,⟨HGK.out.2⟩,⟨HI2.out⟩⟩
   ·have d1:decide ((j:Int)<(bots.length:Int))=false:=decide_eq_false (by omega)
    have HE:=hid (show Q (.returned (.tuple #[])) wr by
     rw [HQ.out]
     exact ⟨rfl,c',xs,HII.out.same,HII.out.blk,HII.out.row,by have:=HII.out.len;have:=HJ.out;have:=HN.out;omega,HII.out.bel,HII.out.far⟩)
    go_wp2_with fail
    go_end0
    exact HE.out
end Go.Proofs.YtnineoajmgneiaaGreat.Rg
namespace Go.Proofs.YtnineoajmgneiaaGreat.Rg
open Go.RowKit YtnineoajmgneiaaGreatW YtnineoajmgneiaaGreatW.PrintWords YtnineoajmgneiaaGreatW.PrintLast YtnineoajmgneiaaGreatW.PrintMore Fr L Ky Tm Lm It
theorem lv_of_cor [Ghost] {w:World} {S:Nat→Prop} {n0 sb ob mb:Nat} {lv cv:Value} {hs:List Hd} {cs:List Nat} {o:Lm.Op} {rgs:List (List Rg)} {run:List Int} (h:Cor w S n0 sb ob mb lv cv hs cs o rgs run) (hp:0<hs.length):∃ blk c,lv=.slice (some ⟨blk,0,none⟩) hs.length c∧(∀ (i:Nat) (x:Hd),hs[i]? = some x→w.cell? ⟨blk,i,none⟩=some (ptr x.hp))∧Tg.Lv w sb ob blk c o (hs.map fun x=>total x.ts):=by
 obtain ⟨A,c,e,hc,hr⟩:=h.st.lrow
 rw [List.length_map] at e hc hr
 obtain ⟨b,ds,rfl,_,hb,hat⟩:=hr hp
 have hcell:∀ (i:Nat) (x:Hd),hs[i]? = some x→w.cell? ⟨b,i,none⟩=some (ptr x.hp):=fun i x hx=>by
  rw [blk_cell hb]
  exact hat i _ (by rw [List.getElem?_map,hx];rfl)
 refine ⟨b,c,e,hcell,?_,?_,h.st.opt.2,fun i hi=>?_⟩
 ·rw [List.length_map,← e];exact blk_cell h.st.ctl.2 0
 ·exact blk_cell h.st.ctl.2 1
 ·rw [List.length_map] at hi
  refine ⟨hs[i].hp,hcell i _ (List.getElem?_eq_getElem hi),?_⟩
  have:=blk_cell (h.st.lev i _ (List.getElem?_eq_getElem hi)).blk 1
  refine this.trans ?_
  simp [hi]
theorem info114:(Tryz.prog.info? 114).map (fun i=>(i.zero,i.size,i.bytes))=some (some (.pointer none),1,8):=by kernel_rfl
theorem iv_of {ts:List Tb} (hp:0<ts.length) (hk:∀ t∈ts,KLen t):IvR (rgOf ts):=by
 cases ts with
 | nil=>simp at hp
 | cons t ts =>
  have a:=lo_len hk
  have b:=hi_len hk
  refine ⟨⟨?_,?_⟩,rfl⟩
  ·simp only [rgOf,List.length_append,uk_len,z8_len];omega
  ·simp only [rgOf,List.length_append,uk_len,f8_len];omega
theorem iv_next {r:Rg} {B:List Tb} (hr:IvR r) (hk:∀ t∈B,KLen t):IvR (nextR r B):=by
 unfold nextR
 split
 ·exact hr
 ·exact iv_of (by omega) hk
theorem cdok_same {w:World} {n0 nlb:Nat} {c d:Cd} {tops bots:List Nat} {tt bt:List Tb} (h:CdOk w n0 c tops bots tt bt nlb) (hs:SameS c d):CdOk w n0 d tops bots tt bt nlb:=by
 rw [sameS_of hs]
 exact ⟨h.enl,h.top,h.bot,h.apart,h.pos,h.ttab,h.btab,h.k1,h.k2,h.k3,h.k4,h.o1,h.o2⟩
theorem optR_keep {w w1:World} {b e:Nat} {v:Value} {ps:List (Option Nat)} {G:Option Nat} (h:ptrO.R e w b (fun _=>True) v ps) (he:e∉[144,126]) (hk:KeepC w w1 G) (hG:∀ k,v.ownBlock=some k→G≠some k):ptrO.R e w1 b (fun _=>True) v ps:=
 Kd.R_mono (Kd.R_step (Kd.R_tight rfl h) (fun k hk2 hl=>by
  obtain ⟨cs,hc⟩:=Kd.R_typed h k hk2.symm
  exact hk.2 k cs e hc he (hG k hk2.symm))) (fun _ _=>trivial)
theorem Cor.grow [Ghost] {α:Type} {d:Kd α} {w w1:World} {S:Nat→Prop} {n0 B sb ob mb t:Nat} {lv cv v:Value} {hs:List Hd} {cs:List Nat} {o:Lm.Op} {rgs:List (List Rg)} {run:List Int} {ok:Nat→Prop} {xs:List α} (h:Cor w S n0 sb ob mb lv cv hs cs o rgs run) (hr:d.R t w B ok v xs) (ht:t∉[144,126,5]) (hB:n0≤B) (hg:w.grownBy w1 v.ownBlock):Cor w1 S n0 sb ob mb lv cv hs cs o rgs run:=by
 have own_ge:∀ k,v.ownBlock=some k→n0≤k:=fun k hk=>Nat.le_trans hB (Kd.R_base hr k hk)
 have own_ty:∀ k,v.ownBlock=some k→∃ cs,w.heap[k]? = some (Obj.cells cs t (0,0)):=fun k hk=>Kd.R_typed hr k hk
 refine h.move (fun b hb=>hg.block b (Nat.lt_of_lt_of_le (h.lt b hb) h.nb) (fun e=>?_)) (fun b arr t hb ht2=>hg.block b (blk_lt hb) (fun e=>?_)) (hg.block mb (Nat.lt_of_lt_of_le h.ml h.nb) (fun e=>?_)) hg.size
 ·have:=own_ge b e.symm
  have:=h.lt b hb
  omega
 ·obtain ⟨cs2,hc2⟩:=own_ty b e.symm
  rw [hb] at hc2
  injection hc2 with hc2
  injection hc2 with _ e _
  subst e
  exact ht ht2
 ·have:=own_ge mb e.symm
  have:=h.ml
  omega
theorem CdOk.move {w w1:World} {n0 nlb:Nat} {c:Cd} {tops bots:List Nat} {tt bt:List Tb} (h:CdOk w n0 c tops bots tt bt nlb) (hk:∀ (b:Nat) (arr:Array Value) (t:Nat),w.heap[b]? = some (.cells arr t (0,0))→t=98∨t=5∨t=140→w1.heap[b]? = w.heap[b]?):CdOk w1 n0 c tops bots tt bt nlb:=by
 have kb:∀ {A:Option Addr} {x:List UInt8},KB w (fun k=>n0≤k) A x→KB w1 (fun k=>n0≤k) A x:=fun {A x} hh=>by
  rcases hh with hh | ⟨b,e,h1,h2⟩
  ·exact .inl hh
  ·exact .inr ⟨b,e,(hk b _ _ h1 (.inr (.inl rfl))).trans h1,h2⟩
 have row:∀ {v:Value} {ps:List Nat},ptrK.R 140 w n0 (fun _=>True) v ps→ptrK.R 140 w1 n0 (fun _=>True) v ps:=fun {v ps} hr=>ptr_frame hr (fun k _ e=>by
  obtain ⟨cs,hc⟩:=Kd.R_typed hr k e
  exact hk k cs 140 hc (.inr (.inr rfl)))
 have tb:∀ {ps:List Nat} {ts:List Tb},Ls.Tabs w ps ts→Ls.Tabs w1 ps ts:=fun {ps ts} ht=>tabs_move ht (fun b arr t hb e=>hk b arr t hb (by rcases e with e | e;exact .inl e;exact .inr (.inl e)))
 exact ⟨h.enl,row h.top,row h.bot,h.apart,h.pos,tb h.ttab,tb h.btab,kb h.k1,kb h.k2,kb h.k3,kb h.k4,h.o1,h.o2⟩
theorem num_row {w:World} {A:Option Addr} {n c b:Nat} {ps:List Nat} {ts:List Tb} (h:ptrK.R 140 w b (fun _=>True) (.slice A n c) ps) (ht:Ls.Tabs w ps ts):n=(ts.map (·.num)).length∧NumRow w A (ts.map (·.num)):=by
 obtain ⟨e,_,hC⟩:=Kd.R_reads' h
 have hl:=ht.1
 refine ⟨by rw [List.length_map];omega,fun j hj=>?_⟩
 rw [List.length_map] at hj
 have hr:=Kd.reads_of_C (enc:=ptr) (h1:=fun _=>rfl) (d:=0) hC
 obtain ⟨ad,eA,hc⟩:=hr.2.2 (by omega)
 subst eA
 obtain ⟨g,rfl⟩:=Kd.R_head h
 have h1:=hc j (by omega)
 rw [add_off,Nat.zero_add] at h1
 obtain ⟨b2,c2,k1,_,_⟩:=ht.2 j (ps.getD j 0) ts[j] (by simp [show j<ps.length by omega]) (List.getElem?_eq_getElem hj)
 refine ⟨g,ps.getD j 0,rfl,h1,?_⟩
 rw [blk_cell k1 0]
 simp [tabC,hj]
theorem R_stay {α:Type} {d:Kd α} {w w1:World} {t B:Nat} {v:Value} {xs:List α} (h:d.R t w B (fun _=>True) v xs) (hE:d.E=[]) (hk:∀ k,k<w.heap.size→v.ownBlock=some k→w1.heap[k]? = w.heap[k]?):d.R t w1 B (fun _=>True) v xs:=
 Kd.R_mono (Kd.R_step (Kd.R_tight hE h) (fun k hk2 hl=>hk k hl hk2.symm)) (fun _ _=>trivial)
/-- A pair of keys' slices. -/
def kP:Kd (Option Addr × Nat × Nat × Option Addr × Nat × Nat) where
 sz:=2
 E:=[]
 K:=fun _ x cs=>cs=[.slice x.1 x.2.1 x.2.2.1,.slice x.2.2.2.1 x.2.2.2.2.1 x.2.2.2.2.2]
 M:=fun _ _ _ x cs=>cs=[.slice x.1 x.2.1 x.2.2.1,.slice x.2.2.2.1 x.2.2.2.2.1 x.2.2.2.2.2]
 K_len:=fun h=>by rw [h];rfl
 K_one:=fun h u hu=>by
  rw [h] at hu
  simp only [List.mem_cons,List.not_mem_nil,or_false] at hu
  rcases hu with h | h<;>rw [h]<;>rfl
 K_below:=fun _ h=>h
 K_of_M:=fun h=>h
 M_mono:=fun _ h=>h
 M_bound:=fun h=>h
 M_move:=fun _ h=>h
 M_lower:=fun _ h=>h
/-- All older blocks but one stay. -/
def Nb (w w1:World) (g:Nat):Prop:=Below 0 w w1∧∀ b,b<w.heap.size→b≠g→w1.heap[b]? = w.heap[b]?
theorem Nb.refl (w:World) (g:Nat):Nb w w g:=⟨Below.refl 0 w,fun _ _ _=>rfl⟩
theorem Nb.of {w w1:World} (h:Below w.heap.size w w1) (g:Nat):Nb w w1 g:=⟨h.mono (Nat.zero_le _),fun b hb _=>h.block b hb⟩
theorem Nb.trans {w w1 w2:World} {g:Nat} (h:Nb w w1 g) (k:Nb w1 w2 g):Nb w w2 g:=⟨h.1.trans k.1,fun b hb hne=>(k.2 b (Nat.lt_of_lt_of_le hb h.1.size) hne).trans (h.2 b hb hne)⟩
theorem Nb.set {w w1:World} {g:Nat} (h:Nb w w1 g) (k:Nat) (v:Value):Nb w (w1.setCell ⟨g,k,none⟩ v) g:=⟨h.1.setCell (Nat.zero_le _) _,fun b hb hne=>(Below.heap_setCell w1 ⟨g,k,none⟩ v b hne).trans (h.2 b hb hne)⟩
theorem Nb.ty {w w1:World} {g t0:Nat} {arr0:Array Value} (h:Nb w w1 g) (hg:w.heap[g]? = some (.cells arr0 t0 (0,0))) (b:Nat) (arr:Array Value) (t:Nat) (hb:w.heap[b]? = some (.cells arr t (0,0))) (ht:t≠t0):w1.heap[b]? = w.heap[b]?:=h.2 b (blk_lt hb) (fun e=>by
 subst e
 rw [hg] at hb
 injection hb with hb
 injection hb with _ e _
 exact ht e.symm)
/-- A row of splits that is read. -/
def spZ:Sp:=⟨none,0,0,none,0,0,false⟩
def SRow (w:World) (A:Option Addr) (xs:List Sp):Prop:=∀ j,j<xs.length→∃ g x,A=some ⟨g,0,none⟩∧∀ i u,(spC x)[i]? = some u→w.cell? ⟨g,j*4+i,none⟩=some u
theorem srow_of_R {w:World} {base c:Nat} {ok:Nat→Prop} {A:Option Addr} {n:Nat} {xs:List Sp} (h:kS.R 126 w base ok (.slice A n c) xs):SRow w A xs:=fun j hj=>by
 have hn:n=xs.length:=(Kd.R_reads' h).1
 subst hn
 obtain ⟨ad,hA,-⟩ : ∃ ad,A=some ad∧True:=by
  obtain ⟨g,cap,e,_⟩:=Kd.R_form h (by omega)
  injection e with e
  exact ⟨_,e,trivial⟩
 subst hA
 obtain ⟨g,rfl⟩:=Kd.R_head h
 obtain ⟨cs,_,hM,hc⟩:=Kd.R_getA h spZ (j:Int) (by omega) (by omega)
 have e:=hM
 rw [Int.toNat_natCast] at e hc
 refine ⟨g,xs.getD j spZ,rfl,fun i u hu=>?_⟩
 have:=hc i u (by have e:cs=spC (xs.getD j spZ):=e;rw [e];exact hu)
 rwa [add_off,Nat.zero_add] at this
theorem srow_cells {w:World} {g k:Nat} {x:Sp} (h:∀ i u,(spC x)[i]? = some u→w.cell? ⟨g,k+i,none⟩=some u) :
  w.cell? ⟨g,k,none⟩=some (.slice x.A x.n x.c)∧w.cell? ⟨g,k+1,none⟩=some (.slice x.B x.m x.d)∧w.cell? ⟨g,k+2,none⟩=some (.bool x.i)∧w.cell? ⟨g,k+3,none⟩=some (.int .i64 0):=⟨h 0 _ rfl,h 1 _ rfl,h 2 _ rfl,h 3 _ rfl⟩
theorem SRow.stay {w w1:World} {A:Option Addr} {xs:List Sp} {g0:Nat} (h:SRow w A xs) (hn:Nb w w1 g0) (hg:∀ a,A=some a→a.block≠g0):SRow w1 A xs:=fun j hj=>by
 obtain ⟨g,x,e,h1⟩:=h j hj
 refine ⟨g,x,e,fun i u hu=>?_⟩
 have h2:=h1 i u hu
 have hl:=World.block_lt_of_cell? w _ h2
 exact (World.cell?_of_block (w:=w) (w':=w1) (hn.2 g hl (hg _ e))).trans h2
def rbC (a b:Int) (A1:Option Addr) (m1 k1:Nat) (A2:Option Addr) (m2 k2:Nat) (d:Cd) (v:Value):Array Value:=#[.int .i64 a,.int .i64 b,.slice A1 m1 k1,.slice A2 m2 k2,.slice d.a1 d.r1.lo.length d.r1.lo.length,.slice d.b1 d.r1.hi.length d.r1.hi.length,.slice d.a2 d.r2.lo.length d.r2.lo.length,.slice d.b2 d.r2.hi.length d.r2.hi.length,.bool d.r1.inf,v]
structure FiL (w12 wr:World) (rb j:Nat) (a b:Int) (A1:Option Addr) (m1 k1:Nat) (A2:Option Addr) (m2 k2:Nat) (d:Cd) (A:Option Addr) (n c:Nat) (ys:List (Option Addr × Nat × Nat × Option Addr × Nat × Nat)):Prop where
 nb:Nb w12 wr rb
 blk:wr.heap[rb]? = some (.cells (rbC a b A1 m1 k1 A2 m2 k2 d (.slice A n c)) 84 (0,0))
 row:kP.R 135 wr w12.heap.size (fun _=>True) (.slice A n c) ys
 len:ys.length=j
theorem results_row_tmp {P:Program} {fn:Func} {p u:Tmp} {ty:TypeId} (h:fn.results = #[.cell p ty,.tmp u]) (tmps:Array Value) (w:World) (g:Nat) (t:TypeId) (cs:Array Value) (fr:Nat × Nat) (d:TypeDesc)
  (hp:tmps.getD p undef=.pointer (some ⟨g,0,none⟩)) (hg:w.heap[g]? = some (.cells cs t fr))
  (hu:P.underlying ty=some d) (hd:(match d with | .struct _ | .array _ _=>true | _=>false)=true) (hi:(P.info? ty).map (·.size)=some cs.size) :
  (results fn tmps).run P w=.ok (.tuple #[.agg cs,tmps.getD u undef]) w:=by
 rw [results_cell_tmp h,hp]
 simp [asAddr,run_loadVar_row w g t ty cs fr d hg hu hd hi,Result.andThen]
theorem info135:(Tryz.prog.info? 135).map (fun i=>(i.zero,i.size,i.bytes))=some (some (.agg #[.slice none 0 0,.slice none 0 0]),2,48):=by kernel_rfl
end Go.Proofs.YtnineoajmgneiaaGreat.Rg
namespace Go.Proofs.YtnineoajmgneiaaGreat.Rg
open Lib (hid)
open Go.RowKit YtnineoajmgneiaaGreatW YtnineoajmgneiaaGreatW.PrintWords YtnineoajmgneiaaGreatW.PrintLast YtnineoajmgneiaaGreatW.PrintMore Fr L Ky Tm Lm It
def verLt (ts:List Tb) (a b:Nat):Bool:=decide ((Ls.tAt ts a).ver<(Ls.tAt ts b).ver)
def staleLt (ts:List Tb) (a b:Nat):Bool:=decide ((Ls.tAt ts b).stale<(Ls.tAt ts a).stale)
theorem verLt_sw (ts:List Tb) (n:Nat):Od.SW n (verLt ts):=
 ⟨fun x _=>by simp [verLt],fun x y z _ _ _ h1 h2=>by simp only [verLt,decide_eq_true_eq] at *; omega,fun x y z _ _ _ h1 h2=>by simp only [verLt,decide_eq_false_iff_not] at *; omega⟩
/-- Tables, in the order that sort.Slice leaves them in. -/
def sorted (lt:Nat→Nat→Bool) (ts:List Tb):List Tb:=(Od.ord ts.length lt).map (Ls.tAt ts)
theorem sorted_len {lt:Nat→Nat→Bool} {ts:List Tb} (hO:Od.SW ts.length lt):(sorted lt ts).length=ts.length:=by
 unfold sorted
 rw [List.length_map,Od.ord_length hO]
theorem sorted_mem {lt:Nat→Nat→Bool} {ts:List Tb} (hO:Od.SW ts.length lt) {t:Tb} (h:t∈sorted lt ts):t∈ts:=by
 obtain ⟨i,hi,rfl⟩:=List.mem_map.1 h
 exact It.tAt_mem (Od.ord_lt hO i hi)
theorem tabs_ord {w:World} {ps:List Nat} {ts:List Tb} {lt:Nat→Nat→Bool} (h:Ls.Tabs w ps ts) (hO:Od.SW ts.length lt):Ls.Tabs w ((Od.ord ps.length lt).map fun i=>ps.getD i 0) (sorted lt ts):=by
 have e:=h.1
 refine ⟨by simp [sorted,e],fun i p t h1 h2=>?_⟩
 rw [e] at h1
 unfold sorted at h2
 rw [List.getElem?_map] at h1 h2
 obtain ⟨j,hj,rfl⟩:=Option.map_eq_some_iff.1 h1
 rw [hj] at h2
 injection h2 with h2
 rw [← h2]
 exact Ls.tabs_at h (by rw [e];exact Od.ord_lt hO j (List.mem_of_getElem? hj))
def SortedBy (w:World) (base:Nat) (v:Value) (ps:List Nat) (lt:Nat→Nat→Bool) (e:Ending) (w':World):Prop:=
 e=.returned (.tuple #[])∧ptrK.R 140 w' base (fun _=>True) v ((Od.ord ps.length lt).map fun i=>ps.getD i 0)∧Kp w w' (fun i=>v.ownBlock=some i)
set_option maxRecDepth 100000 in
set_option maxHeartbeats 4000000 in
theorem heur_calls {w:World} {base cdb c nb:Nat} {A:Option Addr} {sv:Value} {ps:List Nat} {ts:List Tb} (hr:ptrK.R 140 w base (fun _=>True) (.slice A ps.length c) ps) (hn:ps.length≤100000) (hp:0<ps.length) (ht:Ls.Tabs w ps ts) (h12:w.cell? ⟨cdb,12,none⟩=some (.pointer (some ⟨nb,0,none⟩))) :
  Calls Tryz.prog 93 #[sv,.slice A ps.length c,.pointer (some ⟨cdb,0,none⟩)] w (SortedBy w base (.slice A ps.length c) ps (verLt ts)):=by
 have HR:=hid hr
 have HT:=hid ht
 have HN:=hid hn
 have d0:((ps.length:Int) == 0)=false:=beq_eq_false_iff_ne.2 (by omega)
 clear hr ht hn hp
 go_enter Tryz.func93,Tryz.ntmps93
 go_upto_region 1 with (fail)
 obtain ⟨w1,hw1⟩ : ∃ w1,w1=w.alloc (.cells #[.slice A ps.length c] 124):=⟨_,rfl⟩
 rw [← hw1]
 obtain ⟨Bs,hBs⟩ : ∃ b,b=w.heap.size:=⟨_,rfl⟩
 rw [← hBs]
 have hb1:Below w.heap.size w w1:=by rw [hw1];exact below_alloc (Below.refl _ _) _
 have HBX:=hid (show w1.heap[Bs]? = some (.cells #[.slice A ps.length c] 124 (0,0)) by rw [hw1,hBs];exact blk_new w _)
 have HR1:=hid (Kd.R_below HR.out hb1)
 have HT1:=hid (tabs_move (w1:=w1) HT.out (fun b arr t hb _=>hb1.block b (blk_lt hb)))
 have HK1:=hid (Kp.of_below hb1 (fun i=>(Value.slice A ps.length c).ownBlock=some i))
 have hbx:=blk_cell HBX.out 0
 have x12:w1.cell? ⟨cdb,12,none⟩=some (.pointer (some ⟨nb,0,none⟩)):=(hb1.cell (World.block_lt_of_cell? w _ h12)).trans h12
 have K:=hid (Sr.sort_row (v:=.slice A ps.length c) HR1.out (by have:=HN.out;omega) 127 #[ptr Bs] (enters_of Tryz.func127 (by kernel_rfl) rfl) (verLt ts) (verLt_sw ts _) (Ls.lessVer HR1.out (by have:=HN.out;omega) HT1.out HBX.out))
 simp only [ptr] at K
 clear hw1 hBs hb1 h12
 go_wp2_with fail
 refine K.out.mono ?_
 rintro e w2 ⟨rfl,h4,h5⟩
 have HP:=hid (show SortedBy w base (.slice A ps.length c) ps (verLt ts) (.returned (.tuple #[])) w2 from ⟨rfl,h4,HK1.out.trans h5 (fun i hi=>.inl hi)⟩)
 clear h4 h5
 go_wp2_with fail
 go_end0
 exact HP.out
end Go.Proofs.YtnineoajmgneiaaGreat.Rg
namespace Go.Proofs.YtnineoajmgneiaaGreat.Rg
open Go.RowKit YtnineoajmgneiaaGreatW YtnineoajmgneiaaGreatW.PrintWords YtnineoajmgneiaaGreatW.PrintLast YtnineoajmgneiaaGreatW.PrintMore Fr L Ky Tm Lm It
/-- What is chosen: tables of the level, tables of the next one, that one's number, both ranges, and what runs then. -/
structure Ch where
 T:List Tb
 B:List Tb
 k:Nat
 r1:Rg
 r2:Rg
 rg:List (List Rg)
def enter2 (rgs:List (List Rg)) (i k:Nat) (r1 r2:Rg):List (List Rg):=pushR (pushR rgs i r1) k r2
def runOf (run:List Int) (x:Ch):List Int:=(x.T++x.B).foldl (fun r t=>putR r t.num) run
def chMid (rgs:List (List Rg)) (i:Nat) (bs:List Tb):List Tb→Option Ch
 | []=>none
 | t :: us=>if hitR rgs i (rgOf [t]) || hitR rgs (i+1) (nextR (rgOf [t]) (botL bs (rgOf [t]))) then chMid rgs i bs us
  else some ⟨[t],botL bs (rgOf [t]),i+1,rgOf [t],nextR (rgOf [t]) (botL bs (rgOf [t])),enter2 rgs i (i+1) (rgOf [t]) (nextR (rgOf [t]) (botL bs (rgOf [t])))⟩
/-- What is the same of two compactions: all but their tables and ranges, and the next level. -/
def SameX (c d:Cd):Prop:=d.id=c.id∧d.bl=c.bl∧d.tA=c.tA∧d.tn=c.tn∧d.tc=c.tc∧d.fA=c.fA∧d.fn=c.fn∧d.fc=c.fc∧d.lv=c.lv∧d.sc=c.sc∧d.tl=c.tl∧d.sA=c.sA∧d.sn=c.sn∧d.ss=c.ss
def KeepF (w w1:World) (G:Nat→Prop):Prop:=Below 0 w w1∧∀ (b:Nat) (arr:Array Value) (t:Nat),w.heap[b]? = some (.cells arr t (0,0))→t∉[144,126]→¬ G b→w1.heap[b]? = w.heap[b]?
theorem KeepC.toF {w w1:World} {g:Nat} {G:Nat→Prop} (h:KeepC w w1 (some g)) (hG:G g):KeepF w w1 G:=⟨h.1,fun b arr t hb ht hn=>h.2 b arr t hb ht (fun e=>by injection e with e;exact hn (e ▸ hG))⟩
theorem KeepF.mono {w w1:World} {G G2:Nat→Prop} (h:KeepF w w1 G) (hG:∀ b,G b→G2 b):KeepF w w1 G2:=⟨h.1,fun b arr t hb ht hn=>h.2 b arr t hb ht (fun e=>hn (hG b e))⟩
def TryP [Ghost] (w:World) (S:Nat→Prop) (n0 sb ob mb:Nat) (lv cv:Value) (hs:List Hd) (cs:List Nat) (o:Lm.Op) (rgs:List (List Rg)) (run:List Int) (c:Cd) (cdb:Nat) (G:Nat→Prop) (ch:Option Ch) (e:Ending) (w':World):Prop:=
 KeepF w w' G∧match ch with
 | none=>e=.returned (.bool false)∧Cor w' S n0 sb ob mb lv cv hs cs o rgs run
 | some x=>e=.returned (.bool true)∧Cor w' S n0 sb ob mb lv cv hs cs o x.rg (runOf run x)∧∃ (d:Cd) (tops bots:List Nat) (hk:Hd),hs[x.k]? = some hk∧SameX c d∧d.r1=x.r1∧d.r2=x.r2∧w'.heap[cdb]? = some (.cells (cdC d) 129 (0,0))∧CdOk w' n0 d tops bots x.T x.B hk.hp∧OwnF d w.heap.size
theorem TryP.mono [Ghost] {w w':World} {S:Nat→Prop} {n0 sb ob mb cdb:Nat} {lv cv:Value} {hs:List Hd} {cs:List Nat} {o:Lm.Op} {rgs:List (List Rg)} {run:List Int} {c:Cd} {G G2:Nat→Prop} {ch:Option Ch} {e:Ending} (h:TryP w S n0 sb ob mb lv cv hs cs o rgs run c cdb G ch e w') (hG:∀ b,G b→G2 b):TryP w S n0 sb ob mb lv cv hs cs o rgs run c cdb G2 ch e w':=⟨h.1.mono hG,h.2⟩
theorem hit_calls [Ghost] {w:World} {S:Nat→Prop} {n0 sb ob mb i:Nat} {lv cv:Value} {hs:List Hd} {cs:List Nat} {o:Lm.Op} {rgs:List (List Rg)} {run:List Int} {A2 B2:Option Addr} {d:Rg} (h:Cor w S n0 sb ob mb lv cv hs cs o rgs run) (hi:i<cs.length) (hr:RgsOk rgs) (h3:KT w A2 d.lo) (h4:KT w B2 d.hi) (hd:RgOk d) :
  Calls Tryz.prog 96 #[.pointer (some ⟨sb,2,none⟩),.int .i64 (i:Int),.agg (rgC A2 B2 d).toArray] w fun e w'=>e=.returned (.bool (hitR rgs i d))∧Below w.heap.size w w':=by
 obtain ⟨g,cc,e,h1,h2,_⟩:=cor_c h (by omega)
 obtain ⟨vs,hdy⟩:=h.dy
 obtain ⟨A,cap,dd,_,hb,hrow⟩:=dyn_row hdy hi
 subst e
 have ok:=rgAt_ok hr (i:=i) (by rw [hdy.lr];exact hi)
 exact ovl_calls h2 hi (h1 i hi) hb hrow (by have:=ok.1;omega) ok.2 h3 h4 hd
/-! ### the compaction's block is written -/
def wR1 (w:World) (cdb:Nat) (A B:Option Addr) (r:Rg):World:=(((w.setCell ⟨cdb,15,none⟩ (.slice A r.lo.length r.lo.length)).setCell ⟨cdb,16,none⟩ (.slice B r.hi.length r.hi.length)).setCell ⟨cdb,17,none⟩ (.bool r.inf)).setCell ⟨cdb,18,none⟩ (.int .i64 0)
def wR2 (w:World) (cdb:Nat) (A B:Option Addr) (r:Rg):World:=(((w.setCell ⟨cdb,19,none⟩ (.slice A r.lo.length r.lo.length)).setCell ⟨cdb,20,none⟩ (.slice B r.hi.length r.hi.length)).setCell ⟨cdb,21,none⟩ (.bool r.inf)).setCell ⟨cdb,22,none⟩ (.int .i64 0)
theorem wR1_eq (w:World) (cdb:Nat) (A B:Option Addr) (r:Rg):(((w.setCell ⟨cdb,15,none⟩ (.slice A r.lo.length r.lo.length)).setCell ⟨cdb,16,none⟩ (.slice B r.hi.length r.hi.length)).setCell ⟨cdb,17,none⟩ (.bool r.inf)).setCell ⟨cdb,18,none⟩ (.int .i64 0)=wR1 w cdb A B r:=rfl
theorem wR2_eq (w:World) (cdb:Nat) (A B:Option Addr) (r:Rg):(((w.setCell ⟨cdb,19,none⟩ (.slice A r.lo.length r.lo.length)).setCell ⟨cdb,20,none⟩ (.slice B r.hi.length r.hi.length)).setCell ⟨cdb,21,none⟩ (.bool r.inf)).setCell ⟨cdb,22,none⟩ (.int .i64 0)=wR2 w cdb A B r:=rfl
theorem nb_r1 (w:World) (cdb:Nat) (A B:Option Addr) (r:Rg):Nb w (wR1 w cdb A B r) cdb:=((((Nb.refl w cdb).set 15 _).set 16 _).set 17 _).set 18 _
theorem nb_r2 (w:World) (cdb:Nat) (A B:Option Addr) (r:Rg):Nb w (wR2 w cdb A B r) cdb:=((((Nb.refl w cdb).set 19 _).set 20 _).set 21 _).set 22 _
theorem nb_1 (w:World) (cdb j:Nat) (v:Value):Nb w (w.setCell ⟨cdb,j,none⟩ v) cdb:=(Nb.refl w cdb).set j v
theorem row_nb {w w1:World} {cdb base:Nat} {arr:Array Value} {v:Value} {ps:List Nat} (h:ptrK.R 140 w base (fun _=>True) v ps) (hn:Nb w w1 cdb) (hb:w.heap[cdb]? = some (.cells arr 129 (0,0))):ptrK.R 140 w1 base (fun _=>True) v ps:=
 ptr_frame h (fun k _ e=>by
  obtain ⟨cs,hc⟩:=Kd.R_typed h k e
  exact hn.ty hb k _ _ hc (by decide))
theorem kb_nb {w w1:World} {cdb:Nat} {arr:Array Value} {ok:Nat→Prop} {A:Option Addr} {x:List UInt8} (h:KB w ok A x) (hn:Nb w w1 cdb) (hb:w.heap[cdb]? = some (.cells arr 129 (0,0))):KB w1 ok A x:=by
 rcases h with h | ⟨b,e,h1,h2⟩
 ·exact .inl h
 ·exact .inr ⟨b,e,(hn.ty hb b _ _ h1 (by decide)).trans h1,h2⟩
section
variable {w wr:World} {S:Nat→Prop} {n0 sb ob mb:Nat} {lv cv:Value} {hs:List Hd} {cs:List Nat} {o:Lm.Op} {rgs:List (List Rg)} {run:List Int} {cdb:Nat} {c:Cd}
theorem Ph.r1 [Ghost] (h:Ph w wr S n0 sb ob mb lv cv hs cs o rgs run cdb c) (hcd:n0≤cdb) (A B:Option Addr) (r:Rg):Ph w (wR1 wr cdb A B r) S n0 sb ob mb lv cv hs cs o rgs run cdb { c with a1:=A,b1:=B,r1:=r }:=
 (((h.set (c':={ c with a1:=A,r1:=⟨r.lo,c.r1.hi,c.r1.inf⟩ }) hcd 15 (.slice A r.lo.length r.lo.length) rfl).set (c':={ c with a1:=A,b1:=B,r1:=⟨r.lo,r.hi,c.r1.inf⟩ }) hcd 16 (.slice B r.hi.length r.hi.length) rfl).set (c':={ c with a1:=A,b1:=B,r1:=⟨r.lo,r.hi,r.inf⟩ }) hcd 17 (.bool r.inf) rfl).set (c':={ c with a1:=A,b1:=B,r1:=r }) hcd 18 (.int .i64 0) rfl
theorem Ph.r2 [Ghost] (h:Ph w wr S n0 sb ob mb lv cv hs cs o rgs run cdb c) (hcd:n0≤cdb) (A B:Option Addr) (r:Rg):Ph w (wR2 wr cdb A B r) S n0 sb ob mb lv cv hs cs o rgs run cdb { c with a2:=A,b2:=B,r2:=r }:=
 (((h.set (c':={ c with a2:=A,r2:=⟨r.lo,c.r2.hi,c.r2.inf⟩ }) hcd 19 (.slice A r.lo.length r.lo.length) rfl).set (c':={ c with a2:=A,b2:=B,r2:=⟨r.lo,r.hi,c.r2.inf⟩ }) hcd 20 (.slice B r.hi.length r.hi.length) rfl).set (c':={ c with a2:=A,b2:=B,r2:=⟨r.lo,r.hi,r.inf⟩ }) hcd 21 (.bool r.inf) rfl).set (c':={ c with a2:=A,b2:=B,r2:=r }) hcd 22 (.int .i64 0) rfl
end
theorem kb_key {w:World} {ok:Nat→Prop} {A:Option Addr} {x:List UInt8} (h:KB w ok A x) (hx:0<x.length):∃ b,A=some ⟨b,0,none⟩∧w.heap[b]? = some (keyO x)∧ok b:=by
 rcases h with h | h
 ·rw [h.1] at hx;simp at hx
 ·exact h
end Go.Proofs.YtnineoajmgneiaaGreat.Rg
namespace Go.Proofs.YtnineoajmgneiaaGreat.Pt
open Go.RowKit YtnineoajmgneiaaGreatW YtnineoajmgneiaaGreatW.PrintWords Fr L Ky
theorem or_comm2 (k:IntKind) (x y:Int):Go.bits .or k x y=Go.bits .or k y x:=by simp only [Go.bits,BitVec.or_comm]
theorem u16_w {x:Int} (h0:0≤x) (h:x<65536):IntKind.u16.wrap x=x:=by
  have e:IntKind.u16.wrap x=x % 65536:=by simp [IntKind.wrap,IntKind.bits,IntKind.signed]
  rw [e];omega
theorem u64_w {x:Int} (h0:0≤x) (h:x<18446744073709551616):IntKind.u64.wrap x=x:=by
  rw [IntKind.wrap_u64];omega
theorem or16 {a b:Int} (h0:0≤a) (h1:a<256) (h2:0≤b) (h3:b<256):Go.bits .or .u16 a (b*256)=b*256+a:=by
  rw [or_comm2]
  exact bits_join .u16 16 (by decide) (fun n q q2=>u16_w q (by simpa using q2)) 8 _ _ (by omega) (by omega) (by omega) h0 (by omega) (by omega)
theorem or32 {a b:Int} (h0:0≤a) (h1:a<65536) (h2:0≤b) (h3:b<65536):Go.bits .or .u32 a (b*65536)=b*65536+a:=by
  rw [or_comm2]
  exact bits_join .u32 32 (by decide) (fun n q q2=>by have h:n<4294967296:=(by simpa using q2);rw [IntKind.wrap_u32];omega) 16 _ _ (by omega) (by omega) (by omega) h0 (by omega) (by omega)
theorem or64 {a b:Int} (h0:0≤a) (h1:a<4294967296) (h2:0≤b) (h3:b<4294967296):Go.bits .or .u64 a (b*4294967296)=b*4294967296+a:=by
  rw [or_comm2]
  exact bits_join .u64 64 (by decide) (fun n q q2=>u64_w q (by simpa using q2)) 32 _ _ (by omega) (by omega) (by omega) h0 (by omega) (by omega)
theorem be16_f {v:Int} (t:List Int) (h0:0≤v) (h1:v<65536):badgery_beUint16.f (be16 v++t)=some v:=by
  have e0:PrintWords.rd (be16 v++t) 0=v / 256:=rfl
  have e1:PrintWords.rd (be16 v++t) 1=v % 256:=rfl
  have hl:(be16 v++t).length=t.length+2:=by simp [be16]
  unfold badgery_beUint16.f
  rw [if_pos (by omega),if_pos (by omega),e0,e1,u16_w (x:=v % 256) (by omega) (by omega),u16_w (x:=v / 256) (by omega) (by omega),u16_w (x:=v / 256*256) (by omega) (by omega),or16 (by omega) (by omega) (by omega) (by omega)]
  congr 1
  omega
theorem be32_f {v:Int} (t:List Int) (h0:0≤v) (h1:v<4294967296):badgery_beUint32.f (be32 v++t)=some v:=by
  have hl:(be32 v++t).length=t.length+4:=by simp [be32,be16]
  have e1:((be32 v++t).take 4).drop 2=be16 (v % 65536)++[]:=rfl
  have e2:be32 v++t=be16 (v / 65536)++(be16 (v % 65536)++t):=by unfold be32;rw [List.append_assoc]
  unfold badgery_beUint32.f
  rw [if_pos (by omega),if_pos (by omega),e1,be16_f _ (by omega) (by omega),e2,be16_f _ (by omega) (by omega)]
  simp only [Option.bind_some]
  rw [show v % 65536 % 4294967296=v % 65536 by omega,show v / 65536 % 4294967296*65536 % 4294967296=v / 65536*65536 by omega,or32 (by omega) (by omega) (by omega) (by omega)]
  congr 1
  omega
theorem be64_f {v:Int} (h0:0≤v) (h1:v<18446744073709551616):badgery_beUint64.f (be64 v)=some v:=by
  have hl:(be64 v).length=8:=rfl
  have e1:((be64 v).take 8).drop 4=be32 (v % 4294967296)++[]:=rfl
  have e2:be64 v=be32 (v / 4294967296)++be32 (v % 4294967296):=rfl
  unfold badgery_beUint64.f
  rw [if_pos (by omega),if_pos (by omega),e1,be32_f _ (by omega) (by omega),e2,be32_f _ (by omega) (by omega)]
  simp only [Option.bind_some]
  rw [u64_w (x:=v % 4294967296) (by omega) (by omega),u64_w (x:=v / 4294967296) (by omega) (by omega),u64_w (x:=v / 4294967296*4294967296) (by omega) (by omega),or64 (by omega) (by omega) (by omega) (by omega)]
  congr 1
  omega
/-- The version of a key as it is read back. -/
theorem parseTs_f {x:List Int} {ts:Int} (hx:0<x.length) (hn:x.length≤100000000) (h0:0≤ts) (h1:ts≤18446744073709551615):badgery_ParseTs.f (x++be64 (top ts))=some ts:=by
  have hl:(x++be64 (top ts)).length=x.length+8:=by rw [List.length_append,be64_len]
  have e1:wrap64 (((x++be64 (top ts)).length:Int) - 8)=(x.length:Int):=by rw [hl];unfold wrap64;omega
  unfold badgery_ParseTs.f
  rw [if_neg (by omega),e1,if_pos (by omega),if_pos (by omega),Int.toNat_natCast,List.drop_left,be64_f (top_lo h1) (top_hi h0)]
  simp only [Option.bind_some]
  unfold top
  rw [u64_w (by omega) (by omega)]
  congr 1
  omega
end Go.Proofs.YtnineoajmgneiaaGreat.Pt
namespace Go.Proofs.YtnineoajmgneiaaGreat.Pu
open Go.RowKit YtnineoajmgneiaaGreatW YtnineoajmgneiaaGreatW.PrintWords Fr L Ky Tm Pt
/-- Bytes as numbers. -/
def nums (x:List UInt8):List Int:=x.map fun u=>(u.toNat:Int)
theorem nums_len (x:List UInt8):(nums x).length=x.length:=by simp [nums]
theorem key_C {w:World} {b:Nat} {x:List UInt8} (h:w.heap[b]? = some (keyO x)) (hn:x.length≤100000000):Kd.C (Kd.int .u8) w (some ⟨b,0,none⟩) (nums x).length (nums x):=by
 refine Kd.C_of_reads (d:=0) ⟨rfl,by rw [nums_len];omega,fun hp=>⟨_,rfl,fun j hj=>?_⟩⟩
 rw [nums_len] at hj
 rw [add_off,Nat.zero_add,blk_cell h]
 simp [cells,nums,bv,hj]
theorem nums_be {v:Int} (h0:0≤v) (h1:v<18446744073709551616):nums (be64b v)=be64 v:=by
 have hb:∀ n∈be64 v,0≤n∧n<256:=by
  intro n hn
  simp only [be64,be32,be16,List.mem_append,List.mem_cons,List.not_mem_nil,or_false] at hn
  omega
 unfold nums be64b
 rw [List.map_map]
 refine (List.map_congr_left (g:=id) (fun n hn=>?_)).trans (List.map_id _)
 have:=hb n hn
 simp only [Function.comp,id,UInt8.toNat_ofNat']
 omega
end Go.Proofs.YtnineoajmgneiaaGreat.Pu
namespace Go.Proofs.YtnineoajmgneiaaGreat.Rg
open Go.RowKit YtnineoajmgneiaaGreatW YtnineoajmgneiaaGreatW.PrintWords YtnineoajmgneiaaGreatW.PrintLast YtnineoajmgneiaaGreatW.PrintMore Fr L Ky Tm Lm It
/-- A compaction that runs: its level, and what was chosen. -/
structure PD where
 i:Nat
 x:Ch
/-- What runs: the ranges of each level, the tables, the compactions by number. -/
structure PS where
 rgs:List (List Rg)
 run:List Int
 ds:List (Option PD)
def PS.add (st:PS) (i:Nat) (x:Ch):PS:=⟨x.rg,runOf st.run x,st.ds++[some ⟨i,x⟩]⟩
def txt (x:List UInt8):ByteArray:=strOfNums (Pu.nums (uk x))
def pts (x:List UInt8):Int:=wrap64 ((badgery_ParseTs.f (Pu.nums x)).getD 0)
def nms (ts:List Tb):List Int:=ts.map (·.num)
def choC (n:Nat) (x:Ch) (ys:List Int):S46:=
 if x.r1.inf then ⟨true,(n:Int),(x.k:Int),nms x.T,nms x.B,⟨#[]⟩,0,⟨#[]⟩,0,true,ys⟩
 else ⟨true,(n:Int),(x.k:Int),nms x.T,nms x.B,txt x.r1.lo,pts x.r1.lo,txt x.r1.hi,pts x.r1.hi,false,ys⟩
def noC (ok:Bool) (ys:List Int):S46:=⟨ok,0,0,[],[],⟨#[]⟩,0,⟨#[]⟩,0,false,ys⟩
def runs (ls:List (List S68)) (run:List Int):List Int:=(ls.flatten.map (·.f0)).filter fun k=>decide (k∈run)
/-- One step: what runs then, and what is told but for the tables that run. -/
def stepF (F:PS→S42→Option Ch) (D:PS→S42→Option PS) (st:PS) (s:S42):PS × (List Int→S46):=
 if s.f0=0 then match F st s with
  | none=>(st,noC false)
  | some x=>(st.add s.f1.toNat x,choC st.ds.length x)
 else if s.f0=1 then match D st s with
  | none=>(st,noC false)
  | some st'=>(st',noC true)
 else (st,noC false)
theorem step_fill {F:PS→S42→Option Ch} {D:PS→S42→Option PS} {st:PS} {s:S42} (h:s.f0=0):stepF F D st s=match F st s with
  | none=>(st,noC false)
  | some x=>(st.add s.f1.toNat x,choC st.ds.length x):=by unfold stepF;rw [if_pos h]
def runS (F:PS→S42→Option Ch) (D:PS→S42→Option PS) (st0:PS) (ss:List S42):PS:=ss.foldl (fun a s=>(stepF F D a s).1) st0
def runF (F:PS→S42→Option Ch) (D:PS→S42→Option PS) (ls:List (List S68)):PS→List S42→List S46
 | _,[]=>[]
 | st,s :: ss=>(stepF F D st s).2 (runs ls (stepF F D st s).1.run) :: runF F D ls (stepF F D st s).1 ss
section
variable {F:PS→S42→Option Ch} {D:PS→S42→Option PS} {ls:List (List S68)}
theorem runF_snoc (s:S42):∀ (ss:List S42) (st:PS),runF F D ls st (ss++[s])=runF F D ls st ss++[(stepF F D (runS F D st ss) s).2 (runs ls (stepF F D (runS F D st ss) s).1.run)]
 | [],st=>rfl
 | x :: ss,st=>by
  have:=runF_snoc s ss (stepF F D st x).1
  simp only [List.cons_append,runF,this,runS,List.foldl_cons]
theorem runS_snoc (s:S42) (ss:List S42) (st:PS):runS F D st (ss++[s])=(stepF F D (runS F D st ss) s).1:=by
 unfold runS
 rw [List.foldl_append]
 rfl
theorem runF_len:∀ (ss:List S42) (st:PS),(runF F D ls st ss).length=ss.length
 | [],_=>rfl
 | s :: ss,st=>by simp only [runF,List.length_cons,runF_len ss]
end
/-- What is chosen fits the levels and what runs. -/
structure ChOk (xs:List (List Tb)) (st:PS) (x:Ch):Prop where
 tb:∀ t∈x.T++x.B,∃ l∈xs,t∈l
 lt:0<x.T.length∧x.T.length≤10000
 lb:x.B.length≤10000
 r1:x.r1=rI∨x.r1=rgOf x.T
 r2:RgOk x.r2
 k:x.k<xs.length
 lr:x.rg.length=st.rgs.length
 rg:∀ l∈x.rg,∃ l0∈st.rgs,l.length≤l0.length+2∧∀ r∈l,r∈l0∨r=x.r1∨r=x.r2
/-- What runs behind some steps. -/
structure PInv (L n:Nat) (st:PS):Prop where
 lr:st.rgs.length=L
 rg:∀ l∈st.rgs,l.length≤2*n∧∀ r∈l,RgOk r
 ds:st.ds.length≤n
theorem rI_ok:RgOk rI:=.inl ⟨rfl,rfl⟩
theorem PInv.mono {L n m:Nat} {st:PS} (h:PInv L n st) (hm:n≤m):PInv L m st:=⟨h.lr,fun l hl=>⟨by have:=(h.rg l hl).1;omega,(h.rg l hl).2⟩,by have:=h.ds;omega⟩
theorem PInv.add {xs:List (List Tb)} {L n i:Nat} {st:PS} {x:Ch} (h:PInv L n st) (hx:ChOk xs st x) (hk:∀ l∈xs,∀ t∈l,KLen t):PInv L (n+1) (st.add i x):=by
 have o1:RgOk x.r1:=by
  rcases hx.r1 with e | e
  ·rw [e];exact rI_ok
  ·rw [e]
   exact rgOf_ok (fun t ht=>by
    obtain ⟨l,h1,h2⟩:=hx.tb t (List.mem_append_left _ ht)
    exact hk l h1 t h2)
 refine ⟨hx.lr.trans h.lr,fun l hl=>?_,?_⟩
 ·obtain ⟨l0,h0,h1,h2⟩:=hx.rg l hl
  have h3:=h.rg l0 h0
  refine ⟨by omega,fun r hr=>?_⟩
  rcases h2 r hr with e | e | e
  ·exact h3.2 r e
  ·rw [e];exact o1
  ·rw [e];exact hx.r2
 ·have:=h.ds
  simp only [PS.add,List.length_append,List.length_singleton]
  omega
theorem PInv.ok {L n:Nat} {st:PS} (h:PInv L n st) (hn:n≤500000):RgsOk st.rgs:=fun l hl=>⟨by have:=(h.rg l hl).1;omega,(h.rg l hl).2⟩
def st0 (L:Nat):PS:=⟨List.replicate L [],[],[]⟩
theorem inv0 (L:Nat):PInv L 0 (st0 L):=⟨by simp [st0],fun l hl=>by rw [(List.mem_replicate.1 hl).2];exact ⟨by simp,fun r hr=>by cases hr⟩,by simp [st0]⟩
/-! ### the rows of ranges -/
theorem push_len (rgs:List (List Rg)) (i:Nat) (r:Rg):(pushR rgs i r).length=rgs.length:=by simp [pushR]
theorem rgAt_push {rgs:List (List Rg)} {i j:Nat} {r:Rg} (hi:i<rgs.length):rgAt (pushR rgs i r) j=if j=i then rgAt rgs i++[r] else rgAt rgs j:=by
 unfold pushR rgAt
 by_cases e:j=i
 ·subst e
  simp [hi]
 ·rw [if_neg e]
  simp only [List.getD_eq_getElem?_getD,List.getElem?_set_ne (Ne.symm e)]
theorem mem_push {rgs:List (List Rg)} {i:Nat} {r:Rg} {l:List Rg} (hl:l∈pushR rgs i r):∃ l0∈rgs,l.length≤l0.length+1∧∀ q∈l,q∈l0∨q=r:=by
 by_cases hi:i<rgs.length
 ·rcases List.mem_or_eq_of_mem_set hl with h | h
  ·exact ⟨l,h,by omega,fun q hq=>.inl hq⟩
  ·refine ⟨rgAt rgs i,by simp [rgAt,hi],by rw [h];simp,fun q hq=>?_⟩
   rw [h] at hq
   rcases List.mem_append.1 hq with hq | hq
   ·exact .inl hq
   ·exact .inr (List.mem_singleton.1 hq)
 ·unfold pushR at hl
  rw [List.set_eq_of_length_le (by omega)] at hl
  exact ⟨l,hl,by omega,fun q hq=>.inl hq⟩
theorem mem_enter {rgs:List (List Rg)} {i k:Nat} {r1 r2:Rg} {l:List Rg} (hl:l∈enter2 rgs i k r1 r2):∃ l0∈rgs,l.length≤l0.length+2∧∀ q∈l,q∈l0∨q=r1∨q=r2:=by
 obtain ⟨l1,h1,h2,h3⟩:=mem_push hl
 obtain ⟨l0,g1,g2,g3⟩:=mem_push h1
 refine ⟨l0,g1,by omega,fun q hq=>?_⟩
 rcases h3 q hq with e | e
 ·rcases g3 q e with e | e
  ·exact .inl e
  ·exact .inr (.inl e)
 ·exact .inr (.inr e)
theorem enter_len (rgs:List (List Rg)) (i k:Nat) (r1 r2:Rg):(enter2 rgs i k r1 r2).length=rgs.length:=by unfold enter2;rw [push_len,push_len]
/-! ### a level in the middle -/
theorem mid_some {rgs:List (List Rg)} {i:Nat} {bs:List Tb} {x:Ch}:∀ {us:List Tb},chMid rgs i bs us=some x→∃ t∈us,x=⟨[t],botL bs (rgOf [t]),i+1,rgOf [t],nextR (rgOf [t]) (botL bs (rgOf [t])),enter2 rgs i (i+1) (rgOf [t]) (nextR (rgOf [t]) (botL bs (rgOf [t])))⟩∧hitR rgs i (rgOf [t])=false∧hitR rgs (i+1) (nextR (rgOf [t]) (botL bs (rgOf [t])))=false
 | [],h=>by cases h
 | t :: us,h=>by
  unfold chMid at h
  split at h
  ·obtain ⟨t2,h1,h2⟩:=mid_some h
   exact ⟨t2,List.mem_cons_of_mem _ h1,h2⟩
  ·rename_i hh
   injection h with h
   rw [Bool.or_eq_true,not_or] at hh
   exact ⟨t,List.mem_cons_self,h.symm,Bool.eq_false_iff.2 hh.1,Bool.eq_false_iff.2 hh.2⟩
def chMd (xs:List (List Tb)) (rgs:List (List Rg)) (i:Nat):Option Ch:=chMid rgs i (xs.getD (i+1) []) (sorted (verLt (xs.getD i [])) (xs.getD i []))
theorem botL_sub {ts:List Tb} {r:Rg} {t:Tb} (h:t∈botL ts r):t∈ts:=List.mem_of_mem_take (List.mem_of_mem_drop h)
theorem botL_len (ts:List Tb) (r:Rg):(botL ts r).length≤ts.length:=by
 unfold botL
 rw [List.length_drop,List.length_take]
 omega
theorem getD_mem {α:Type} {l:List (List α)} {i:Nat} {x:α} (h:x∈l.getD i []):l.getD i []∈l:=by
 by_cases hi:i<l.length
 ·simp [hi]
 ·rw [List.getD_eq_getElem?_getD,List.getElem?_eq_none (by omega)] at h
  cases h
theorem md_ok {xs:List (List Tb)} {st:PS} {i:Nat} {x:Ch} (h:chMd xs st.rgs i=some x) (hi:i+1<xs.length) (hk:∀ l∈xs,l.length≤10000∧∀ t∈l,KLen t):ChOk xs st x:=by
 obtain ⟨t,ht,rfl,_,_⟩:=mid_some h
 have ht:=sorted_mem (verLt_sw _ _) ht
 have m1:=getD_mem ht
 have m2:xs.getD (i+1) []∈xs:=by simp [hi]
 refine ⟨fun u hu=>?_,⟨by simp,by simp⟩,?_,.inr rfl,?_,hi,enter_len _ _ _ _ _,fun l hl=>mem_enter hl⟩
 ·rcases List.mem_append.1 hu with hu | hu
  ·rw [List.mem_singleton.1 hu]
   exact ⟨_,m1,ht⟩
  ·exact ⟨_,m2,botL_sub hu⟩
 ·exact Nat.le_trans (botL_len _ _) (hk _ m2).1
 ·show RgOk (nextR _ _)
  unfold nextR
  split
  ·exact rgOf_ok (fun u hu=>by rw [List.mem_singleton.1 hu];exact (hk _ m1).2 t ht)
  ·exact rgOf_ok (fun u hu=>(hk _ m2).2 u (botL_sub hu))
end Go.Proofs.YtnineoajmgneiaaGreat.Rg
