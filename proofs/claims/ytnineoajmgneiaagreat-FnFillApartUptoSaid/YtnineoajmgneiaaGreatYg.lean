/- Fill: a compaction is tried, entered by its number, and told. New's levels are a plan in which nothing runs; what RunLevels tells of a range. RunLevels: steps, one behind the other. RunLevels at one step: level 0 is chosen, and nothing runs. levelsWork: the walk. What LevelsOk gives to those who plan: plain. Arguments that are levels of tables, tables, options, read; what they weigh. -/
import Derived.Test.YtnineoajmgneiaaGreatYf
import Derived.Test.YtnineoajmgneiaaGreatYd
import Derived.Test.YtnineoajmgneiaaGreatYe
import Derived.Test.YtnineoajmgneiaaGreatRows
import Derived.WalkKit
import Derived.ProofKit
import Derived.OpenShut
import Derived.JoinedCond
import Derived.Deep.Slices
import Derived.Deep.Fields
import Derived.ChangeSame
set_option linter.unusedSimpArgs false
set_option linter.unusedVariables false
namespace Go.Proofs.YtnineoajmgneiaaGreat.Rg
open Lib (hid)
open List renaming setIfInBounds_toArray → zA,set_cons_zero → zB,set_cons_succ → zC
open Go.RowKit YtnineoajmgneiaaGreatW YtnineoajmgneiaaGreatW.PrintWords YtnineoajmgneiaaGreatW.PrintLast YtnineoajmgneiaaGreatW.PrintMore Fr L Ky Tm Lm It
/-- A compaction that runs, in memory: its block, what lies there, its level, what was chosen. -/
structure Df where
 b:Nat
 c:Cd
 i:Nat
 x:Ch
def Df.pd (d:Df):PD:=⟨d.i,d.x⟩
def OwnB (c:Cd) (q:Nat):Prop:=(Value.slice c.pA c.pn c.pc).ownBlock=some q∨(Value.slice c.qA c.qn c.qc).ownBlock=some q
structure DfOk (w:World) (n0:Nat) (hs:List Hd) (d:Df):Prop where
 blk:w.heap[d.b]? = some (.cells (cdC d.c) 129 (0,0))
 ge:n0≤d.b
 r1:d.c.r1=d.x.r1
 r2:d.c.r2=d.x.r2
 lev:∃ hi hk tops bots,hs[d.i]? = some hi∧hs[d.x.k]? = some hk∧d.c.tl=hi.hp∧CdOk w n0 d.c tops bots d.x.T d.x.B hk.hp
theorem DfOk.move {w w1:World} {n0:Nat} {hs:List Hd} {d:Df} (h:DfOk w n0 hs d) (hk:∀ (b:Nat) (arr:Array Value) (t:Nat),w.heap[b]? = some (.cells arr t (0,0))→t∈[98,5,140,129]→w1.heap[b]? = w.heap[b]?):DfOk w1 n0 hs d:=by
 obtain ⟨hi,hk2,tops,bots,h1,h2,h3,h4⟩:=h.lev
 exact ⟨(hk _ _ _ h.blk (by decide)).trans h.blk,h.ge,h.r1,h.r2,hi,hk2,tops,bots,h1,h2,h3,h4.move (fun b arr t hb ht=>hk b arr t hb (by rcases ht with rfl | rfl | rfl<;>decide))⟩
theorem DfOk.lt {w:World} {n0:Nat} {hs:List Hd} {d:Df} (h:DfOk w n0 hs d) {q:Nat} (hq:OwnB d.c q):q<w.heap.size:=by
 obtain ⟨hi,hk2,tops,bots,h1,h2,h3,h4⟩:=h.lev
 rcases hq with hq | hq
 ·exact Kd.R_lt h4.top q hq
 ·exact Kd.R_lt h4.bot q hq
def Apart (fs:List (Option Df)):Prop:=∀ (j l:Nat) (d f:Df),fs[j]? = some (some d)→fs[l]? = some (some f)→j≠l→d.b≠f.b∧∀ q,OwnB d.c q→¬ OwnB f.c q
/-- The levels, and what runs. -/
structure Sta [Ghost] (w:World) (S:Nat→Prop) (n0 lp sb ob mb:Nat) (lv cv:Value) (hs:List Hd) (cs:List Nat) (o:Lm.Op) (st:PS):Prop where
 cor:Cor w S n0 sb ob mb lv cv hs cs o st.rgs st.run
 nS:¬ S lp
 df:∃ (A:Option Addr) (n c:Nat) (fs:List (Option Df)),w.heap[lp]? = some (.cells #[ptr sb,.slice A n c] 107 (0,0))∧ptrO.R 114 w n0 (fun _=>True) (.slice A n c) (fs.map (Option.map Df.b))∧fs.map (Option.map Df.pd)=st.ds∧(∀ d,some d∈fs→DfOk w n0 hs d)∧Apart fs
def FrS (w w1:World):Prop:=Below 0 w w1∧∀ (b:Nat) (arr:Array Value) (t:Nat),w.heap[b]? = some (.cells arr t (0,0))→t∉[144,126,107,114,140]→w1.heap[b]? = w.heap[b]?
theorem FrS.of {w w1:World} (h:Below w.heap.size w w1):FrS w w1:=⟨h.mono (Nat.zero_le _),fun b arr t hb _=>h.block b (blk_lt hb)⟩
theorem FrS.trans {w w1 w2:World} (h:FrS w w1) (k:FrS w1 w2):FrS w w2:=⟨h.1.trans k.1,fun b arr t hb ht=>(k.2 b arr t ((h.2 b arr t hb ht).trans hb) ht).trans (h.2 b arr t hb ht)⟩
theorem Sta.below [Ghost] {w w1:World} {S:Nat→Prop} {n0 lp sb ob mb:Nat} {lv cv:Value} {hs:List Hd} {cs:List Nat} {o:Lm.Op} {st:PS} (h:Sta w S n0 lp sb ob mb lv cv hs cs o st) (hb:Below w.heap.size w w1):Sta w1 S n0 lp sb ob mb lv cv hs cs o st:=by
 obtain ⟨A,n,c,fs,h1,h2,h3,h4,h5⟩:=h.df
 exact ⟨h.cor.below hb,h.nS,A,n,c,fs,(hb.block _ (blk_lt h1)).trans h1,Kd.R_below h2 hb,h3,fun d hd=>(h4 d hd).move (fun b arr t hb2 _=>hb.block b (blk_lt hb2)),h5⟩
theorem sta_add [Ghost] {w w':World} {S:Nat→Prop} {n0 lp sb ob mb i cdb n c:Nat} {lv cv:Value} {hs:List Hd} {cs:List Nat} {o:Lm.Op} {st:PS} {x:Ch} {c7:Cd} {A:Option Addr} {fs:List (Option Df)} (h3:fs.map (Option.map Df.pd)=st.ds) (h4:∀ d,some d∈fs→DfOk w n0 hs d) (h5:Apart fs)
  (hk:∀ (b:Nat) (arr:Array Value) (t:Nat),w.heap[b]? = some (.cells arr t (0,0))→t∈[98,5,140,129]→w'.heap[b]? = w.heap[b]?) (hc:Cor w' S n0 sb ob mb lv cv hs cs o x.rg (runOf st.run x)) (hS:¬ S lp) (hl:w'.heap[lp]? = some (.cells #[ptr sb,.slice A n c] 107 (0,0))) (hr:ptrO.R 114 w' n0 (fun _=>True) (.slice A n c) (fs.map (Option.map Df.b)++[some cdb])) (hd:DfOk w' n0 hs ⟨cdb,c7,i,x⟩) (hcd:w.heap.size≤cdb) (ho:OwnF c7 w.heap.size) :
  Sta w' S n0 lp sb ob mb lv cv hs cs o (st.add i x):=by
 refine ⟨hc,hS,A,n,c,fs++[some ⟨cdb,c7,i,x⟩],hl,by rw [List.map_append];exact hr,by rw [List.map_append,h3];rfl,fun d hm=>?_,?_⟩
 ·rcases List.mem_append.1 hm with hm | hm
  ·exact (h4 d hm).move hk
  ·have e:=List.mem_singleton.1 hm
   injection e with e
   rw [e]
   exact hd
 ·have old:∀ j d,(fs++[some ⟨cdb,c7,i,x⟩])[j]? = some (some d)→(j<fs.length∧fs[j]? = some (some d))∨(j=fs.length∧d=⟨cdb,c7,i,x⟩):=fun j d hj=>by
   by_cases hl:j<fs.length
   ·rw [List.getElem?_append_left hl] at hj
    exact .inl ⟨hl,hj⟩
   ·rw [List.getElem?_append_right (by omega)] at hj
    by_cases e:j=fs.length
    ·subst e
     rw [Nat.sub_self] at hj
     injection hj with hj
     injection hj with hj
     exact .inr ⟨rfl,hj.symm⟩
    ·rw [List.getElem?_eq_none (by simp;omega)] at hj
     cases hj
  intro j l d f hj hl hne
  rcases old j d hj with ⟨j1,j2⟩ | ⟨rfl,rfl⟩
  ·rcases old l f hl with ⟨l1,l2⟩ | ⟨rfl,rfl⟩
   ·exact h5 j l d f j2 l2 hne
   ·have hd2:=h4 d (List.mem_of_getElem? j2)
    refine ⟨fun e=>?_,fun q h1 h2=>?_⟩
    ·have e:d.b=cdb:=e
     have:=blk_lt hd2.blk
     omega
    ·have:=hd2.lt h1
     have:=ho q h2
     omega
  ·rcases old l f hl with ⟨l1,l2⟩ | ⟨rfl,rfl⟩
   ·have hd2:=h4 f (List.mem_of_getElem? l2)
    refine ⟨fun e=>?_,fun q h1 h2=>?_⟩
    ·have e:cdb=f.b:=e
     have:=blk_lt hd2.blk
     omega
    ·have:=hd2.lt h2
     have:=ho q h1
     omega
   ·exact absurd rfl hne
theorem Sta.keep [Ghost] {w w1:World} {S:Nat→Prop} {n0 lp sb ob mb:Nat} {lv cv:Value} {hs:List Hd} {cs:List Nat} {o:Lm.Op} {st:PS} (h:Sta w S n0 lp sb ob mb lv cv hs cs o st) (hc:Cor w1 S n0 sb ob mb lv cv hs cs o st.rgs st.run) (hk:∀ (b:Nat) (arr:Array Value) (t:Nat),w.heap[b]? = some (.cells arr t (0,0))→t∈[98,5,140,129,107,114]→w1.heap[b]? = w.heap[b]?):Sta w1 S n0 lp sb ob mb lv cv hs cs o st:=by
 obtain ⟨A,n,c,fs,h1,h2,h3,h4,h5⟩:=h.df
 exact ⟨hc,h.nS,A,n,c,fs,(hk _ _ _ h1 (by decide)).trans h1,R_stay h2 rfl (fun k _ e=>by
  obtain ⟨cs,hc⟩:=Kd.R_typed h2 k e
  exact hk k _ _ hc (by decide)),h3,fun d hd=>(h4 d hd).move (fun b arr t hb ht=>hk b arr t hb (by simp only [List.mem_cons,List.not_mem_nil,or_false] at ht ⊢; rcases ht with e | e | e | e<;>simp [e])),h5⟩
/-- A compaction as Fill lays it. -/
def cd0 (comp bl:Int) (L:Nat) (tA:Option Addr) (tc:Nat) (fA:Option Addr) (fc i sc tl:Nat) (nl:Option Addr):Cd:=⟨comp,bl,tA,L,tc,fA,L,fc,(i:Int),sc,tl,nl,none,0,0,none,0,0,none,none,rE,none,none,rE,none,0,0,0⟩
def nxt (L n i:Nat):Nat:=if i=0 then n else if i+1=L then i else i+1
/-- What is asked of the trying. -/
def TryC [Ghost] (S:Nat→Prop) (n0 sb ob mb:Nat) (lv cv:Value) (hs:List Hd) (cs:List Nat) (o:Lm.Op) (rgs:List (List Rg)) (run:List Int) (comp:Int) (n i sc:Nat) (hI:Hd) (ch:Option Ch):Prop:=
 ∀ (w:World) (N cdb tc fc:Nat) (tA fA:Option Addr) (nx:Hd),hs[nxt hs.length n i]? = some nx→Cor w S n0 sb ob mb lv cv hs cs o rgs run→w.heap[cdb]? = some (.cells (cdC (cd0 comp (n:Int) hs.length tA tc fA fc i sc hI.hp (some ⟨nx.hp,0,none⟩))) 129 (0,0))→n0≤cdb→N≤cdb→Kd.C (Kd.int .i64) w fA hs.length (Tg.files o (hs.map fun x=>total x.ts)) →
  Calls Tryz.prog (if i=0 then 72 else 74) #[.pointer (some ⟨sb,0,none⟩),.pointer (some ⟨cdb,0,none⟩)] w (TryP w S n0 sb ob mb lv cv hs cs o rgs run (cd0 comp (n:Int) hs.length tA tc fA fc i sc hI.hp (some ⟨nx.hp,0,none⟩)) cdb (fun b=>N≤b) ch)
def z84:Array Value:=#[.int .i64 0,.int .i64 0,.slice none 0 0,.slice none 0 0,.slice none 0 0,.slice none 0 0,.slice none 0 0,.slice none 0 0,.bool false,.slice none 0 0]
/-- What Fill leaves and hands back. -/
def FillG [Ghost] (w:World) (S:Nat→Prop) (n0 lp sb ob mb:Nat) (lv cv:Value) (hs:List Hd) (cs:List Nat) (o:Lm.Op) (st:PS) (i:Nat) (ch:Option Ch) (e:Ending) (w':World):Prop:=
 FrS w w'∧match ch with
 | none=>e=.returned (.tuple #[.agg z84,.bool false])∧Sta w' S n0 lp sb ob mb lv cv hs cs o st
 | some x=>∃ (v1 v2 v3:Value) (a1 b1 a2 b2:Option Addr),e=.returned (.tuple #[.agg #[.int .i64 (st.ds.length:Int),.int .i64 (x.k:Int),v1,v2,.slice a1 x.r1.lo.length x.r1.lo.length,.slice b1 x.r1.hi.length x.r1.hi.length,.slice a2 x.r2.lo.length x.r2.lo.length,.slice b2 x.r2.hi.length x.r2.hi.length,.bool x.r1.inf,v3],.bool true]) ∧
  Kd.R (Kd.int .u64) 88 w' w.heap.size (fun _=>True) v1 (nms x.T)∧Kd.R (Kd.int .u64) 88 w' w.heap.size (fun _=>True) v2 (nms x.B)∧(∃ A n c,v3=.slice A n c)∧KT w' a1 x.r1.lo∧KT w' b1 x.r1.hi∧Sta w' S n0 lp sb ob mb lv cv hs cs o (st.add i x)
/-- Behind the trying. -/
def CutP [Ghost] (w:World) (S:Nat→Prop) (n0 sb ob mb:Nat) (lv cv:Value) (hs:List Hd) (cs:List Nat) (o:Lm.Op) (rgs:List (List Rg)) (run:List Int) (rb cdb:Nat) (hI:Hd) (ch:Option Ch) (wc:World):Prop:=
 KeepC w wc none∧wc.heap[rb]? = some (.cells z84 84 (0,0))∧match ch with
 | none=>Cor wc S n0 sb ob mb lv cv hs cs o rgs run
 | some x=>Cor wc S n0 sb ob mb lv cv hs cs o x.rg (runOf run x)∧∃ (d:Cd) (tops bots:List Nat) (hk:Hd),hs[x.k]? = some hk∧(d.tl=hI.hp∧d.sA=none∧d.sn=0∧d.ss=0)∧d.r1=x.r1∧d.r2=x.r2∧wc.heap[cdb]? = some (.cells (cdC d) 129 (0,0))∧CdOk wc n0 d tops bots x.T x.B hk.hp∧OwnF d w.heap.size
theorem cutP_of [Ghost] {w w5 w6:World} {S:Nat→Prop} {n0 sb ob mb rb cdb:Nat} {lv cv:Value} {hs:List Hd} {cs:List Nat} {o:Lm.Op} {rgs:List (List Rg)} {run:List Int} {hI:Hd} {ch:Option Ch} {c:Cd} {e:Ending} (P:Ph w w5 S n0 sb ob mb lv cv hs cs o rgs run cdb c) (hcd:w.heap.size≤cdb) (hrb:w5.heap[rb]? = some (.cells z84 84 (0,0))) (hN:∀ b,cdb≤b→b≠rb) (htl:c.tl=hI.hp∧c.sA=none∧c.sn=0∧c.ss=0)
  (h:TryP w5 S n0 sb ob mb lv cv hs cs o rgs run c cdb (fun b=>cdb≤b) ch e w6):e=.returned (.bool ch.isSome)∧CutP w S n0 sb ob mb lv cv hs cs o rgs run rb cdb hI ch w6:=by
 obtain ⟨hk,h⟩:=h
 have hkc:KeepC w w6 none:=⟨P.bel.trans hk.1,fun b arr t hb ht _=>by
  have e1:=P.far b (blk_lt hb) (fun e=>by have:=blk_lt hb;omega)
  exact (hk.2 b arr t (e1.trans hb) ht (fun e=>by have:=blk_lt hb;omega)).trans e1⟩
 have hr:w6.heap[rb]? = some (.cells z84 84 (0,0)):=(hk.2 rb _ _ hrb (by decide) (fun e=>hN rb e rfl)).trans hrb
 cases ch with
 | none=>exact ⟨h.1,hkc,hr,h.2⟩
 | some x =>
  obtain ⟨he,hc,d,tops,bots,hk2,g1,g2,g3,g4,g5,g6,g7⟩:=h
  obtain ⟨_,_,_,_,_,_,_,_,_,_,s11,s12,s13,s14⟩:=g2
  exact ⟨he,hkc,hr,hc,d,tops,bots,hk2,g1,⟨s11.trans htl.1,s12.trans htl.2.1,s13.trans htl.2.2.1,s14.trans htl.2.2.2⟩,g3,g4,g5,g6,fun q hq=>Nat.le_trans P.bel.size (g7 q hq)⟩
/-- Behind the splits. -/
structure SplP (w wc:World) (cdb:Nat) (d c7:Cd) (xs:List Sp) (w7:World):Prop where
 sm:SameS d c7
 blk:w7.heap[cdb]? = some (.cells (cdC c7) 129 (0,0))
 row:kS.R 126 w7 w.heap.size (fun _=>True) (.slice c7.sA c7.sn c7.ss) xs
 len:xs.length≤20000
 nb:Nb wc w7 cdb
theorem c_far {w:World} {A q:Option Addr} {L g j:Nat} {xs:List Int} {u:Value} (h:Kd.C (Kd.int .i64) w A L xs) (hb:w.cell? ⟨g,j,none⟩=some (.pointer q)):Kd.C (Kd.int .i64) (w.setCell ⟨g,j,none⟩ u) A L xs:=by
 have h:=Kd.reads_of_C (enc:=Value.int .i64) (h1:=fun _=>rfl) (d:=0) h
 refine Kd.C_of_reads (enc:=Value.int .i64) (h1:=fun _=>rfl) (d:=0) ⟨h.1,h.2.1,fun hp=>?_⟩
 obtain ⟨ad,e,hc⟩:=h.2.2 hp
 exact ⟨ad,e,fun k hk=>cell_same (hc k hk) (fun e=>by
  have:=hc k hk
  rw [e,hb] at this
  injection this with this
  cases this)⟩
theorem c_drew {w:World} {A:Option Addr} {L q:Nat} {xs:List Int} (h:Kd.C (Kd.int .i64) w A L xs):Kd.C (Kd.int .i64) (w.drewN q) A L xs:=Kd.C_below h (pw_below_drewN (Below.refl _ _) q)
theorem sameS_refl (d:Cd):SameS d d:=⟨rfl,rfl,rfl,rfl,rfl,rfl,rfl,rfl,rfl,rfl,rfl,rfl,rfl,rfl,rfl,rfl,rfl,rfl,rfl,rfl,rfl,rfl,rfl,rfl,rfl⟩
set_option maxRecDepth 100000 in
set_option maxHeartbeats 4000000 in
theorem fill_calls [Ghost] {w:World} {S:Nat→Prop} {n0 lp sb ob mb n i sc:Nat} {comp:Int} {lv cv:Value} {hs:List Hd} {cs:List Nat} {o:Lm.Op} {st:PS} {hI:Hd} {ch:Option Ch}
  (h:Sta w S n0 lp sb ob mb lv cv hs cs o st) (hdl:st.ds.length≤1000000) (ei:hs[i]? = some hI) (hn1:1≤n) (hnl:n<hs.length) (hbl:Tg.bl4 o (hs.map fun x=>total x.ts)=(n:Int)) (hmul:2≤o.mult) (hbase:0≤o.base) (hmax:o.max=(hs.length:Int)) (h2:2≤hs.length) (h100:hs.length≤100) (hz:∀ i,0≤(hs.map fun x=>total x.ts).getD i 0∧(hs.map fun x=>total x.ts).getD i 0≤1000000000000000)
  (hsz:∀ x∈hs,x.ts.length≤10000∧∀ t∈x.ts,KLen t) (hlen:hs.length=cs.length) (hok:∀ x,ch=some x→ChOk (hs.map (·.ts)) st x) (hiv:∀ x,ch=some x→x.k≠i→IvR x.r1∧IvR x.r2) (HT:TryC S n0 sb ob mb lv cv hs cs o st.rgs st.run comp n i sc hI ch) :
  Calls Tryz.prog 62 #[.pointer (some ⟨lp,0,none⟩),.int .i64 (i:Int),.int .i64 comp,.float .f64 sc,.slice none 0 0] w (FillG w S n0 lp sb ob mb lv cv hs cs o st i ch):=by
 obtain ⟨Q,hQ⟩ : ∃ Q,Q=FillG w S n0 lp sb ob mb lv cv hs cs o st i ch:=⟨_,rfl⟩
 rw [← hQ]
 have HQ:=hid hQ
 have HST:=hid h
 obtain ⟨dA,dn,dc,fs,hlp,hd,hfs,hdf,hap⟩:=h.df
 obtain ⟨ds,hds⟩ : ∃ ds,ds=fs.map (Option.map Df.b):=⟨_,rfl⟩
 rw [← hds] at hd
 have H0:=hid h.cor
 have HLP:=hid hlp
 have HLS:=hid h.nS
 have HD:=hid hd
 have HFS:=hid (And.intro hfs (And.intro hdf hap))
 have HDL:=hid (show ds.length=st.ds.length∧st.ds.length≤1000000 from ⟨by rw [hds,← hfs,List.length_map,List.length_map],hdl⟩)
 have HDS:=hid hds
 have HEI:=hid ei
 have hil:=(List.getElem?_eq_some_iff.1 ei).1
 have HN1:=hid (And.intro hn1 hnl)
 have HBL:=hid hbl
 have HLEN:=hid (show 2≤hs.length∧hs.length≤100∧hs.length=cs.length from ⟨h2,h100,hlen⟩)
 have HOP:=hid (show 2≤o.mult∧0≤o.base from ⟨hmul,hbase⟩)
 have HMX:=hid hmax
 have HZZ:=hid hz
 have HSZ:=hid hsz
 have HOK:=hid hok
 have HIVR:=hid hiv
 have HTC:=hid HT
 clear hQ hds h hlp hd hfs hdf hap hdl ei hn1 hnl hbl h2 h100 hlen hmul hbase hz hsz hok hiv hmax HT
 go_enter Tryz.func62,Tryz.ntmps62
 go_upto_region 1 with (fail)
 obtain ⟨w1,hw1⟩ : ∃ w1,w1=w.alloc (.cells z84 84):=⟨_,rfl⟩
 have hw1':=hw1
 simp only [z84] at hw1'
 rw [← hw1']
 obtain ⟨rb,hrb⟩ : ∃ b,b=w.heap.size:=⟨_,rfl⟩
 rw [← hrb]
 have HB1:=hid (show Below w.heap.size w w1 by rw [hw1];exact below_alloc (Below.refl _ _) _)
 have HX1:=hid (show w1.heap[rb]? = some (.cells z84 84 (0,0)) by rw [hw1,hrb];exact blk_new w _)
 have HRB:=hid hrb
 clear hw1 hrb hw1'
 have H1:=hid (H0.out.below HB1.out)
 obtain ⟨bl,cl,elv,hcell,hlv⟩:=lv_of_cor H1.out (by have:=HLEN.out;omega)
 subst elv
 have K70:=hid (Tg.levelTargets_calls hlv (by rw [List.length_map];exact HLEN.out.1) (by rw [List.length_map];exact HLEN.out.2.1) HZZ.out HOP.out.1 HOP.out.2)
 have l0:w1.cell? ⟨lp,0,none⟩=some (.pointer (some ⟨sb,0,none⟩)):=blk_cell ((HB1.out.block _ (blk_lt HLP.out)).trans HLP.out) 0
 clear hcell hlv
 go_wp2_with fail
 refine K70.out.mono ?_
 rintro e w2 ⟨tA,tc,fA,fc,rfl,ht1,ht2,ht3,ht4,hb2⟩
 rw [HBL.out,List.length_map]
 rw [List.length_map] at ht2 ht3 ht4
 have HB2:=hid (below_step HB1.out hb2)
 have HX2:=hid ((hb2.block _ (blk_lt HX1.out)).trans HX1.out)
 have HFL2:=hid ht2
 clear ht1 ht2 ht3 ht4 hb2 K70 l0 H1 HB1 HX1
 go_upto_region 3 with (fail)
 obtain ⟨w3,hw3⟩ : ∃ w3,w3=w2.alloc (.cells #[.int .i64 (n:Int),.slice tA hs.length tc,.slice fA hs.length fc] 103):=⟨_,rfl⟩
 rw [← hw3]
 obtain ⟨tb,htb⟩ : ∃ b,b=w2.heap.size:=⟨_,rfl⟩
 rw [← htb]
 have hb3:Below w2.heap.size w2 w3:=by rw [hw3];exact below_alloc (Below.refl _ _) _
 have HT3:=hid (show w3.heap[tb]? = some (.cells #[.int .i64 (n:Int),.slice tA hs.length tc,.slice fA hs.length fc] 103 (0,0)) by rw [hw3,htb];exact blk_new w2 _)
 have HB3:=hid (below_step HB2.out hb3)
 have HX3:=hid ((hb3.block _ (blk_lt HX2.out)).trans HX2.out)
 have HFL3:=hid (Kd.C_below HFL2.out hb3)
 clear hw3 htb hb3 HB2 HX2 HFL2
 have H3:=hid (H0.out.below HB3.out)
 obtain ⟨bl3,cl3,elv,hcell,_⟩:=lv_of_cor H3.out (by have:=HLEN.out;omega)
 injection elv with e1 e2 e3
 injection e1 with e1
 injection e1 with e1 _ _
 subst e1
 have HCE:=hid hcell
 have hii:(i:Int)<(hs.length:Int):=by omega
 have hnl:n<hs.length:=HN1.out.2
 have u0:w3.cell? ⟨tb,0,none⟩=some (.int .i64 (n:Int)):=blk_cell HT3.out 0
 have u1:w3.cell? ⟨tb,1,none⟩=some (.slice tA hs.length tc):=blk_cell HT3.out 1
 have u2:w3.cell? ⟨tb,2,none⟩=some (.slice fA hs.length fc):=blk_cell HT3.out 2
 have u3:w3.cell? ⟨sb,0,none⟩=some (.slice (some ⟨bl,0,none⟩) hs.length cl):=blk_cell H3.out.st.ctl.2 0
 have u4:w3.cell? ⟨bl,i,none⟩=some (.pointer (some ⟨hI.hp,0,none⟩)):=hcell i hI HEI.out
 clear hcell e2 e3
 refine start_ (n:=19) (S:=fun w'=>w'.cell? ⟨tb,0,none⟩=some (.int .i64 (n:Int))∧w'.cell? ⟨tb,1,none⟩=some (.slice tA hs.length tc)∧w'.cell? ⟨tb,2,none⟩=some (.slice fA hs.length fc)∧w'.cell? ⟨sb,0,none⟩=some (.slice (some ⟨bl,0,none⟩) hs.length cl)∧w'.cell? ⟨bl,i,none⟩=some (.pointer (some ⟨hI.hp,0,none⟩))) (ds:=[]) #[false,false,false,false,false,false,false,false,false,false,false,false,false,false,false,false,false,false,false] (by kernel_rfl) rfl rfl ⟨u0,u1,u2,u3,u4⟩ (fun hHeld=>?_)
 refine pure_ (i:=0) (N:=some 23) (v:=?_) (a':=?_) #[true,false,false,false,false,false,false,false,false,false,false,false,false,false,false,false,false,false,false] rfl rfl (by kernel_rfl) (fun _ _ _ h=>h) (Or.inl ⟨by rfl,?_⟩) ?_ ?_
 rotate_left
 ·intro w'
  go_simp
  with_reducible rfl
 rotate_left
 ·simp only [Act.put,zA,zB,zC,i64_w,i32_w]
  rfl
 refine pure_ (i:=1) (N:=some 24) (v:=?_) (a':=?_) #[true,true,false,false,false,false,false,false,false,false,false,false,false,false,false,false,false,false,false] rfl rfl (by kernel_rfl) (fun _ _ _ h=>h) (Or.inl ⟨by rfl,?_⟩) ?_ ?_
 rotate_left
 ·intro w'
  go_simp
  with_reducible rfl
 rotate_left
 ·simp only [Act.put,zA,zB,zC,i64_w,i32_w]
  rfl
 refine pure_ (i:=2) (N:=some 25) (v:=?_) (a':=?_) #[true,true,true,false,false,false,false,false,false,false,false,false,false,false,false,false,false,false,false] rfl rfl (by kernel_rfl) (fun _ _ _ h=>h) (Or.inl ⟨by rfl,?_⟩) ?_ ?_
 rotate_left
 ·intro w'
  go_simp
  with_reducible rfl
 rotate_left
 ·simp only [Act.put,zA,zB,zC,i64_w,i32_w]
  rfl
 refine pure_ (i:=3) (N:=some 26) (v:=?_) (a':=?_) #[true,true,true,true,false,false,false,false,false,false,false,false,false,false,false,false,false,false,false] rfl rfl (by kernel_rfl) (fun _ _ _ h=>h) (Or.inl ⟨by rfl,?_⟩) ?_ ?_
 rotate_left
 ·intro w'
  go_simp
  with_reducible rfl
 rotate_left
 ·simp only [Act.put,zA,zB,zC,i64_w,i32_w]
  rfl
 refine pure_ (i:=4) (N:=some 27) (v:=?_) (a':=?_) #[true,true,true,true,true,false,false,false,false,false,false,false,false,false,false,false,false,false,false] rfl rfl (by kernel_rfl) (fun _ _ _ h=>h) (Or.inl ⟨by rfl,?_⟩) ?_ ?_
 rotate_left
 ·intro w'
  go_simp
  with_reducible rfl
 rotate_left
 ·simp only [Act.put,zA,zB,zC,i64_w,i32_w]
  rfl
 refine pure_ (i:=8) (N:=some 31) (v:=?_) (a':=?_) #[true,true,true,true,true,false,false,false,true,false,false,false,false,false,false,false,false,false,false] rfl rfl (by kernel_rfl) (fun _ _ _ h=>h) (Or.inl ⟨by rfl,?_⟩) ?_ ?_
 rotate_left
 ·intro w'
  go_simp
  with_reducible rfl
 rotate_left
 ·simp only [Act.put,zA,zB,zC,i64_w,i32_w]
  rfl
 refine pure_ (i:=9) (N:=some 32) (v:=?_) (a':=?_) #[true,true,true,true,true,false,false,false,true,true,false,false,false,false,false,false,false,false,false] rfl rfl (by kernel_rfl) (fun _ _ _ h=>h) (Or.inl ⟨by rfl,?_⟩) ?_ ?_
 rotate_left
 ·intro w'
  go_simp
  with_reducible rfl
 rotate_left
 ·simp only [Act.put,zA,zB,zC,i64_w,i32_w]
  rfl
 refine pure_ (i:=10) (N:=some 33) (v:=?_) (a':=?_) #[true,true,true,true,true,false,false,false,true,true,true,false,false,false,false,false,false,false,false] rfl rfl (by kernel_rfl) (fun _ _ _ h=>h) (Or.inl ⟨by rfl,?_⟩) ?_ ?_
 rotate_left
 ·intro w'
  go_simp
  with_reducible rfl
 rotate_left
 ·simp only [Act.put,zA,zB,zC,i64_w,i32_w]
  rfl
 refine pure_ (i:=12) (N:=some 35) (v:=?_) (a':=?_) #[true,true,true,true,true,false,false,false,true,true,true,false,true,false,false,false,false,false,false] rfl rfl (by kernel_rfl) (fun _ _ _ h=>h) (Or.inl ⟨by rfl,?_⟩) ?_ ?_
 rotate_left
 ·intro w'
  go_simp
  with_reducible rfl
 rotate_left
 ·simp only [Act.put,zA,zB,zC,i64_w,i32_w]
  rfl
 refine pure_ (i:=15) (N:=some 38) (v:=?_) (a':=?_) #[true,true,true,true,true,false,false,false,true,true,true,false,true,false,false,true,false,false,false] rfl rfl (by kernel_rfl) (fun _ _ _ h=>h) (Or.inl ⟨by rfl,?_⟩) ?_ ?_
 rotate_left
 ·intro w'
  go_simp
  with_reducible rfl
 rotate_left
 ·simp only [Act.put,zA,zB,zC,i64_w,i32_w]
  rfl
 refine take_ (i:=5) (N:=some 28) (v:=?_) (a':=?_) #[true,true,true,true,true,true,false,false,true,true,true,false,true,false,false,true,false,false,false] rfl rfl (by kernel_rfl) (fun _ _ _ h=>h) (Or.inl ⟨by rfl,?_⟩) hHeld ?_ ?_
 rotate_left
 ·rintro w' ⟨s0,s1,s2,s3,s4⟩
  go_simp
  with_reducible rfl
 rotate_left
 ·simp only [Act.put,zA,zB,zC,i64_w,i32_w]
  rfl
 refine pure_ (i:=6) (N:=some 29) (v:=?_) (a':=?_) #[true,true,true,true,true,true,true,false,true,true,true,false,true,false,false,true,false,false,false] rfl rfl (by kernel_rfl) (fun _ _ _ h=>h) (Or.inl ⟨by rfl,?_⟩) ?_ ?_
 rotate_left
 ·intro w'
  go_simp
  with_reducible rfl
 rotate_left
 ·simp only [Act.put,zA,zB,zC,i64_w,i32_w]
  rfl
 refine take_ (i:=7) (N:=some 30) (v:=?_) (a':=?_) #[true,true,true,true,true,true,true,true,true,true,true,false,true,false,false,true,false,false,false] rfl rfl (by kernel_rfl) (fun _ _ _ h=>h) (Or.inl ⟨by rfl,?_⟩) hHeld ?_ ?_
 rotate_left
 ·rintro w' ⟨s0,s1,s2,s3,s4⟩
  go_simp
  with_reducible rfl
 rotate_left
 ·simp only [Act.put,zA,zB,zC,i64_w,i32_w]
  rfl
 refine take_ (i:=11) (N:=some 34) (v:=?_) (a':=?_) #[true,true,true,true,true,true,true,true,true,true,true,true,true,false,false,true,false,false,false] rfl rfl (by kernel_rfl) (fun _ _ _ h=>h) (Or.inl ⟨by rfl,?_⟩) hHeld ?_ ?_
 rotate_left
 ·rintro w' ⟨s0,s1,s2,s3,s4⟩
  go_simp
  with_reducible rfl
 rotate_left
 ·simp only [Act.put,zA,zB,zC,i64_w,i32_w]
  rfl
 refine pure_ (i:=13) (N:=some 36) (v:=?_) (a':=?_) #[true,true,true,true,true,true,true,true,true,true,true,true,true,true,false,true,false,false,false] rfl rfl (by kernel_rfl) (fun _ _ _ h=>h) (Or.inl ⟨by rfl,?_⟩) ?_ ?_
 rotate_left
 ·intro w'
  go_simp
  with_reducible rfl
 rotate_left
 ·simp only [Act.put,zA,zB,zC,i64_w,i32_w]
  rfl
 refine take_ (i:=14) (N:=some 37) (v:=?_) (a':=?_) #[true,true,true,true,true,true,true,true,true,true,true,true,true,true,true,true,false,false,false] rfl rfl (by kernel_rfl) (fun _ _ _ h=>h) (Or.inl ⟨by rfl,?_⟩) hHeld ?_ ?_
 rotate_left
 ·rintro w' ⟨s0,s1,s2,s3,s4⟩
  go_simp
  with_reducible rfl
 rotate_left
 ·simp only [Act.put,zA,zB,zC,i64_w,i32_w]
  rfl
 refine pure_ (i:=16) (N:=some 39) (v:=?_) (a':=?_) #[true,true,true,true,true,true,true,true,true,true,true,true,true,true,true,true,true,false,false] rfl rfl (by kernel_rfl) (fun _ _ _ h=>h) (Or.inl ⟨by rfl,?_⟩) ?_ ?_
 rotate_left
 ·intro w'
  go_simp
  with_reducible rfl
 rotate_left
 ·simp only [Act.put,zA,zB,zC,i64_w,i32_w]
  rfl
 refine one_ (i:=17) (N:=some 40) #[true,true,true,true,true,true,true,true,true,true,true,true,true,true,true,true,true,true,false] rfl rfl (by kernel_rfl) (by decide) (fun K hK=>?_)
 refine value_ (w1:=?_) (v:=?_) (by rfl) rfl ?_ ?_
 rotate_left 2
 ·go_simp
  constructor
  ·rfl
  ·rfl
 refine hK.out _ _ ⟨cell_up (w:=w3.drew) u0 _,cell_up (w:=w3.drew) u1 _,cell_up (w:=w3.drew) u2 _,cell_up (w:=w3.drew) u3 _,cell_up (w:=w3.drew) u4 _⟩ (fun hHeld=>?_)
 clear hK K
 refine norm_ (a':=?_) ?_ ?_
 rotate_left
 ·show Act.put _ (some 40) _=_
  simp only [Act.put,zA,zB,zC,i64_w,i32_w]
  rfl
 refine pure_ (i:=18) (N:=some 14) (v:=?_) (a':=?_) #[true,true,true,true,true,true,true,true,true,true,true,true,true,true,true,true,true,true,true] rfl rfl (by kernel_rfl) (fun _ _ _ h=>h) (Or.inl ⟨by rfl,?_⟩) ?_ ?_
 rotate_left
 ·intro w'
  go_simp
  with_reducible rfl
 rotate_left
 ·simp only [Act.put,zA,zB,zC,i64_w,i32_w]
  rfl
 refine done_ (by kernel_rfl) ?_
 clear hHeld u0 u1 u2 u3 u4
 obtain ⟨w4,hw4⟩ : ∃ w4,w4=(w3.alloc (.cells (cdC (cd0 comp (n:Int) hs.length tA tc fA fc i sc hI.hp none)) 129)).drew:=⟨_,rfl⟩
 have hw5:=hw4
 simp only [cdC,cd0,rE,List.length_nil] at hw5
 rw [← hw5]
 clear hw5
 obtain ⟨cdb,hcdb⟩ : ∃ b,b=w3.heap.size:=⟨_,rfl⟩
 rw [← hcdb]
 have hb4:Below w3.heap.size w3 w4:=by rw [hw4];exact below_drew (below_alloc (Below.refl _ _) _)
 have HC4:=hid (show w4.heap[cdb]? = some (.cells (cdC (cd0 comp (n:Int) hs.length tA tc fA fc i sc hI.hp none)) 129 (0,0)) by rw [hw4,hcdb];exact blk_new w3 _)
 have HCD:=hid (show w.heap.size≤cdb∧∀ b,cdb≤b→b≠rb from ⟨by have:=HB3.out.size;omega,fun b hb e=>by have:=blk_lt HX3.out;omega⟩)
 have HB4:=hid (below_step HB3.out hb4)
 have HX4:=hid ((hb4.block _ (blk_lt HX3.out)).trans HX3.out)
 have HT4:=hid ((hb4.block _ (blk_lt HT3.out)).trans HT3.out)
 have HFL4:=hid (Kd.C_below HFL3.out hb4)
 have H4:=hid (H0.out.below HB4.out)
 have HCE4:=hid (show ∀ (k:Nat) (x:Hd),hs[k]? = some x→w4.cell? ⟨bl,k,none⟩=some (.pointer (some ⟨x.hp,0,none⟩)) from fun k x hx=>by
  have h:=HCE.out k x hx
  exact (hb4.cell (World.block_lt_of_cell? w3 _ h)).trans h)
 have P4:=hid (show Ph w w4 S n0 sb ob mb (.slice (some ⟨bl,0,none⟩) hs.length cl) cv hs cs o st.rgs st.run cdb (cd0 comp (n:Int) hs.length tA tc fA fc i sc hI.hp none) from ⟨HB4.out.mono (Nat.zero_le _),fun b hb _=>HB4.out.block b hb,HC4.out,H4.out⟩)
 have HN0:=hid (show n0≤cdb from Nat.le_trans H0.out.nb HCD.out.1)
 have u3f:=blk_frozen HC4.out 12
 have u3:w4.cell? ⟨cdb,12,none⟩=some (.pointer none):=blk_cell HC4.out 12
 have u1:w4.cell? ⟨sb,0,none⟩=some (.slice (some ⟨bl,0,none⟩) hs.length cl):=blk_cell H4.out.st.ctl.2 0
 clear hw4 hcdb hb4 HX3 HT3 HB3 H3 HFL3 HCE
 go_upto_if 42 with (fail)
 obtain ⟨q0,hq0⟩ : ∃ q,q=((i:Int) == 0):=⟨_,rfl⟩
 rw [← hq0]
 have HQ0:=hid hq0
 clear hq0
 obtain ⟨bq,hbq⟩ : ∃ b,b=ch.isSome:=⟨_,rfl⟩
 have HBQ:=hid hbq
 clear hbq
 go_cut [11] from 43 to 83 (fun v11 wc=>v11=.bool bq∧CutP w S n0 sb ob mb (.slice (some ⟨bl,0,none⟩) hs.length cl) cv hs cs o st.rgs st.run rb cdb hI ch wc)
 case first =>
  cases q0 with
  | true =>
   have hi0:i=0:=by have:=beq_iff_eq.1 HQ0.out.symm;omega
   obtain ⟨nx,hnx⟩ : ∃ nx,hs[n]? = some nx:=⟨_,List.getElem?_eq_getElem hnl⟩
   have HNX:=hid (show hs[nxt hs.length n i]? = some nx by rw [hi0];exact hnx)
   have HTC0:=HTC.out
   unfold TryC at HTC0
   rw [if_pos hi0] at HTC0
   have HTC1:=hid HTC0
   have u0:w4.cell? ⟨tb,0,none⟩=some (.int .i64 (n:Int)):=blk_cell HT4.out 0
   have u2:w4.cell? ⟨bl,n,none⟩=some (.pointer (some ⟨nx.hp,0,none⟩)):=HCE4.out n nx hnx
   clear hnx HTC0 hi0
   go_upto_region 5 with (fail)
   refine start_ (n:=12) (S:=fun w'=>w'.cell? ⟨tb,0,none⟩=some (.int .i64 (n:Int))∧w'.cell? ⟨sb,0,none⟩=some (.slice (some ⟨bl,0,none⟩) hs.length cl)∧w'.cell? ⟨bl,n,none⟩=some (.pointer (some ⟨nx.hp,0,none⟩))) (ds:=[11]) #[false,false,false,false,false,false,false,false,false,false,false,false] (by kernel_rfl) rfl rfl ⟨u0,u1,u2⟩ (fun hHeld=>?_)
   refine pure_ (i:=0) (N:=some 43) (v:=?_) (a':=?_) #[true,false,false,false,false,false,false,false,false,false,false,false] rfl rfl (by kernel_rfl) (fun _ _ _ h=>h) (Or.inl ⟨by rfl,?_⟩) ?_ ?_
   rotate_left
   ·intro w'
    go_simp
    with_reducible rfl
   rotate_left
   ·simp only [Act.put,zA,zB,zC,i64_w,i32_w]
    rfl
   refine pure_ (i:=1) (N:=some 44) (v:=?_) (a':=?_) #[true,true,false,false,false,false,false,false,false,false,false,false] rfl rfl (by kernel_rfl) (fun _ _ _ h=>h) (Or.inl ⟨by rfl,?_⟩) ?_ ?_
   rotate_left
   ·intro w'
    go_simp
    with_reducible rfl
   rotate_left
   ·simp only [Act.put,zA,zB,zC,i64_w,i32_w]
    rfl
   refine pure_ (i:=2) (N:=some 45) (v:=?_) (a':=?_) #[true,true,true,false,false,false,false,false,false,false,false,false] rfl rfl (by kernel_rfl) (fun _ _ _ h=>h) (Or.inl ⟨by rfl,?_⟩) ?_ ?_
   rotate_left
   ·intro w'
    go_simp
    with_reducible rfl
   rotate_left
   ·simp only [Act.put,zA,zB,zC,i64_w,i32_w]
    rfl
   refine pure_ (i:=3) (N:=some 46) (v:=?_) (a':=?_) #[true,true,true,true,false,false,false,false,false,false,false,false] rfl rfl (by kernel_rfl) (fun _ _ _ h=>h) (Or.inl ⟨by rfl,?_⟩) ?_ ?_
   rotate_left
   ·intro w'
    go_simp
    with_reducible rfl
   rotate_left
   ·simp only [Act.put,zA,zB,zC,i64_w,i32_w]
    rfl
   refine pure_ (i:=5) (N:=some 48) (v:=?_) (a':=?_) #[true,true,true,true,false,true,false,false,false,false,false,false] rfl rfl (by kernel_rfl) (fun _ _ _ h=>h) (Or.inl ⟨by rfl,?_⟩) ?_ ?_
   rotate_left
   ·intro w'
    go_simp
    with_reducible rfl
   rotate_left
   ·simp only [Act.put,zA,zB,zC,i64_w,i32_w]
    rfl
   refine take_ (i:=4) (N:=some 47) (v:=?_) (a':=?_) #[true,true,true,true,true,true,false,false,false,false,false,false] rfl rfl (by kernel_rfl) (fun _ _ _ h=>h) (Or.inl ⟨by rfl,?_⟩) hHeld ?_ ?_
   rotate_left
   ·rintro w' ⟨s0,s1,s2⟩
    go_simp
    with_reducible rfl
   rotate_left
   ·simp only [Act.put,zA,zB,zC,i64_w,i32_w]
    rfl
   refine take_ (i:=6) (N:=some 49) (v:=?_) (a':=?_) #[true,true,true,true,true,true,true,false,false,false,false,false] rfl rfl (by kernel_rfl) (fun _ _ _ h=>h) (Or.inl ⟨by rfl,?_⟩) hHeld ?_ ?_
   rotate_left
   ·rintro w' ⟨s0,s1,s2⟩
    go_simp
    with_reducible rfl
   rotate_left
   ·simp only [Act.put,zA,zB,zC,i64_w,i32_w]
    rfl
   refine pure_ (i:=7) (N:=some 50) (v:=?_) (a':=?_) #[true,true,true,true,true,true,true,true,false,false,false,false] rfl rfl (by kernel_rfl) (fun _ _ _ h=>h) (Or.inl ⟨by rfl,?_⟩) ?_ ?_
   rotate_left
   ·intro w'
    go_simp
    with_reducible rfl
   rotate_left
   ·simp only [Act.put,zA,zB,zC,i64_w,i32_w]
    rfl
   refine take_ (i:=8) (N:=some 51) (v:=?_) (a':=?_) #[true,true,true,true,true,true,true,true,true,false,false,false] rfl rfl (by kernel_rfl) (fun _ _ _ h=>h) (Or.inl ⟨by rfl,?_⟩) hHeld ?_ ?_
   rotate_left
   ·rintro w' ⟨s0,s1,s2⟩
    go_simp
    with_reducible rfl
   rotate_left
   ·simp only [Act.put,zA,zB,zC,i64_w,i32_w]
    rfl
   refine pure_ (i:=9) (N:=some 52) (v:=?_) (a':=?_) #[true,true,true,true,true,true,true,true,true,true,false,false] rfl rfl (by kernel_rfl) (fun _ _ _ h=>h) (Or.inl ⟨by rfl,?_⟩) ?_ ?_
   rotate_left
   ·intro w'
    go_simp
    with_reducible rfl
   rotate_left
   ·simp only [Act.put,zA,zB,zC,i64_w,i32_w]
    rfl
   refine pure_ (i:=10) (N:=some 53) (v:=?_) (a':=?_) #[true,true,true,true,true,true,true,true,true,true,true,false] rfl rfl (by kernel_rfl) (fun _ _ _ h=>h) (Or.inl ⟨by rfl,?_⟩) ?_ ?_
   rotate_left
   ·intro w'
    go_simp
    with_reducible rfl
   rotate_left
   ·simp only [Act.put,zA,zB,zC,i64_w,i32_w]
    rfl
   refine last_ (i:=11) (N:=none) #[true,true,true,true,true,true,true,true,true,true,true,true] rfl rfl (by kernel_rfl) (by decide) (fun K hK=>?_)
   refine skip_ (w1:=?_) (by rfl) rfl ?_ ?_
   rotate_left
   ·go_simp
    rfl
   refine hK.out _ _ ?_
   clear hK K
   refine done_ (by kernel_rfl) ?_
   obtain ⟨w5,hw5⟩ : ∃ w5,w5=(w4.setCell ⟨cdb,12,none⟩ (.pointer (some ⟨nx.hp,0,none⟩))).drew:=⟨_,rfl⟩
   rw [← hw5]
   have P5:=hid (show Ph w w5 S n0 sb ob mb (.slice (some ⟨bl,0,none⟩) hs.length cl) cv hs cs o st.rgs st.run cdb (cd0 comp (n:Int) hs.length tA tc fA fc i sc hI.hp (some ⟨nx.hp,0,none⟩)) by
    rw [hw5]
    exact (P4.out.set (c':=cd0 comp (n:Int) hs.length tA tc fA fc i sc hI.hp (some ⟨nx.hp,0,none⟩)) HN0.out 12 (.pointer (some ⟨nx.hp,0,none⟩)) rfl).below (below_drew (Below.refl _ _)))
   have HX5:=hid (show w5.heap[rb]? = some (.cells z84 84 (0,0)) by
    rw [hw5]
    exact (Below.heap_setCell w4 ⟨cdb,12,none⟩ _ rb (fun e=>HCD.out.2 cdb (Nat.le_refl _) e.symm)).trans HX4.out)
   have HFL5:=hid (show Kd.C (Kd.int .i64) w5 fA hs.length (Tg.files o (hs.map fun x=>total x.ts)) by
    rw [hw5]
    exact Kd.C_below (c_far HFL4.out u3) (below_drew (Below.refl _ _)))
   have K72:=hid (HTC1.out w5 cdb cdb tc fc tA fA nx HNX.out P5.out.cor P5.out.blk HN0.out (Nat.le_refl _) HFL5.out)
   clear hHeld u0 u1 u2 u3 u3f hw5
   go_wp2_with fail
   refine K72.out.mono ?_
   intro e w6 hp
   obtain ⟨he,hc⟩:=cutP_of P5.out HCD.out.1 HX5.out HCD.out.2 ⟨rfl,rfl,rfl,rfl⟩ hp
   rw [← HBQ.out] at he
   subst he
   have HC:=hid hc
   clear hp hc K72
   go_wp2_with fail
   go_meet
   case rel=>exact ⟨rfl,HC.out⟩
  | false =>
   have hi0:¬ i=0:=by have:=beq_eq_false_iff_ne.1 HQ0.out.symm;omega
   have HTC0:=HTC.out
   unfold TryC at HTC0
   rw [if_neg hi0] at HTC0
   have HTC1:=hid HTC0
   have HIZ:=hid hi0
   clear HTC0 hi0
   have m11:w4.cell? ⟨cdb,11,none⟩=some (.pointer (some ⟨hI.hp,0,none⟩)):=blk_cell HC4.out 11
   go_upto_region 8 with (fail)
   obtain ⟨w5,hw5⟩ : ∃ w5,w5=w4.setCell ⟨cdb,12,none⟩ (.pointer (some ⟨hI.hp,0,none⟩)):=⟨_,rfl⟩
   rw [← hw5]
   have P5:=hid (P4.out.set (c':=cd0 comp (n:Int) hs.length tA tc fA fc i sc hI.hp (some ⟨hI.hp,0,none⟩)) HN0.out 12 (.pointer (some ⟨hI.hp,0,none⟩)) rfl)
   have HX5:=hid (show w5.heap[rb]? = some (.cells z84 84 (0,0)) by
    rw [hw5]
    exact (Below.heap_setCell w4 ⟨cdb,12,none⟩ _ rb (fun e=>HCD.out.2 cdb (Nat.le_refl _) e.symm)).trans HX4.out)
   have HFL5:=hid (show Kd.C (Kd.int .i64) w5 fA hs.length (Tg.files o (hs.map fun x=>total x.ts)) by
    rw [hw5]
    exact c_far HFL4.out u3)
   have HCE5:=hid (show ∀ (k:Nat) (x:Hd),hs[k]? = some x→w5.cell? ⟨bl,k,none⟩=some (.pointer (some ⟨x.hp,0,none⟩)) from fun k x hx=>by
    obtain ⟨b2,c2,e,h,_⟩:=lv_of_cor P5.out.cor (by have:=HLEN.out;omega)
    rw [← hw5] at h
    injection e with e _ _
    injection e with e
    injection e with e _ _
    rw [e]
    exact h k x hx)
   rw [← hw5] at P5
   have m11:w5.cell? ⟨cdb,11,none⟩=some (.pointer (some ⟨hI.hp,0,none⟩)):=blk_cell P5.out.blk 11
   obtain ⟨r,hr⟩ : ∃ r,r=((i:Int) == ((hs.length - 1:Nat):Int)):=⟨_,rfl⟩
   have K73:=hid (Rn.isLast_calls (w:=w5) (hp:=hI.hp) (ob:=ob) (i:=i) (m:=hs.length - 1) (r:=r) (blk_cell (P5.out.cor.st.lev i hI HEI.out).blk 3) (blk_cell (P5.out.cor.st.lev i hI HEI.out).blk 4) (by
    have h0:w5.cell? ⟨ob,0,none⟩=some (.int .i64 o.max):=blk_cell P5.out.cor.st.opt.2 0
    rw [h0,HMX.out,show (((hs.length - 1:Nat):Int)+1)=(hs.length:Int) by have:=HLEN.out;omega]) (by have:=HLEN.out;omega) hr.symm)
   have HRR:=hid hr
   clear hw5 hr u1 u3 u3f
   go_wp2_with fail
   refine K73.out.mono ?_
   rintro e w6 ⟨rfl,q,hw6⟩
   have P6:=hid (show Ph w w6 S n0 sb ob mb (.slice (some ⟨bl,0,none⟩) hs.length cl) cv hs cs o st.rgs st.run cdb (cd0 comp (n:Int) hs.length tA tc fA fc i sc hI.hp (some ⟨hI.hp,0,none⟩)) by
    rw [hw6]
    exact P5.out.below (pw_below_drewN (Below.refl _ _) q))
   have HX6:=hid (show w6.heap[rb]? = some (.cells z84 84 (0,0)) by rw [hw6];exact HX5.out)
   have HFL6:=hid (show Kd.C (Kd.int .i64) w6 fA hs.length (Tg.files o (hs.map fun x=>total x.ts)) by rw [hw6];exact c_drew HFL5.out)
   have HCE6:=hid (show ∀ (k:Nat) (x:Hd),hs[k]? = some x→w6.cell? ⟨bl,k,none⟩=some (.pointer (some ⟨x.hp,0,none⟩)) from fun k x hx=>by rw [hw6];exact HCE5.out k x hx)
   clear hw6 K73 P5 HX5 HFL5 HCE5 m11
   cases r with
   | true =>
    have HNX:=hid (show hs[nxt hs.length n i]? = some hI by
     have h1:=beq_iff_eq.1 HRR.out.symm
     have h2:=HIZ.out
     have h3:=HLEN.out
     unfold nxt
     rw [if_neg h2,if_pos (by omega)]
     exact HEI.out)
    have K74:=hid (HTC1.out w6 cdb cdb tc fc tA fA hI HNX.out P6.out.cor P6.out.blk HN0.out (Nat.le_refl _) HFL6.out)
    go_wp2_with fail
    refine K74.out.mono ?_
    intro e w7 hp
    obtain ⟨he,hc⟩:=cutP_of P6.out HCD.out.1 HX6.out HCD.out.2 ⟨rfl,rfl,rfl,rfl⟩ hp
    rw [← HBQ.out] at he
    subst he
    have HC:=hid hc
    clear hp hc K74
    go_wp2_with fail
    go_meet
    case rel=>exact ⟨rfl,HC.out⟩
   | false =>
    have hnl2:¬ i+1=hs.length:=by
     have h1:=beq_eq_false_iff_ne.1 HRR.out.symm
     have h3:=HLEN.out
     omega
    obtain ⟨k1,hk1⟩ : ∃ k,k=i+1:=⟨_,rfl⟩
    have hk1l:k1<hs.length:=by omega
    have hk1i:(k1:Int)<(hs.length:Int):=by omega
    obtain ⟨nx,hnx⟩ : ∃ nx,hs[k1]? = some nx:=⟨_,List.getElem?_eq_getElem hk1l⟩
    have HNX:=hid (show hs[nxt hs.length n i]? = some nx by
     unfold nxt
     rw [if_neg HIZ.out,if_neg hnl2,← hk1]
     exact hnx)
    have s3:IntKind.i64.wrap ((i:Int)+1)=(k1:Int):=by rw [IntWalk.i64_in _ (by have:=HLEN.out;omega)];omega
    have u1:w6.cell? ⟨sb,0,none⟩=some (.slice (some ⟨bl,0,none⟩) hs.length cl):=blk_cell P6.out.cor.st.ctl.2 0
    have u2:w6.cell? ⟨bl,k1,none⟩=some (.pointer (some ⟨nx.hp,0,none⟩)):=HCE6.out k1 nx hnx
    have u3f:=blk_frozen P6.out.blk 12
    have u3:w6.cell? ⟨cdb,12,none⟩=some (.pointer (some ⟨hI.hp,0,none⟩)):=blk_cell P6.out.blk 12
    clear hk1 hnl2 hnx
    go_upto_region 10 with (fail)
    obtain ⟨w7,hw7⟩ : ∃ w7,w7=w6.setCell ⟨cdb,12,none⟩ (.pointer (some ⟨nx.hp,0,none⟩)):=⟨_,rfl⟩
    rw [← hw7]
    have P7:=hid (P6.out.set (c':=cd0 comp (n:Int) hs.length tA tc fA fc i sc hI.hp (some ⟨nx.hp,0,none⟩)) HN0.out 12 (.pointer (some ⟨nx.hp,0,none⟩)) rfl)
    have HX7:=hid (show w7.heap[rb]? = some (.cells z84 84 (0,0)) by
     rw [hw7]
     exact (Below.heap_setCell w6 ⟨cdb,12,none⟩ _ rb (fun e=>HCD.out.2 cdb (Nat.le_refl _) e.symm)).trans HX6.out)
    have HFL7:=hid (show Kd.C (Kd.int .i64) w7 fA hs.length (Tg.files o (hs.map fun x=>total x.ts)) by
     rw [hw7]
     exact c_far HFL6.out u3)
    rw [← hw7] at P7
    have K74:=hid (HTC1.out w7 cdb cdb tc fc tA fA nx HNX.out P7.out.cor P7.out.blk HN0.out (Nat.le_refl _) HFL7.out)
    clear hw7 u1 u2 u3 u3f
    go_wp2_with fail
    refine K74.out.mono ?_
    intro e w8 hp
    obtain ⟨he,hc⟩:=cutP_of P7.out HCD.out.1 HX7.out HCD.out.2 ⟨rfl,rfl,rfl,rfl⟩ hp
    rw [← HBQ.out] at he
    subst he
    have HC:=hid hc
    clear hp hc K74
    go_wp2_with fail
    go_meet
    case rel=>exact ⟨rfl,HC.out⟩
 case rest =>
  have HKC:=hid hcut.2.1
  have HX6:=hid hcut.2.2.1
  have hm:=hcut.2.2.2
  obtain rfl:=hcut.1
  clear hcut HTC P4 HC4 HX4 HT4 HB4 H4 HCE4 HFL4 u1 u3 u3f
  cases bq with
  | false =>
   have hn:ch=none:=by
    cases ch with
    | none=>rfl
    | some x=>exact absurd HBQ.out (by simp)
   subst hn
   have HCR:=hid (show Cor wc S n0 sb ob mb (.slice (some ⟨bl,0,none⟩) hs.length cl) cv hs cs o st.rgs st.run from hm)
   clear hm
   have x0:wc.cell? ⟨rb,0,none⟩=some (.int .i64 0):=blk_cell HX6.out 0
   have y0:=blk_frozen HX6.out 0
   have x1:wc.cell? ⟨rb,1,none⟩=some (.int .i64 0):=blk_cell HX6.out 1
   have y1:=blk_frozen HX6.out 1
   have x2:wc.cell? ⟨rb,2,none⟩=some (.slice none 0 0):=blk_cell HX6.out 2
   have y2:=blk_frozen HX6.out 2
   have x3:wc.cell? ⟨rb,3,none⟩=some (.slice none 0 0):=blk_cell HX6.out 3
   have y3:=blk_frozen HX6.out 3
   have x4:wc.cell? ⟨rb,4,none⟩=some (.slice none 0 0):=blk_cell HX6.out 4
   have y4:=blk_frozen HX6.out 4
   have x5:wc.cell? ⟨rb,5,none⟩=some (.slice none 0 0):=blk_cell HX6.out 5
   have y5:=blk_frozen HX6.out 5
   have x6:wc.cell? ⟨rb,6,none⟩=some (.slice none 0 0):=blk_cell HX6.out 6
   have y6:=blk_frozen HX6.out 6
   have x7:wc.cell? ⟨rb,7,none⟩=some (.slice none 0 0):=blk_cell HX6.out 7
   have y7:=blk_frozen HX6.out 7
   have x8:wc.cell? ⟨rb,8,none⟩=some (.bool false):=blk_cell HX6.out 8
   have y8:=blk_frozen HX6.out 8
   have x9:wc.cell? ⟨rb,9,none⟩=some (.slice none 0 0):=blk_cell HX6.out 9
   have y9:=blk_frozen HX6.out 9
   go_wp2_with fail
   obtain ⟨w15,hw15⟩ : ∃ w15,w15=((((((((((wc.setCell ⟨rb,0,none⟩ (.int .i64 0)).setCell ⟨rb,1,none⟩ (.int .i64 0)).setCell ⟨rb,2,none⟩ (.slice none 0 0)).setCell ⟨rb,3,none⟩ (.slice none 0 0)).setCell ⟨rb,4,none⟩ (.slice none 0 0)).setCell ⟨rb,5,none⟩ (.slice none 0 0)).setCell ⟨rb,6,none⟩ (.slice none 0 0)).setCell ⟨rb,7,none⟩ (.slice none 0 0)).setCell ⟨rb,8,none⟩ (.bool false)).setCell ⟨rb,9,none⟩ (.slice none 0 0)):=⟨_,rfl⟩
   rw [← hw15]
   have HN15:=hid (show Nb wc w15 rb by rw [hw15];exact ((((((((((Nb.refl wc rb).set 0 _).set 1 _).set 2 _).set 3 _).set 4 _).set 5 _).set 6 _).set 7 _).set 8 _).set 9 _)
   have HX15:=hid (show w15.heap[rb]? = some (.cells z84 84 (0,0)) by
    rw [hw15]
    have h:=(blk_set (blk_set (blk_set (blk_set (blk_set (blk_set (blk_set (blk_set (blk_set (blk_set HX6.out 0 (.int .i64 0)) 1 (.int .i64 0)) 2 (.slice none 0 0)) 3 (.slice none 0 0)) 4 (.slice none 0 0)) 5 (.slice none 0 0)) 6 (.slice none 0 0)) 7 (.slice none 0 0)) 8 (.bool false)) 9 (.slice none 0 0))
    simpa [z84] using h)
   clear hw15 x0 x1 x2 x3 x4 x5 x6 x7 x8 x9 y0 y1 y2 y3 y4 y5 y6 y7 y8 y9
   have ty:∀ (b:Nat) (arr:Array Value) (t:Nat),w.heap[b]? = some (.cells arr t (0,0))→t∉[144,126]→w15.heap[b]? = w.heap[b]?:=fun b arr t hb ht=>by
    have hl:=blk_lt hb
    have hrb:=HRB.out
    exact (HN15.out.2 b (Nat.lt_of_lt_of_le hl HKC.out.1.size) (by omega)).trans (HKC.out.2 b arr t hb ht (fun e=>by cases e))
   refine bodyPost_ret (results_row_tmp rfl _ _ rb 84 _ (0,0) _ rfl HX15.out Tryz.underlying84 rfl (by kernel_rfl)) rfl ?_
   rw [HQ.out]
   exact ⟨⟨HKC.out.1.trans HN15.out.1,fun b arr t hb ht=>ty b arr t hb (fun e=>ht (by simp only [List.mem_cons,List.not_mem_nil,or_false] at e ⊢; rcases e with e | e<;>simp [e]))⟩,rfl,HST.out.keep (HCR.out.far HX6.out (by decide) (fun hS=>by have:=HCR.out.lt _ hS;have:=H0.out.nb;have:=HRB.out;omega) HN15.out.1.size HN15.out.2) (fun b arr t hb ht=>ty b arr t hb (fun e=>by simp only [List.mem_cons,List.not_mem_nil,or_false] at e ht;omega))⟩
  | true =>
   obtain ⟨xc,hx⟩ : ∃ x,ch=some x:=by
    cases ch with
    | none=>exact absurd HBQ.out (by simp)
    | some x=>exact ⟨x,rfl⟩
   subst hx
   obtain ⟨hcor,d,tops,bots,hkk,g1,⟨g2,g3⟩,g4,g5,g6,g7,g8⟩:=hm
   have HS6:=hid hcor
   have HEK:=hid g1
   have HSS:=hid g3
   have HTL:=hid g2
   have HR1:=hid (And.intro g4 g5)
   have HC6:=hid g6
   have HO6:=hid g7
   have HOW:=hid g8
   have m11:wc.cell? ⟨cdb,11,none⟩=some (.pointer (some ⟨hI.hp,0,none⟩)):=by
    have h:=blk_cell g6 11
    have e:(cdC d)[11]? = some (.pointer (some ⟨d.tl,0,none⟩)):=rfl
    rw [h,e,g2]
   have m12:wc.cell? ⟨cdb,12,none⟩=some (.pointer (some ⟨hkk.hp,0,none⟩)):=by
    have h:=blk_cell g6 12
    have e:(cdC d)[12]? = some (.pointer d.nl):=rfl
    rw [h,e,g7.enl]
   have l3:wc.cell? ⟨hI.hp,3,none⟩=some (.int .i64 (i:Int)):=blk_cell (hcor.st.lev i hI HEI.out).blk 3
   have n3:wc.cell? ⟨hkk.hp,3,none⟩=some (.int .i64 (xc.k:Int)):=blk_cell (hcor.st.lev xc.k hkk g1).blk 3
   clear hcor g1 g2 g3 g4 g5 g6 g7 g8
   go_wp2_with fail
   go_quiet (fail)
   go_upto_if 101 with (fail)
   obtain ⟨q1,hq1⟩ : ∃ q,q=((i:Int) != (xc.k:Int)):=⟨_,rfl⟩
   rw [← hq1]
   have HQ1:=hid hq1
   clear hq1 m11 m12 l3 n3
   obtain ⟨wd,hwd⟩ : ∃ wd,wd=wc.drewN nq:=⟨_,rfl⟩
   rw [← hwd]
   have HWD:=hid (show Below wc.heap.size wc wd by rw [hwd];exact pw_below_drewN (Below.refl _ _) nq)
   have HCD6:=hid ((HWD.out.block _ (blk_lt HC6.out)).trans HC6.out)
   have HOD6:=hid (HO6.out.move (w1:=wd) (fun b arr t hb _=>HWD.out.block b (blk_lt hb)))
   have HBN:=hid (show bots.length≤10000 by
    have hb:=HO6.out.btab.1
    have hl:=(HOK.out xc rfl).lb
    omega)
   have HKX:=hid (show (∀ t∈xc.B,KLen t)∧(xc.k≠i→IvR d.r1∧IvR d.r2) from ⟨fun t ht=>by
    obtain ⟨l,hl,h2⟩:=(HOK.out xc rfl).tb t (List.mem_append_right _ ht)
    obtain ⟨y,hy,rfl⟩:=List.mem_map.1 hl
    exact (HSZ.out y hy).2 t h2,fun hne=>by
    rw [HR1.out.1,HR1.out.2]
    exact HIVR.out xc rfl hne⟩)
   have HSW:=hid (show w.heap.size≤wd.heap.size from Nat.le_trans HKC.out.1.size HWD.out.size)
   clear hwd
   go_cut [] from 102 to 104 (fun wx=>∃ c7 xs,SplP w wd cdb d c7 xs wx)
   case first =>
    cases q1 with
    | true =>
     have hne:xc.k≠i:=fun e=>by
      have h:=HQ1.out
      rw [e] at h
      simp at h
     have K75:=hid (splits_calls (w:=wd) (sb:=sb) (n0:=n0) HCD6.out HSS.out HOD6.out.bot HOD6.out.btab HBN.out HKX.out.1 (HOD6.out.k1.mono (fun _ _ _ _=>trivial)) (HOD6.out.k2.mono (fun _ _ _ _=>trivial)) (HOD6.out.k3.mono (fun _ _ _ _=>trivial)) (HOD6.out.k4.mono (fun _ _ _ _=>trivial)) (HKX.out.2 hne).1 (HKX.out.2 hne).2)
     clear hne
     go_wp2_with fail
     refine K75.out.mono ?_
     rintro e w7 ⟨rfl,c7,xs,g1,g2,g3,g4,g5,g6⟩
     have HSP:=hid (show SplP w wd cdb d c7 xs w7 from ⟨g1,g2,Kd.R_lower g3 HSW.out,g4,g5,g6⟩)
     clear g1 g2 g3 g4 g5 g6
     go_wp2_with fail
     go_meet
     case rel=>exact ⟨c7,xs,HSP.out⟩
    | false =>
     have HSP:=hid (show SplP w wd cdb d d [] wd from ⟨sameS_refl d,HCD6.out,by
      rw [HSS.out.1,HSS.out.2.1,HSS.out.2.2]
      exact Kd.R_nil _ _ _ _ _,by simp,Nb.refl _ _⟩)
     go_wp2_with fail
     go_meet
     case rel=>exact ⟨d,[],HSP.out⟩
   case rest =>
    obtain ⟨c7,xs,hsp⟩:=hcut
    revert hsp
    generalize wc=w7
    intro hsp
    have HG1:=hid hsp.sm
    have HC7:=hid hsp.blk
    have HS7:=hid hsp.row
    have HXL:=hid hsp.len
    have hnb:=hsp.nb
    have HO7:=hid (cdok_same (HOD6.out.move (fun b arr t hb ht=>hnb.ty HCD6.out b arr t hb (by rcases ht with rfl | rfl | rfl<;>decide))) hsp.sm)
    have H7:=hid ((HS6.out.below HWD.out).far HCD6.out (by decide) (fun hS=>by have:=HS6.out.lt _ hS;have:=HN0.out;omega) hnb.1.size hnb.2)
    have HKW7:=hid (show KeepC w w7 none from ⟨HKC.out.1.trans ((HWD.out.mono (Nat.zero_le _)).trans hnb.1),fun b arr t hb ht _=>by
     have hl:=blk_lt hb
     have hs:=HKC.out.1.size
     have hs2:=HSW.out
     have hc:=HCD.out.1
     exact (hnb.2 b (by omega) (by omega)).trans ((HWD.out.block b (by omega)).trans (HKC.out.2 b arr t hb ht (fun e=>by cases e)))⟩)
    have HX7:=hid ((hnb.2 rb (by have:=HWD.out.size;have:=blk_lt HX6.out;omega) (fun e=>HCD.out.2 cdb (Nat.le_refl _) e.symm)).trans ((HWD.out.block _ (blk_lt HX6.out)).trans HX6.out))
    have HLP7:=hid ((HKW7.out.2 lp _ _ HLP.out (by decide) (fun e=>by cases e)).trans HLP.out)
    have HD7:=hid (optR_keep HD.out (by decide) HKW7.out (fun k hk e=>by cases e))
    clear hsp hnb HCD6 HOD6 HS6 HO6 HC6 HX6 HKC HWD
    have hdn:dn=ds.length:=(Kd.R_reads' HD7.out).1
    subst hdn
    have l1:w7.cell? ⟨lp,1,none⟩=some (.slice dA ds.length dc):=blk_cell HLP7.out 1
    have l1f:=blk_frozen HLP7.out 1
    have HNB7:=hid (show n0≤w7.heap.size from H7.out.nb)
    go_upto_region 16 with (first | ((with_reducible refine gate_builtin (b:=.append) (xs:=#[.tmp 109,.tmp 111]) rfl ?_);at_builtin;refine Kd.R_append ptrO (w0:=w7) n0 rfl (.tmp 109) (.tmp 111) 105 114 (.pointer none) 8 rfl Tryz.underlying105 info114 rfl (by decide) (by omega) (.slice dA ds.length dc) ds (some cdb) [ptrV (some cdb)] (fun _=>True) (fun _=>False) rfl rfl ?aP (fun _ hk=>hk.elim) ?aF ?aO ?aB ?aS ?aL ?_;(case aP=>exact rfl);(case aB=>exact Below.refl _ _);(case aF=>exact (fun _ _=>trivial));(case aO=>exact HD7.out);(case aS=>exact HNB7.out);(case aL=>have:=HDL.out;omega);intro v8 w8 ho hb hg hat;have HR8:=hid ho;have HG8:=hid hg;have HB8:=hid hb;clear ho hb hg hat;obtain ⟨nd,Ad,cd8,hv8⟩ : ∃ n A c,v8=.slice A n c:=(by obtain ⟨A,c,e⟩:=Kd.R_slice HR8.out;exact ⟨_,A,c,e⟩);subst hv8;have L8:=hid ((HG8.out.block lp (blk_lt HLP7.out) (fun e=>by (obtain ⟨cs2,hc2⟩:=Kd.R_typed HD7.out lp e.symm;rw [HLP7.out] at hc2;injection hc2 with hc2;injection hc2 with _ e _;exact absurd e (by decide)))).trans HLP7.out);have l1':=blk_cell L8.out 1;have l1f':=blk_frozen L8.out 1))
    obtain ⟨w9,hw9⟩ : ∃ w9,w9=w8.setCell ⟨lp,1,none⟩ (.slice Ad nd cd8):=⟨_,rfl⟩
    rw [← hw9]
    have HK9:=hid (show Below 0 w7 w9∧∀ b,b<w7.heap.size→b≠lp→(Value.slice dA ds.length dc).ownBlock≠some b→w9.heap[b]? = w7.heap[b]? from ⟨by
      rw [hw9]
      exact ((Below.refl 0 w7).grown HG8.out (Nat.zero_le _) (fun _ _=>Nat.zero_le _)).setCell (Nat.zero_le _) _,fun b hb h1 h2=>by
      rw [hw9]
      exact (Below.heap_setCell w8 ⟨lp,1,none⟩ _ b h1).trans (HG8.out.block b hb (fun e=>h2 e.symm))⟩)
    have hty:∀ (b:Nat) (arr:Array Value) (t:Nat),w7.heap[b]? = some (.cells arr t (0,0))→t∉[114,107]→w9.heap[b]? = w7.heap[b]?:=fun b arr t hb ht=>HK9.out.2 b (blk_lt hb) (fun e=>by
     subst e
     have h:=HLP7.out
     rw [hb] at h
     injection h with h
     injection h with _ e _
     subst e
     exact ht (by decide)) (fun e=>by
     obtain ⟨cs2,hc2⟩:=Kd.R_typed HD7.out b e
     rw [hb] at hc2
     injection hc2 with hc2
     injection hc2 with _ e _
     subst e
     exact ht (by decide))
    have H9:=hid (show Cor w9 S n0 sb ob mb (.slice (some ⟨bl,0,none⟩) hs.length cl) cv hs cs o xc.rg (runOf st.run xc) from (H7.out.grow HD7.out (by decide) (Nat.le_refl _) HG8.out).far L8.out (by decide) HLS.out (by rw [hw9];simp) (fun b hb hne=>by
     rw [hw9]
     exact Below.heap_setCell w8 ⟨lp,1,none⟩ _ b hne))
    have HO9:=hid (HO7.out.move (fun b arr t hb ht=>hty b arr t hb (by rcases ht with rfl | rfl | rfl<;>decide)))
    have HC9:=hid ((hty cdb _ _ HC7.out (by decide)).trans HC7.out)
    have HX9:=hid ((hty rb _ _ HX7.out (by decide)).trans HX7.out)
    have HS9:=hid (R_stay HS7.out rfl (fun k _ e=>by
     obtain ⟨cs2,hc2⟩:=Kd.R_typed HS7.out k e
     exact hty k cs2 126 hc2 (by decide)))
    have HL9:=hid (show w9.heap[lp]? = some (.cells #[ptr sb,.slice Ad nd cd8] 107 (0,0)) by
     rw [hw9]
     have:=blk_set L8.out 1 (.slice Ad nd cd8)
     simpa using this)
    have HR9:=hid (show ptrO.R 114 w9 n0 (fun _=>True) (.slice Ad nd cd8) (ds++[some cdb]) by
     rw [hw9]
     exact Kd.R_set HR8.out L8.out (by intro q hq;have:q∈[114]:=hq;rw [List.mem_singleton.1 this];decide) 1 _)
    have hnd:nd=ds.length+1:=by have:=(Kd.R_reads' HR9.out).1;rw [this,List.length_append];rfl
    subst hnd
    clear hw9 hty HR8 HG8 HB8 L8 l1 l1f l1' l1f' H7 HO7 HC7 HX7 HS7 HLP7
    obtain ⟨np,NR1⟩:=num_row HO9.out.top HO9.out.ttab
    obtain ⟨nq2,NR2⟩:=num_row HO9.out.bot HO9.out.btab
    have hlt:(nms xc.T).length≤200000∧(nms xc.B).length≤200000:=by
     have h1:=(HOK.out xc rfl).lt
     have h2:=(HOK.out xc rfl).lb
     unfold nms
     rw [List.length_map,List.length_map]
     omega
    have N1:=hid (numbers_calls (w:=w9.drew) (c:=c7.pc) (NR1.below (below_drew (Below.refl _ _))) hlt.1)
    rw [← np] at N1
    have HNR2:=hid NR2
    have HL2:=hid hlt.2
    have HNQ2:=hid nq2
    clear NR1 NR2 hlt np nq2
    have u0:w9.cell? ⟨lp,1,none⟩=some (.slice Ad (ds.length+1) cd8):=blk_cell HL9.out 1
    have u1:w9.cell? ⟨cdb,12,none⟩=some (.pointer (some ⟨hkk.hp,0,none⟩)):=by
     have h:=blk_cell HC9.out 12
     have e:(cdC c7)[12]? = some (.pointer c7.nl):=rfl
     rw [h,e,HO9.out.enl]
    have u2:w9.cell? ⟨hkk.hp,3,none⟩=some (.int .i64 (xc.k:Int)):=blk_cell (H9.out.st.lev xc.k hkk HEK.out).blk 3
    have u3:w9.cell? ⟨cdb,13,none⟩=some (.slice c7.pA c7.pn c7.pc):=blk_cell HC9.out 13
    have u4:w9.cell? ⟨cdb,14,none⟩=some (.slice c7.qA c7.qn c7.qc):=blk_cell HC9.out 14
    have u5:w9.cell? ⟨cdb,15,none⟩=some (.slice c7.a1 c7.r1.lo.length c7.r1.lo.length):=blk_cell HC9.out 15
    have u6:w9.cell? ⟨cdb,16,none⟩=some (.slice c7.b1 c7.r1.hi.length c7.r1.hi.length):=blk_cell HC9.out 16
    have u7:w9.cell? ⟨cdb,17,none⟩=some (.bool c7.r1.inf):=blk_cell HC9.out 17
    have u8:w9.cell? ⟨cdb,19,none⟩=some (.slice c7.a2 c7.r2.lo.length c7.r2.lo.length):=blk_cell HC9.out 19
    have u9:w9.cell? ⟨cdb,20,none⟩=some (.slice c7.b2 c7.r2.hi.length c7.r2.hi.length):=blk_cell HC9.out 20
    have hsub:wrap64 (ds.length:Int)=(ds.length:Int):=by
     have:=HDL.out
     unfold wrap64
     omega
    refine start_ (n:=50) (S:=fun w'=>w'.cell? ⟨lp,1,none⟩=some (.slice Ad (ds.length+1) cd8)∧w'.cell? ⟨cdb,12,none⟩=some (.pointer (some ⟨hkk.hp,0,none⟩))∧w'.cell? ⟨hkk.hp,3,none⟩=some (.int .i64 (xc.k:Int))∧w'.cell? ⟨cdb,13,none⟩=some (.slice c7.pA c7.pn c7.pc)∧w'.cell? ⟨cdb,14,none⟩=some (.slice c7.qA c7.qn c7.qc)∧w'.cell? ⟨cdb,15,none⟩=some (.slice c7.a1 c7.r1.lo.length c7.r1.lo.length)∧w'.cell? ⟨cdb,16,none⟩=some (.slice c7.b1 c7.r1.hi.length c7.r1.hi.length)∧w'.cell? ⟨cdb,17,none⟩=some (.bool c7.r1.inf)∧w'.cell? ⟨cdb,19,none⟩=some (.slice c7.a2 c7.r2.lo.length c7.r2.lo.length)∧w'.cell? ⟨cdb,20,none⟩=some (.slice c7.b2 c7.r2.hi.length c7.r2.hi.length)) (ds:=[49]) #[false,false,false,false,false,false,false,false,false,false,false,false,false,false,false,false,false,false,false,false,false,false,false,false,false,false,false,false,false,false,false,false,false,false,false,false,false,false,false,false,false,false,false,false,false,false,false,false,false,false] (by kernel_rfl) rfl rfl ⟨u0,u1,u2,u3,u4,u5,u6,u7,u8,u9⟩ (fun hHeld=>?_)
    refine pure_ (i:=0) (N:=some 115) (v:=?_) (a':=?_) #[true,false,false,false,false,false,false,false,false,false,false,false,false,false,false,false,false,false,false,false,false,false,false,false,false,false,false,false,false,false,false,false,false,false,false,false,false,false,false,false,false,false,false,false,false,false,false,false,false,false] rfl rfl (by kernel_rfl) (fun _ _ _ h=>h) (Or.inl ⟨by rfl,?_⟩) ?_ ?_
    rotate_left
    ·intro w'
     go_simp
     with_reducible rfl
    rotate_left
    ·simp only [Act.put,zA,zB,zC,i64_w,i32_w]
     rfl
    refine pure_ (i:=1) (N:=some 116) (v:=?_) (a':=?_) #[true,true,false,false,false,false,false,false,false,false,false,false,false,false,false,false,false,false,false,false,false,false,false,false,false,false,false,false,false,false,false,false,false,false,false,false,false,false,false,false,false,false,false,false,false,false,false,false,false,false] rfl rfl (by kernel_rfl) (fun _ _ _ h=>h) (Or.inl ⟨by rfl,?_⟩) ?_ ?_
    rotate_left
    ·intro w'
     go_simp
     with_reducible rfl
    rotate_left
    ·simp only [Act.put,zA,zB,zC,i64_w,i32_w]
     rfl
    refine pure_ (i:=2) (N:=some 117) (v:=?_) (a':=?_) #[true,true,true,false,false,false,false,false,false,false,false,false,false,false,false,false,false,false,false,false,false,false,false,false,false,false,false,false,false,false,false,false,false,false,false,false,false,false,false,false,false,false,false,false,false,false,false,false,false,false] rfl rfl (by kernel_rfl) (fun _ _ _ h=>h) (Or.inl ⟨by rfl,?_⟩) ?_ ?_
    rotate_left
    ·intro w'
     go_simp
     with_reducible rfl
    rotate_left
    ·simp only [Act.put,zA,zB,zC,i64_w,i32_w]
     rfl
    refine pure_ (i:=6) (N:=some 121) (v:=?_) (a':=?_) #[true,true,true,false,false,false,true,false,false,false,false,false,false,false,false,false,false,false,false,false,false,false,false,false,false,false,false,false,false,false,false,false,false,false,false,false,false,false,false,false,false,false,false,false,false,false,false,false,false,false] rfl rfl (by kernel_rfl) (fun _ _ _ h=>h) (Or.inl ⟨by rfl,?_⟩) ?_ ?_
    rotate_left
    ·intro w'
     go_simp
     with_reducible rfl
    rotate_left
    ·simp only [Act.put,zA,zB,zC,i64_w,i32_w]
     rfl
    refine pure_ (i:=7) (N:=some 122) (v:=?_) (a':=?_) #[true,true,true,false,false,false,true,true,false,false,false,false,false,false,false,false,false,false,false,false,false,false,false,false,false,false,false,false,false,false,false,false,false,false,false,false,false,false,false,false,false,false,false,false,false,false,false,false,false,false] rfl rfl (by kernel_rfl) (fun _ _ _ h=>h) (Or.inl ⟨by rfl,?_⟩) ?_ ?_
    rotate_left
    ·intro w'
     go_simp
     with_reducible rfl
    rotate_left
    ·simp only [Act.put,zA,zB,zC,i64_w,i32_w]
     rfl
    refine pure_ (i:=8) (N:=some 123) (v:=?_) (a':=?_) #[true,true,true,false,false,false,true,true,true,false,false,false,false,false,false,false,false,false,false,false,false,false,false,false,false,false,false,false,false,false,false,false,false,false,false,false,false,false,false,false,false,false,false,false,false,false,false,false,false,false] rfl rfl (by kernel_rfl) (fun _ _ _ h=>h) (Or.inl ⟨by rfl,?_⟩) ?_ ?_
    rotate_left
    ·intro w'
     go_simp
     with_reducible rfl
    rotate_left
    ·simp only [Act.put,zA,zB,zC,i64_w,i32_w]
     rfl
    refine pure_ (i:=13) (N:=some 128) (v:=?_) (a':=?_) #[true,true,true,false,false,false,true,true,true,false,false,false,false,true,false,false,false,false,false,false,false,false,false,false,false,false,false,false,false,false,false,false,false,false,false,false,false,false,false,false,false,false,false,false,false,false,false,false,false,false] rfl rfl (by kernel_rfl) (fun _ _ _ h=>h) (Or.inl ⟨by rfl,?_⟩) ?_ ?_
    rotate_left
    ·intro w'
     go_simp
     with_reducible rfl
    rotate_left
    ·simp only [Act.put,zA,zB,zC,i64_w,i32_w]
     rfl
    refine pure_ (i:=14) (N:=some 129) (v:=?_) (a':=?_) #[true,true,true,false,false,false,true,true,true,false,false,false,false,true,true,false,false,false,false,false,false,false,false,false,false,false,false,false,false,false,false,false,false,false,false,false,false,false,false,false,false,false,false,false,false,false,false,false,false,false] rfl rfl (by kernel_rfl) (fun _ _ _ h=>h) (Or.inl ⟨by rfl,?_⟩) ?_ ?_
    rotate_left
    ·intro w'
     go_simp
     with_reducible rfl
    rotate_left
    ·simp only [Act.put,zA,zB,zC,i64_w,i32_w]
     rfl
    refine pure_ (i:=15) (N:=some 130) (v:=?_) (a':=?_) #[true,true,true,false,false,false,true,true,true,false,false,false,false,true,true,true,false,false,false,false,false,false,false,false,false,false,false,false,false,false,false,false,false,false,false,false,false,false,false,false,false,false,false,false,false,false,false,false,false,false] rfl rfl (by kernel_rfl) (fun _ _ _ h=>h) (Or.inl ⟨by rfl,?_⟩) ?_ ?_
    rotate_left
    ·intro w'
     go_simp
     with_reducible rfl
    rotate_left
    ·simp only [Act.put,zA,zB,zC,i64_w,i32_w]
     rfl
    refine pure_ (i:=18) (N:=some 133) (v:=?_) (a':=?_) #[true,true,true,false,false,false,true,true,true,false,false,false,false,true,true,true,false,false,true,false,false,false,false,false,false,false,false,false,false,false,false,false,false,false,false,false,false,false,false,false,false,false,false,false,false,false,false,false,false,false] rfl rfl (by kernel_rfl) (fun _ _ _ h=>h) (Or.inl ⟨by rfl,?_⟩) ?_ ?_
    rotate_left
    ·intro w'
     go_simp
     with_reducible rfl
    rotate_left
    ·simp only [Act.put,zA,zB,zC,i64_w,i32_w]
     rfl
    refine pure_ (i:=19) (N:=some 134) (v:=?_) (a':=?_) #[true,true,true,false,false,false,true,true,true,false,false,false,false,true,true,true,false,false,true,true,false,false,false,false,false,false,false,false,false,false,false,false,false,false,false,false,false,false,false,false,false,false,false,false,false,false,false,false,false,false] rfl rfl (by kernel_rfl) (fun _ _ _ h=>h) (Or.inl ⟨by rfl,?_⟩) ?_ ?_
    rotate_left
    ·intro w'
     go_simp
     with_reducible rfl
    rotate_left
    ·simp only [Act.put,zA,zB,zC,i64_w,i32_w]
     rfl
    refine pure_ (i:=20) (N:=some 135) (v:=?_) (a':=?_) #[true,true,true,false,false,false,true,true,true,false,false,false,false,true,true,true,false,false,true,true,true,false,false,false,false,false,false,false,false,false,false,false,false,false,false,false,false,false,false,false,false,false,false,false,false,false,false,false,false,false] rfl rfl (by kernel_rfl) (fun _ _ _ h=>h) (Or.inl ⟨by rfl,?_⟩) ?_ ?_
    rotate_left
    ·intro w'
     go_simp
     with_reducible rfl
    rotate_left
    ·simp only [Act.put,zA,zB,zC,i64_w,i32_w]
     rfl
    refine pure_ (i:=23) (N:=some 138) (v:=?_) (a':=?_) #[true,true,true,false,false,false,true,true,true,false,false,false,false,true,true,true,false,false,true,true,true,false,false,true,false,false,false,false,false,false,false,false,false,false,false,false,false,false,false,false,false,false,false,false,false,false,false,false,false,false] rfl rfl (by kernel_rfl) (fun _ _ _ h=>h) (Or.inl ⟨by rfl,?_⟩) ?_ ?_
    rotate_left
    ·intro w'
     go_simp
     with_reducible rfl
    rotate_left
    ·simp only [Act.put,zA,zB,zC,i64_w,i32_w]
     rfl
    refine pure_ (i:=24) (N:=some 139) (v:=?_) (a':=?_) #[true,true,true,false,false,false,true,true,true,false,false,false,false,true,true,true,false,false,true,true,true,false,false,true,true,false,false,false,false,false,false,false,false,false,false,false,false,false,false,false,false,false,false,false,false,false,false,false,false,false] rfl rfl (by kernel_rfl) (fun _ _ _ h=>h) (Or.inl ⟨by rfl,?_⟩) ?_ ?_
    rotate_left
    ·intro w'
     go_simp
     with_reducible rfl
    rotate_left
    ·simp only [Act.put,zA,zB,zC,i64_w,i32_w]
     rfl
    refine pure_ (i:=25) (N:=some 140) (v:=?_) (a':=?_) #[true,true,true,false,false,false,true,true,true,false,false,false,false,true,true,true,false,false,true,true,true,false,false,true,true,true,false,false,false,false,false,false,false,false,false,false,false,false,false,false,false,false,false,false,false,false,false,false,false,false] rfl rfl (by kernel_rfl) (fun _ _ _ h=>h) (Or.inl ⟨by rfl,?_⟩) ?_ ?_
    rotate_left
    ·intro w'
     go_simp
     with_reducible rfl
    rotate_left
    ·simp only [Act.put,zA,zB,zC,i64_w,i32_w]
     rfl
    refine pure_ (i:=26) (N:=some 141) (v:=?_) (a':=?_) #[true,true,true,false,false,false,true,true,true,false,false,false,false,true,true,true,false,false,true,true,true,false,false,true,true,true,true,false,false,false,false,false,false,false,false,false,false,false,false,false,false,false,false,false,false,false,false,false,false,false] rfl rfl (by kernel_rfl) (fun _ _ _ h=>h) (Or.inl ⟨by rfl,?_⟩) ?_ ?_
    rotate_left
    ·intro w'
     go_simp
     with_reducible rfl
    rotate_left
    ·simp only [Act.put,zA,zB,zC,i64_w,i32_w]
     rfl
    refine pure_ (i:=28) (N:=some 143) (v:=?_) (a':=?_) #[true,true,true,false,false,false,true,true,true,false,false,false,false,true,true,true,false,false,true,true,true,false,false,true,true,true,true,false,true,false,false,false,false,false,false,false,false,false,false,false,false,false,false,false,false,false,false,false,false,false] rfl rfl (by kernel_rfl) (fun _ _ _ h=>h) (Or.inl ⟨by rfl,?_⟩) ?_ ?_
    rotate_left
    ·intro w'
     go_simp
     with_reducible rfl
    rotate_left
    ·simp only [Act.put,zA,zB,zC,i64_w,i32_w]
     rfl
    refine pure_ (i:=29) (N:=some 144) (v:=?_) (a':=?_) #[true,true,true,false,false,false,true,true,true,false,false,false,false,true,true,true,false,false,true,true,true,false,false,true,true,true,true,false,true,true,false,false,false,false,false,false,false,false,false,false,false,false,false,false,false,false,false,false,false,false] rfl rfl (by kernel_rfl) (fun _ _ _ h=>h) (Or.inl ⟨by rfl,?_⟩) ?_ ?_
    rotate_left
    ·intro w'
     go_simp
     with_reducible rfl
    rotate_left
    ·simp only [Act.put,zA,zB,zC,i64_w,i32_w]
     rfl
    refine pure_ (i:=30) (N:=some 145) (v:=?_) (a':=?_) #[true,true,true,false,false,false,true,true,true,false,false,false,false,true,true,true,false,false,true,true,true,false,false,true,true,true,true,false,true,true,true,false,false,false,false,false,false,false,false,false,false,false,false,false,false,false,false,false,false,false] rfl rfl (by kernel_rfl) (fun _ _ _ h=>h) (Or.inl ⟨by rfl,?_⟩) ?_ ?_
    rotate_left
    ·intro w'
     go_simp
     with_reducible rfl
    rotate_left
    ·simp only [Act.put,zA,zB,zC,i64_w,i32_w]
     rfl
    refine pure_ (i:=31) (N:=some 146) (v:=?_) (a':=?_) #[true,true,true,false,false,false,true,true,true,false,false,false,false,true,true,true,false,false,true,true,true,false,false,true,true,true,true,false,true,true,true,true,false,false,false,false,false,false,false,false,false,false,false,false,false,false,false,false,false,false] rfl rfl (by kernel_rfl) (fun _ _ _ h=>h) (Or.inl ⟨by rfl,?_⟩) ?_ ?_
    rotate_left
    ·intro w'
     go_simp
     with_reducible rfl
    rotate_left
    ·simp only [Act.put,zA,zB,zC,i64_w,i32_w]
     rfl
    refine pure_ (i:=33) (N:=some 148) (v:=?_) (a':=?_) #[true,true,true,false,false,false,true,true,true,false,false,false,false,true,true,true,false,false,true,true,true,false,false,true,true,true,true,false,true,true,true,true,false,true,false,false,false,false,false,false,false,false,false,false,false,false,false,false,false,false] rfl rfl (by kernel_rfl) (fun _ _ _ h=>h) (Or.inl ⟨by rfl,?_⟩) ?_ ?_
    rotate_left
    ·intro w'
     go_simp
     with_reducible rfl
    rotate_left
    ·simp only [Act.put,zA,zB,zC,i64_w,i32_w]
     rfl
    refine pure_ (i:=34) (N:=some 149) (v:=?_) (a':=?_) #[true,true,true,false,false,false,true,true,true,false,false,false,false,true,true,true,false,false,true,true,true,false,false,true,true,true,true,false,true,true,true,true,false,true,true,false,false,false,false,false,false,false,false,false,false,false,false,false,false,false] rfl rfl (by kernel_rfl) (fun _ _ _ h=>h) (Or.inl ⟨by rfl,?_⟩) ?_ ?_
    rotate_left
    ·intro w'
     go_simp
     with_reducible rfl
    rotate_left
    ·simp only [Act.put,zA,zB,zC,i64_w,i32_w]
     rfl
    refine pure_ (i:=35) (N:=some 150) (v:=?_) (a':=?_) #[true,true,true,false,false,false,true,true,true,false,false,false,false,true,true,true,false,false,true,true,true,false,false,true,true,true,true,false,true,true,true,true,false,true,true,true,false,false,false,false,false,false,false,false,false,false,false,false,false,false] rfl rfl (by kernel_rfl) (fun _ _ _ h=>h) (Or.inl ⟨by rfl,?_⟩) ?_ ?_
    rotate_left
    ·intro w'
     go_simp
     with_reducible rfl
    rotate_left
    ·simp only [Act.put,zA,zB,zC,i64_w,i32_w]
     rfl
    refine pure_ (i:=36) (N:=some 151) (v:=?_) (a':=?_) #[true,true,true,false,false,false,true,true,true,false,false,false,false,true,true,true,false,false,true,true,true,false,false,true,true,true,true,false,true,true,true,true,false,true,true,true,true,false,false,false,false,false,false,false,false,false,false,false,false,false] rfl rfl (by kernel_rfl) (fun _ _ _ h=>h) (Or.inl ⟨by rfl,?_⟩) ?_ ?_
    rotate_left
    ·intro w'
     go_simp
     with_reducible rfl
    rotate_left
    ·simp only [Act.put,zA,zB,zC,i64_w,i32_w]
     rfl
    refine pure_ (i:=38) (N:=some 153) (v:=?_) (a':=?_) #[true,true,true,false,false,false,true,true,true,false,false,false,false,true,true,true,false,false,true,true,true,false,false,true,true,true,true,false,true,true,true,true,false,true,true,true,true,false,true,false,false,false,false,false,false,false,false,false,false,false] rfl rfl (by kernel_rfl) (fun _ _ _ h=>h) (Or.inl ⟨by rfl,?_⟩) ?_ ?_
    rotate_left
    ·intro w'
     go_simp
     with_reducible rfl
    rotate_left
    ·simp only [Act.put,zA,zB,zC,i64_w,i32_w]
     rfl
    refine pure_ (i:=39) (N:=some 154) (v:=?_) (a':=?_) #[true,true,true,false,false,false,true,true,true,false,false,false,false,true,true,true,false,false,true,true,true,false,false,true,true,true,true,false,true,true,true,true,false,true,true,true,true,false,true,true,false,false,false,false,false,false,false,false,false,false] rfl rfl (by kernel_rfl) (fun _ _ _ h=>h) (Or.inl ⟨by rfl,?_⟩) ?_ ?_
    rotate_left
    ·intro w'
     go_simp
     with_reducible rfl
    rotate_left
    ·simp only [Act.put,zA,zB,zC,i64_w,i32_w]
     rfl
    refine pure_ (i:=40) (N:=some 155) (v:=?_) (a':=?_) #[true,true,true,false,false,false,true,true,true,false,false,false,false,true,true,true,false,false,true,true,true,false,false,true,true,true,true,false,true,true,true,true,false,true,true,true,true,false,true,true,true,false,false,false,false,false,false,false,false,false] rfl rfl (by kernel_rfl) (fun _ _ _ h=>h) (Or.inl ⟨by rfl,?_⟩) ?_ ?_
    rotate_left
    ·intro w'
     go_simp
     with_reducible rfl
    rotate_left
    ·simp only [Act.put,zA,zB,zC,i64_w,i32_w]
     rfl
    refine pure_ (i:=41) (N:=some 156) (v:=?_) (a':=?_) #[true,true,true,false,false,false,true,true,true,false,false,false,false,true,true,true,false,false,true,true,true,false,false,true,true,true,true,false,true,true,true,true,false,true,true,true,true,false,true,true,true,true,false,false,false,false,false,false,false,false] rfl rfl (by kernel_rfl) (fun _ _ _ h=>h) (Or.inl ⟨by rfl,?_⟩) ?_ ?_
    rotate_left
    ·intro w'
     go_simp
     with_reducible rfl
    rotate_left
    ·simp only [Act.put,zA,zB,zC,i64_w,i32_w]
     rfl
    refine pure_ (i:=43) (N:=some 158) (v:=?_) (a':=?_) #[true,true,true,false,false,false,true,true,true,false,false,false,false,true,true,true,false,false,true,true,true,false,false,true,true,true,true,false,true,true,true,true,false,true,true,true,true,false,true,true,true,true,false,true,false,false,false,false,false,false] rfl rfl (by kernel_rfl) (fun _ _ _ h=>h) (Or.inl ⟨by rfl,?_⟩) ?_ ?_
    rotate_left
    ·intro w'
     go_simp
     with_reducible rfl
    rotate_left
    ·simp only [Act.put,zA,zB,zC,i64_w,i32_w]
     rfl
    refine pure_ (i:=44) (N:=some 159) (v:=?_) (a':=?_) #[true,true,true,false,false,false,true,true,true,false,false,false,false,true,true,true,false,false,true,true,true,false,false,true,true,true,true,false,true,true,true,true,false,true,true,true,true,false,true,true,true,true,false,true,true,false,false,false,false,false] rfl rfl (by kernel_rfl) (fun _ _ _ h=>h) (Or.inl ⟨by rfl,?_⟩) ?_ ?_
    rotate_left
    ·intro w'
     go_simp
     with_reducible rfl
    rotate_left
    ·simp only [Act.put,zA,zB,zC,i64_w,i32_w]
     rfl
    refine pure_ (i:=45) (N:=some 160) (v:=?_) (a':=?_) #[true,true,true,false,false,false,true,true,true,false,false,false,false,true,true,true,false,false,true,true,true,false,false,true,true,true,true,false,true,true,true,true,false,true,true,true,true,false,true,true,true,true,false,true,true,true,false,false,false,false] rfl rfl (by kernel_rfl) (fun _ _ _ h=>h) (Or.inl ⟨by rfl,?_⟩) ?_ ?_
    rotate_left
    ·intro w'
     go_simp
     with_reducible rfl
    rotate_left
    ·simp only [Act.put,zA,zB,zC,i64_w,i32_w]
     rfl
    refine pure_ (i:=46) (N:=some 161) (v:=?_) (a':=?_) #[true,true,true,false,false,false,true,true,true,false,false,false,false,true,true,true,false,false,true,true,true,false,false,true,true,true,true,false,true,true,true,true,false,true,true,true,true,false,true,true,true,true,false,true,true,true,true,false,false,false] rfl rfl (by kernel_rfl) (fun _ _ _ h=>h) (Or.inl ⟨by rfl,?_⟩) ?_ ?_
    rotate_left
    ·intro w'
     go_simp
     with_reducible rfl
    rotate_left
    ·simp only [Act.put,zA,zB,zC,i64_w,i32_w]
     rfl
    refine take_ (i:=3) (N:=some 118) (v:=?_) (a':=?_) #[true,true,true,true,false,false,true,true,true,false,false,false,false,true,true,true,false,false,true,true,true,false,false,true,true,true,true,false,true,true,true,true,false,true,true,true,true,false,true,true,true,true,false,true,true,true,true,false,false,false] rfl rfl (by kernel_rfl) (fun _ _ _ h=>h) (Or.inl ⟨by rfl,?_⟩) hHeld ?_ ?_
    rotate_left
    ·rintro w' ⟨s0,s1,s2,s3,s4,s5,s6,s7,s8,s9⟩
     go_simp
     with_reducible rfl
    rotate_left
    ·simp only [Act.put,zA,zB,zC,i64_w,i32_w]
     rfl
    refine pure_ (i:=4) (N:=some 119) (v:=?_) (a':=?_) #[true,true,true,true,true,false,true,true,true,false,false,false,false,true,true,true,false,false,true,true,true,false,false,true,true,true,true,false,true,true,true,true,false,true,true,true,true,false,true,true,true,true,false,true,true,true,true,false,false,false] rfl rfl (by kernel_rfl) (fun _ _ _ h=>h) (Or.inl ⟨by rfl,?_⟩) ?_ ?_
    rotate_left
    ·intro w'
     go_simp
     with_reducible rfl
    rotate_left
    ·simp only [Act.put,zA,zB,zC,i64_w,i32_w]
     rfl
    refine pure_ (i:=5) (N:=some 120) (v:=?_) (a':=?_) #[true,true,true,true,true,true,true,true,true,false,false,false,false,true,true,true,false,false,true,true,true,false,false,true,true,true,true,false,true,true,true,true,false,true,true,true,true,false,true,true,true,true,false,true,true,true,true,false,false,false] rfl rfl (by kernel_rfl) (fun _ _ _ h=>h) (Or.inl ⟨by rfl,?_⟩) ?_ ?_
    rotate_left
    ·intro w'
     go_simp
     with_reducible rfl
    rotate_left
    ·simp only [Act.put,zA,zB,zC,i64_w,i32_w]
     rfl
    refine take_ (i:=9) (N:=some 124) (v:=?_) (a':=?_) #[true,true,true,true,true,true,true,true,true,true,false,false,false,true,true,true,false,false,true,true,true,false,false,true,true,true,true,false,true,true,true,true,false,true,true,true,true,false,true,true,true,true,false,true,true,true,true,false,false,false] rfl rfl (by kernel_rfl) (fun _ _ _ h=>h) (Or.inl ⟨by rfl,?_⟩) hHeld ?_ ?_
    rotate_left
    ·rintro w' ⟨s0,s1,s2,s3,s4,s5,s6,s7,s8,s9⟩
     go_simp
     with_reducible rfl
    rotate_left
    ·simp only [Act.put,zA,zB,zC,i64_w,i32_w]
     rfl
    refine pure_ (i:=10) (N:=some 125) (v:=?_) (a':=?_) #[true,true,true,true,true,true,true,true,true,true,true,false,false,true,true,true,false,false,true,true,true,false,false,true,true,true,true,false,true,true,true,true,false,true,true,true,true,false,true,true,true,true,false,true,true,true,true,false,false,false] rfl rfl (by kernel_rfl) (fun _ _ _ h=>h) (Or.inl ⟨by rfl,?_⟩) ?_ ?_
    rotate_left
    ·intro w'
     go_simp
     with_reducible rfl
    rotate_left
    ·simp only [Act.put,zA,zB,zC,i64_w,i32_w]
     rfl
    refine pure_ (i:=11) (N:=some 126) (v:=?_) (a':=?_) #[true,true,true,true,true,true,true,true,true,true,true,true,false,true,true,true,false,false,true,true,true,false,false,true,true,true,true,false,true,true,true,true,false,true,true,true,true,false,true,true,true,true,false,true,true,true,true,false,false,false] rfl rfl (by kernel_rfl) (fun _ _ _ h=>h) (Or.inl ⟨by rfl,?_⟩) ?_ ?_
    rotate_left
    ·intro w'
     go_simp
     with_reducible rfl
    rotate_left
    ·simp only [Act.put,zA,zB,zC,i64_w,i32_w]
     rfl
    refine take_ (i:=12) (N:=some 127) (v:=?_) (a':=?_) #[true,true,true,true,true,true,true,true,true,true,true,true,true,true,true,true,false,false,true,true,true,false,false,true,true,true,true,false,true,true,true,true,false,true,true,true,true,false,true,true,true,true,false,true,true,true,true,false,false,false] rfl rfl (by kernel_rfl) (fun _ _ _ h=>h) (Or.inl ⟨by rfl,?_⟩) hHeld ?_ ?_
    rotate_left
    ·rintro w' ⟨s0,s1,s2,s3,s4,s5,s6,s7,s8,s9⟩
     go_simp
     with_reducible rfl
    rotate_left
    ·simp only [Act.put,zA,zB,zC,i64_w,i32_w]
     rfl
    refine take_ (i:=16) (N:=some 131) (v:=?_) (a':=?_) #[true,true,true,true,true,true,true,true,true,true,true,true,true,true,true,true,true,false,true,true,true,false,false,true,true,true,true,false,true,true,true,true,false,true,true,true,true,false,true,true,true,true,false,true,true,true,true,false,false,false] rfl rfl (by kernel_rfl) (fun _ _ _ h=>h) (Or.inl ⟨by rfl,?_⟩) hHeld ?_ ?_
    rotate_left
    ·rintro w' ⟨s0,s1,s2,s3,s4,s5,s6,s7,s8,s9⟩
     go_simp
     with_reducible rfl
    rotate_left
    ·simp only [Act.put,zA,zB,zC,i64_w,i32_w]
     rfl
    refine take_ (i:=21) (N:=some 136) (v:=?_) (a':=?_) #[true,true,true,true,true,true,true,true,true,true,true,true,true,true,true,true,true,false,true,true,true,true,false,true,true,true,true,false,true,true,true,true,false,true,true,true,true,false,true,true,true,true,false,true,true,true,true,false,false,false] rfl rfl (by kernel_rfl) (fun _ _ _ h=>h) (Or.inl ⟨by rfl,?_⟩) hHeld ?_ ?_
    rotate_left
    ·rintro w' ⟨s0,s1,s2,s3,s4,s5,s6,s7,s8,s9⟩
     go_simp
     with_reducible rfl
    rotate_left
    ·simp only [Act.put,zA,zB,zC,i64_w,i32_w]
     rfl
    refine take_ (i:=27) (N:=some 142) (v:=?_) (a':=?_) #[true,true,true,true,true,true,true,true,true,true,true,true,true,true,true,true,true,false,true,true,true,true,false,true,true,true,true,true,true,true,true,true,false,true,true,true,true,false,true,true,true,true,false,true,true,true,true,false,false,false] rfl rfl (by kernel_rfl) (fun _ _ _ h=>h) (Or.inl ⟨by rfl,?_⟩) hHeld ?_ ?_
    rotate_left
    ·rintro w' ⟨s0,s1,s2,s3,s4,s5,s6,s7,s8,s9⟩
     go_simp
     with_reducible rfl
    rotate_left
    ·simp only [Act.put,zA,zB,zC,i64_w,i32_w]
     rfl
    refine take_ (i:=32) (N:=some 147) (v:=?_) (a':=?_) #[true,true,true,true,true,true,true,true,true,true,true,true,true,true,true,true,true,false,true,true,true,true,false,true,true,true,true,true,true,true,true,true,true,true,true,true,true,false,true,true,true,true,false,true,true,true,true,false,false,false] rfl rfl (by kernel_rfl) (fun _ _ _ h=>h) (Or.inl ⟨by rfl,?_⟩) hHeld ?_ ?_
    rotate_left
    ·rintro w' ⟨s0,s1,s2,s3,s4,s5,s6,s7,s8,s9⟩
     go_simp
     with_reducible rfl
    rotate_left
    ·simp only [Act.put,zA,zB,zC,i64_w,i32_w]
     rfl
    refine take_ (i:=37) (N:=some 152) (v:=?_) (a':=?_) #[true,true,true,true,true,true,true,true,true,true,true,true,true,true,true,true,true,false,true,true,true,true,false,true,true,true,true,true,true,true,true,true,true,true,true,true,true,true,true,true,true,true,false,true,true,true,true,false,false,false] rfl rfl (by kernel_rfl) (fun _ _ _ h=>h) (Or.inl ⟨by rfl,?_⟩) hHeld ?_ ?_
    rotate_left
    ·rintro w' ⟨s0,s1,s2,s3,s4,s5,s6,s7,s8,s9⟩
     go_simp
     with_reducible rfl
    rotate_left
    ·simp only [Act.put,zA,zB,zC,i64_w,i32_w]
     rfl
    refine take_ (i:=42) (N:=some 157) (v:=?_) (a':=?_) #[true,true,true,true,true,true,true,true,true,true,true,true,true,true,true,true,true,false,true,true,true,true,false,true,true,true,true,true,true,true,true,true,true,true,true,true,true,true,true,true,true,true,true,true,true,true,true,false,false,false] rfl rfl (by kernel_rfl) (fun _ _ _ h=>h) (Or.inl ⟨by rfl,?_⟩) hHeld ?_ ?_
    rotate_left
    ·rintro w' ⟨s0,s1,s2,s3,s4,s5,s6,s7,s8,s9⟩
     go_simp
     with_reducible rfl
    rotate_left
    ·simp only [Act.put,zA,zB,zC,i64_w,i32_w]
     rfl
    refine take_ (i:=47) (N:=some 162) (v:=?_) (a':=?_) #[true,true,true,true,true,true,true,true,true,true,true,true,true,true,true,true,true,false,true,true,true,true,false,true,true,true,true,true,true,true,true,true,true,true,true,true,true,true,true,true,true,true,true,true,true,true,true,true,false,false] rfl rfl (by kernel_rfl) (fun _ _ _ h=>h) (Or.inl ⟨by rfl,?_⟩) hHeld ?_ ?_
    rotate_left
    ·rintro w' ⟨s0,s1,s2,s3,s4,s5,s6,s7,s8,s9⟩
     go_simp
     with_reducible rfl
    rotate_left
    ·simp only [Act.put,zA,zB,zC,i64_w,i32_w]
     rfl
    refine one_ (i:=17) (N:=some 132) #[true,true,true,true,true,true,true,true,true,true,true,true,true,true,true,true,true,true,true,true,true,true,false,true,true,true,true,true,true,true,true,true,true,true,true,true,true,true,true,true,true,true,true,true,true,true,true,true,false,false] rfl rfl (by kernel_rfl) (by decide) (fun K hK=>?_)
    refine goes_ Tryz.func76 (by kernel_rfl) rfl #[.slice c7.pA c7.pn c7.pc] (by rfl) rfl rfl (by simp only [List.map_toArray,List.map_cons,List.map_nil];rfl) ?_
    with_reducible refine (N1.out).mono ?_
    rintro e w10 ⟨v1,rfl,hr1,hb1⟩
    refine ⟨_,rfl,?_⟩
    obtain ⟨m1,A1,k1,rfl⟩ : ∃ n A c,v1=.slice A n c:=(by obtain ⟨A,c,e⟩:=Kd.R_slice hr1;exact ⟨_,A,c,e⟩)
    have HV1:=hid hr1
    have HB10:=hid (show Below w9.heap.size w9 w10 from below_step (below_drew (Below.refl _ _)) hb1)
    have N2:=numbers_calls (c:=c7.qc) (HNR2.out.below HB10.out) HL2.out
    rw [← HNQ2.out] at N2
    refine hK.out _ _ ⟨(HB10.out.cell (World.block_lt_of_cell? w9 _ u0)).trans u0,(HB10.out.cell (World.block_lt_of_cell? w9 _ u1)).trans u1,(HB10.out.cell (World.block_lt_of_cell? w9 _ u2)).trans u2,(HB10.out.cell (World.block_lt_of_cell? w9 _ u3)).trans u3,(HB10.out.cell (World.block_lt_of_cell? w9 _ u4)).trans u4,(HB10.out.cell (World.block_lt_of_cell? w9 _ u5)).trans u5,(HB10.out.cell (World.block_lt_of_cell? w9 _ u6)).trans u6,(HB10.out.cell (World.block_lt_of_cell? w9 _ u7)).trans u7,(HB10.out.cell (World.block_lt_of_cell? w9 _ u8)).trans u8,(HB10.out.cell (World.block_lt_of_cell? w9 _ u9)).trans u9⟩ (fun hHeld=>?_)
    clear hK K
    refine norm_ (a':=?_) ?_ ?_
    rotate_left
    ·show Act.put _ (some 132) _=_
     simp only [Act.put,zA,zB,zC,i64_w,i32_w]
     rfl
    refine one_ (i:=22) (N:=some 137) #[true,true,true,true,true,true,true,true,true,true,true,true,true,true,true,true,true,true,true,true,true,true,true,true,true,true,true,true,true,true,true,true,true,true,true,true,true,true,true,true,true,true,true,true,true,true,true,true,false,false] rfl rfl (by kernel_rfl) (by decide) (fun K hK=>?_)
    refine goes_ Tryz.func76 (by kernel_rfl) rfl #[.slice c7.qA c7.qn c7.qc] (by rfl) rfl rfl (by simp only [List.map_toArray,List.map_cons,List.map_nil];rfl) ?_
    with_reducible refine (N2).mono ?_
    rintro e w11 ⟨v2,rfl,hr2,hb2⟩
    refine ⟨_,rfl,?_⟩
    obtain ⟨m2,A2,k2,rfl⟩ : ∃ n A c,v2=.slice A n c:=(by obtain ⟨A,c,e⟩:=Kd.R_slice hr2;exact ⟨_,A,c,e⟩)
    have HV2:=hid hr2
    have HW2:=hid hb2
    have HB11:=hid (show Below w9.heap.size w9 w11 from below_step HB10.out hb2)
    have HX11:=hid ((HB11.out.block _ (blk_lt HX9.out)).trans HX9.out)
    have x0:w11.cell? ⟨rb,0,none⟩=some (.int .i64 0):=blk_cell HX11.out 0
    have x1:w11.cell? ⟨rb,1,none⟩=some (.int .i64 0):=blk_cell HX11.out 1
    have x2:w11.cell? ⟨rb,2,none⟩=some (.slice none 0 0):=blk_cell HX11.out 2
    have x3:w11.cell? ⟨rb,3,none⟩=some (.slice none 0 0):=blk_cell HX11.out 3
    have x4:w11.cell? ⟨rb,4,none⟩=some (.slice none 0 0):=blk_cell HX11.out 4
    have x5:w11.cell? ⟨rb,5,none⟩=some (.slice none 0 0):=blk_cell HX11.out 5
    have x6:w11.cell? ⟨rb,6,none⟩=some (.slice none 0 0):=blk_cell HX11.out 6
    have x7:w11.cell? ⟨rb,7,none⟩=some (.slice none 0 0):=blk_cell HX11.out 7
    have x8:w11.cell? ⟨rb,8,none⟩=some (.bool false):=blk_cell HX11.out 8
    have x9:w11.cell? ⟨rb,9,none⟩=some (.slice none 0 0):=blk_cell HX11.out 9
    have y0:=blk_frozen HX11.out 0
    have y1:=blk_frozen HX11.out 1
    have y2:=blk_frozen HX11.out 2
    have y3:=blk_frozen HX11.out 3
    have y4:=blk_frozen HX11.out 4
    have y5:=blk_frozen HX11.out 5
    have y6:=blk_frozen HX11.out 6
    have y7:=blk_frozen HX11.out 7
    have y8:=blk_frozen HX11.out 8
    have y9:=blk_frozen HX11.out 9
    refine hK.out _ _ ⟨(HB11.out.cell (World.block_lt_of_cell? w9 _ u0)).trans u0,(HB11.out.cell (World.block_lt_of_cell? w9 _ u1)).trans u1,(HB11.out.cell (World.block_lt_of_cell? w9 _ u2)).trans u2,(HB11.out.cell (World.block_lt_of_cell? w9 _ u3)).trans u3,(HB11.out.cell (World.block_lt_of_cell? w9 _ u4)).trans u4,(HB11.out.cell (World.block_lt_of_cell? w9 _ u5)).trans u5,(HB11.out.cell (World.block_lt_of_cell? w9 _ u6)).trans u6,(HB11.out.cell (World.block_lt_of_cell? w9 _ u7)).trans u7,(HB11.out.cell (World.block_lt_of_cell? w9 _ u8)).trans u8,(HB11.out.cell (World.block_lt_of_cell? w9 _ u9)).trans u9⟩ (fun hHeld=>?_)
    clear hK K
    refine norm_ (a':=?_) ?_ ?_
    rotate_left
    ·show Act.put _ (some 137) _=_
     simp only [Act.put,zA,zB,zC,i64_w,i32_w]
     rfl
    refine pure_ (i:=48) (N:=some 163) (v:=?_) (a':=?_) #[true,true,true,true,true,true,true,true,true,true,true,true,true,true,true,true,true,true,true,true,true,true,true,true,true,true,true,true,true,true,true,true,true,true,true,true,true,true,true,true,true,true,true,true,true,true,true,true,true,false] rfl rfl (by kernel_rfl) (fun _ _ _ h=>h) (Or.inl ⟨by rfl,?_⟩) ?_ ?_
    rotate_left
    ·intro w'
     go_simp
     with_reducible rfl
    rotate_left
    ·simp only [Act.put,zA,zB,zC,i64_w,i32_w]
     rfl
    refine last_ (i:=49) (N:=none) #[true,true,true,true,true,true,true,true,true,true,true,true,true,true,true,true,true,true,true,true,true,true,true,true,true,true,true,true,true,true,true,true,true,true,true,true,true,true,true,true,true,true,true,true,true,true,true,true,true,true] rfl rfl (by kernel_rfl) (by decide) (fun K hK=>?_)
    refine skip_ (w1:=?_) (by rfl) rfl ?_ ?_
    rotate_left
    ·go_simp
     rfl
    refine hK.out _ _ ?_
    clear hK K
    refine done_ (by kernel_rfl) ?_
    obtain ⟨w12,hw12⟩ : ∃ w12,w12=((((((((((w11.setCell ⟨rb,0,none⟩ (.int .i64 (ds.length:Int))).setCell ⟨rb,1,none⟩ (.int .i64 (xc.k:Int))).setCell ⟨rb,2,none⟩ (.slice A1 m1 k1)).setCell ⟨rb,3,none⟩ (.slice A2 m2 k2)).setCell ⟨rb,4,none⟩ (.slice c7.a1 c7.r1.lo.length c7.r1.lo.length)).setCell ⟨rb,5,none⟩ (.slice c7.b1 c7.r1.hi.length c7.r1.hi.length)).setCell ⟨rb,6,none⟩ (.slice c7.a2 c7.r2.lo.length c7.r2.lo.length)).setCell ⟨rb,7,none⟩ (.slice c7.b2 c7.r2.hi.length c7.r2.hi.length)).setCell ⟨rb,8,none⟩ (.bool c7.r1.inf)).setCell ⟨rb,9,none⟩ (.slice none 0 0)):=⟨_,rfl⟩
    rw [← hw12]
    have HN12:=hid (show Nb w11 w12 rb by rw [hw12];exact ((((((((((Nb.refl w11 rb).set 0 _).set 1 _).set 2 _).set 3 _).set 4 _).set 5 _).set 6 _).set 7 _).set 8 _).set 9 _)
    have HX12:=hid (show w12.heap[rb]? = some (.cells (rbC (ds.length:Int) (xc.k:Int) A1 m1 k1 A2 m2 k2 c7 (.slice none 0 0)) 84 (0,0)) by
     rw [hw12]
     have h:=(blk_set (blk_set (blk_set (blk_set (blk_set (blk_set (blk_set (blk_set (blk_set (blk_set HX11.out 0 (.int .i64 (ds.length:Int))) 1 (.int .i64 (xc.k:Int))) 2 (.slice A1 m1 k1)) 3 (.slice A2 m2 k2)) 4 (.slice c7.a1 c7.r1.lo.length c7.r1.lo.length)) 5 (.slice c7.b1 c7.r1.hi.length c7.r1.hi.length)) 6 (.slice c7.a2 c7.r2.lo.length c7.r2.lo.length)) 7 (.slice c7.b2 c7.r2.hi.length c7.r2.hi.length)) 8 (.bool c7.r1.inf)) 9 (.slice none 0 0))
     simpa [rbC,z84] using h)
    have HN9:=hid ((Nb.of HB11.out rb).trans HN12.out)
    have HAN:=hid (show ∀ a,c7.sA=some a→a.block≠rb from fun a e h=>by
     obtain ⟨cs2,hc2⟩:=Kd.R_typed HS9.out a.block (by rw [e];rfl)
     rw [h,HX9.out] at hc2
     injection hc2 with hc2
     injection hc2 with _ e _
     exact absurd e (by decide))
    have HS12:=hid ((srow_of_R HS9.out).stay HN9.out HAN.out)
    have hsn:c7.sn=xs.length:=(Kd.R_reads' HS9.out).1
    have u23:w12.cell? ⟨cdb,23,none⟩=some (.slice c7.sA c7.sn c7.ss):=by
     have h:w12.heap[cdb]? = some (.cells (cdC c7) 129 (0,0)):=(HN9.out.ty HX9.out cdb _ _ HC9.out (by decide)).trans HC9.out
     exact blk_cell h 23
    rw [hsn] at u23
    have HXLN:=hid HXL.out
    clear hw12 hHeld x0 x1 x2 x3 x4 x5 x6 x7 x8 x9 y0 y1 y2 y3 y4 y5 y6 y7 y8 y9 u0 u1 u2 u3 u4 u5 u6 u7 u8 u9 hsub N1 N2 HNR2 HL2 HNQ2 hr1 hr2 hb1 hb2 hsn HX11
    obtain ⟨sA,hsA⟩ : ∃ a,a=c7.sA:=⟨_,rfl⟩
    rw [← hsA] at u23 HS12 HAN
    clear hsA
    go_wp2_with fail
    go_loopg [169] xs.length (fun kq v169 wr=>∃ j:Nat,v169=.int .i64 (j:Int)∧Aside0 (j+kq=xs.length∧∃ A nn cc ys,FiL w12 wr rb j (ds.length:Int) (xc.k:Int) A1 m1 k1 A2 m2 k2 c7 A nn cc ys))
    case atStart=>exact ⟨0,rfl,⟨by omega,none,0,0,[],⟨Nb.refl _ _,HX12.out,Kd.R_nil _ _ _ _ _,rfl⟩⟩⟩
    case round =>
     obtain ⟨j,rfl,HQ⟩:=hrel
     have HJ:=hid HQ.out.1
     obtain ⟨A,nn,cc,ys,hF⟩:=HQ.out.2
     have HF:=hid hF
     clear HQ hF u23
     by_cases hj:j<xs.length
     ·have d1:decide ((j:Int)<(xs.length:Int))=true:=decide_eq_true (by omega)
      have s3:IntKind.i64.wrap ((j:Int)+1)=((j+1:Nat):Int):=by rw [IntWalk.i64_in _ (by have:=HXLN.out;omega)];omega
      have HGK:=hid (show gk - 1<gk∧j+1+(gk - 1)=xs.length by have:=HJ.out;omega)
      obtain ⟨g,x,hA,hcs⟩:=(HS12.out.stay HF.out.nb HAN.out) j hj
      subst hA
      obtain ⟨z0,z1,z2,z3⟩:=srow_cells hcs
      clear hcs
      go_upto_region 20 with (fail)
      obtain ⟨w13,hw13⟩ : ∃ w13,w13=wr.alloc (.cells #[.slice x.A x.n x.c,.slice x.B x.m x.d,.bool x.i,.int .i64 0] 126):=⟨_,rfl⟩
      rw [← hw13]
      obtain ⟨nb,hnb⟩ : ∃ b,b=wr.heap.size:=⟨_,rfl⟩
      rw [← hnb]
      have HB13:=hid (show Below wr.heap.size wr w13 by rw [hw13];exact below_alloc (Below.refl _ _) _)
      have HY:=hid (show w13.heap[nb]? = some (.cells #[.slice x.A x.n x.c,.slice x.B x.m x.d,.bool x.i,.int .i64 0] 126 (0,0)) by rw [hw13,hnb];exact blk_new wr _)
      clear hw13 hnb z0 z1 z2 z3
      have HX13:=hid ((HB13.out.block _ (blk_lt HF.out.blk)).trans HF.out.blk)
      have HR13:=hid (Kd.R_below HF.out.row HB13.out)
      have HS13:=hid (show w12.heap.size≤w13.heap.size from Nat.le_trans HF.out.nb.1.size HB13.out.size)
      have HLY:=hid (show (ys.length+1)*48≤140737488355328 by have:=HXLN.out;have:=HF.out.len;omega)
      have m9:w13.cell? ⟨rb,9,none⟩=some (.slice A nn cc):=blk_cell HX13.out 9
      have y0:=blk_cell HY.out 0
      have y1:=blk_cell HY.out 1
      go_wp2_with (first | ((with_reducible refine gate_builtin (b:=.append) (xs:=#[.tmp 174,.tmp 180]) rfl ?_);at_builtin;refine Kd.R_append kP (w0:=w13) w12.heap.size rfl (.tmp 174) (.tmp 180) 82 135 (.agg #[.slice none 0 0,.slice none 0 0]) 48 rfl Tryz.underlying82 info135 rfl (by decide) (by omega) (.slice A nn cc) ys (x.A,x.n,x.c,x.B,x.m,x.d) [.slice x.A x.n x.c,.slice x.B x.m x.d] (fun _=>True) (fun _=>False) rfl rfl ?aP (fun _ hk=>hk.elim) ?aF ?aO ?aB ?aS ?aL ?_;(case aP=>exact rfl);(case aB=>exact Below.refl _ _);(case aF=>exact (fun _ _=>trivial));(case aO=>exact HR13.out);(case aS=>exact HS13.out);(case aL=>exact HLY.out);intro v14 w14 ho hb hg hat;have HR14:=hid ho;have HG14:=hid hg;clear ho hb hg hat;obtain ⟨n4,A4,c4,hv⟩ : ∃ n A c,v14=.slice A n c:=(by obtain ⟨A,c,e⟩:=Kd.R_slice HR14.out;exact ⟨_,A,c,e⟩);subst hv;have L14:=hid ((HG14.out.block rb (blk_lt HX13.out) (fun e=>by (obtain ⟨cs2,hc2⟩:=Kd.R_typed HR13.out rb e.symm;rw [HX13.out] at hc2;injection hc2 with hc2;injection hc2 with _ e _;exact absurd e (by decide)))).trans HX13.out);have m9':=blk_cell L14.out 9;have m9f:=blk_frozen L14.out 9))
      go_roundg (gk - 1)
      case measure=>exact HGK.out.1
      case rel =>
       refine ⟨j+1,rfl,⟨HGK.out.2,A4,n4,c4,ys++[(x.A,x.n,x.c,x.B,x.m,x.d)],⟨?_,?_,?_,?_⟩⟩⟩
       rotate_left 2
       ·exact Kd.R_set HR14.out L14.out (by intro q hq;have:q∈[135]:=hq;rw [List.mem_singleton.1 this];decide) 9 _
       ·rw [List.length_append,HF.out.len];rfl
       ·refine Nb.set ⟨HF.out.nb.1.trans (((Below.refl 0 wr).trans (HB13.out.mono (Nat.zero_le _))).grown HG14.out (Nat.zero_le _) (fun _ _=>Nat.zero_le _)),fun b hb hne=>?_⟩ 9 _
        refine (HG14.out.block b (Nat.lt_of_lt_of_le hb HS13.out) (fun e=>?_)).trans ((HB13.out.block b (Nat.lt_of_lt_of_le hb HF.out.nb.1.size)).trans (HF.out.nb.2 b hb hne))
        have:=Kd.R_base HR13.out b e.symm
        omega
       ·have h:=blk_set L14.out 9 (.slice A4 n4 c4)
        simpa [rbC] using h
     ·have d1:decide ((j:Int)<(xs.length:Int))=false:=decide_eq_false (by omega)
      have x0:wr.cell? ⟨rb,0,none⟩=some (.int .i64 (ds.length:Int)):=blk_cell HF.out.blk 0
      have y0:=blk_frozen HF.out.blk 0
      have x1:wr.cell? ⟨rb,1,none⟩=some (.int .i64 (xc.k:Int)):=blk_cell HF.out.blk 1
      have y1:=blk_frozen HF.out.blk 1
      have x2:wr.cell? ⟨rb,2,none⟩=some (.slice A1 m1 k1):=blk_cell HF.out.blk 2
      have y2:=blk_frozen HF.out.blk 2
      have x3:wr.cell? ⟨rb,3,none⟩=some (.slice A2 m2 k2):=blk_cell HF.out.blk 3
      have y3:=blk_frozen HF.out.blk 3
      have x4:wr.cell? ⟨rb,4,none⟩=some (.slice c7.a1 c7.r1.lo.length c7.r1.lo.length):=blk_cell HF.out.blk 4
      have y4:=blk_frozen HF.out.blk 4
      have x5:wr.cell? ⟨rb,5,none⟩=some (.slice c7.b1 c7.r1.hi.length c7.r1.hi.length):=blk_cell HF.out.blk 5
      have y5:=blk_frozen HF.out.blk 5
      have x6:wr.cell? ⟨rb,6,none⟩=some (.slice c7.a2 c7.r2.lo.length c7.r2.lo.length):=blk_cell HF.out.blk 6
      have y6:=blk_frozen HF.out.blk 6
      have x7:wr.cell? ⟨rb,7,none⟩=some (.slice c7.b2 c7.r2.hi.length c7.r2.hi.length):=blk_cell HF.out.blk 7
      have y7:=blk_frozen HF.out.blk 7
      have x8:wr.cell? ⟨rb,8,none⟩=some (.bool c7.r1.inf):=blk_cell HF.out.blk 8
      have y8:=blk_frozen HF.out.blk 8
      have x9:wr.cell? ⟨rb,9,none⟩=some (.slice A nn cc):=blk_cell HF.out.blk 9
      have y9:=blk_frozen HF.out.blk 9
      go_wp2_with fail
      obtain ⟨w15,hw15⟩ : ∃ w15,w15=((((((((((wr.setCell ⟨rb,0,none⟩ (.int .i64 (ds.length:Int))).setCell ⟨rb,1,none⟩ (.int .i64 (xc.k:Int))).setCell ⟨rb,2,none⟩ (.slice A1 m1 k1)).setCell ⟨rb,3,none⟩ (.slice A2 m2 k2)).setCell ⟨rb,4,none⟩ (.slice c7.a1 c7.r1.lo.length c7.r1.lo.length)).setCell ⟨rb,5,none⟩ (.slice c7.b1 c7.r1.hi.length c7.r1.hi.length)).setCell ⟨rb,6,none⟩ (.slice c7.a2 c7.r2.lo.length c7.r2.lo.length)).setCell ⟨rb,7,none⟩ (.slice c7.b2 c7.r2.hi.length c7.r2.hi.length)).setCell ⟨rb,8,none⟩ (.bool c7.r1.inf)).setCell ⟨rb,9,none⟩ (.slice A nn cc)):=⟨_,rfl⟩
      rw [← hw15]
      have HN15:=hid (HN12.out.trans (show Nb w12 w15 rb by rw [hw15];exact ((((((((((HF.out.nb).set 0 _).set 1 _).set 2 _).set 3 _).set 4 _).set 5 _).set 6 _).set 7 _).set 8 _).set 9 _))
      have HX15:=hid (show w15.heap[rb]? = some (.cells (rbC (ds.length:Int) (xc.k:Int) A1 m1 k1 A2 m2 k2 c7 (.slice A nn cc)) 84 (0,0)) by
       rw [hw15]
       have h:=(blk_set (blk_set (blk_set (blk_set (blk_set (blk_set (blk_set (blk_set (blk_set (blk_set HF.out.blk 0 (.int .i64 (ds.length:Int))) 1 (.int .i64 (xc.k:Int))) 2 (.slice A1 m1 k1)) 3 (.slice A2 m2 k2)) 4 (.slice c7.a1 c7.r1.lo.length c7.r1.lo.length)) 5 (.slice c7.b1 c7.r1.hi.length c7.r1.hi.length)) 6 (.slice c7.a2 c7.r2.lo.length c7.r2.lo.length)) 7 (.slice c7.b2 c7.r2.hi.length c7.r2.hi.length)) 8 (.bool c7.r1.inf)) 9 (.slice A nn cc))
       simpa [rbC] using h)
      clear hw15 x0 x1 x2 x3 x4 x5 x6 x7 x8 x9 y0 y1 y2 y3 y4 y5 y6 y7 y8 y9
      have N9:=(Nb.of HB11.out rb).trans HN15.out
      have ty9:=N9.ty HX9.out
      have er1:c7.r1=d.r1:=(congrArg Cd.r1 (sameS_of HG1.out):_)
      have er2:c7.r2=d.r2:=(congrArg Cd.r2 (sameS_of HG1.out):_)
      have etl:c7.tl=d.tl:=(congrArg Cd.tl (sameS_of HG1.out):_)
      have hx11:w11.heap[rb]? = _:=(HB11.out.block _ (blk_lt HX9.out)).trans HX9.out
      have ty11:=HN15.out.ty hx11
      have s9:=HB11.out.size
      have s7:=HK9.out.1.size
      have s0:=HKW7.out.1.size
      refine bodyPost_ret (results_row_tmp rfl _ _ rb 84 _ (0,0) _ rfl HX15.out Tryz.underlying84 rfl (by kernel_rfl)) rfl ?_
      rw [HQ.out]
      have hx1:c7.r1=xc.r1:=er1.trans HR1.out.1
      have hx2:c7.r2=xc.r2:=er2.trans HR1.out.2
      have hcd9:=HO9.out.move (w1:=w15) (fun b arr t hb ht=>ty9 b arr t hb (by rcases ht with rfl | rfl | rfl<;>decide))
      have fr:∀ (b:Nat) (arr:Array Value) (t:Nat),w.heap[b]? = some (.cells arr t (0,0))→t∉[144,126,107,114]→w15.heap[b]? = w.heap[b]?:=fun b arr t hb ht=>by
       have hl:=blk_lt hb
       have hrb:=HRB.out
       have e7:=HKW7.out.2 b arr t hb (fun e=>ht (by simp only [List.mem_cons,List.not_mem_nil,or_false] at e ⊢; rcases e with e | e<;>simp [e])) (fun e=>by cases e)
       refine (N9.2 b (by omega) (by omega)).trans ((HK9.out.2 b (by omega) (fun e=>?_) (fun e=>?_)).trans e7)
       ·have h:=HLP.out
        rw [← e,hb] at h
        injection h with h
        injection h with _ e _
        exact ht (by rw [e];decide)
       ·obtain ⟨cs2,hc2⟩:=Kd.R_typed HD.out b e
        rw [hb] at hc2
        injection hc2 with hc2
        injection hc2 with _ e _
        exact ht (by rw [e];decide)
      refine ⟨⟨HKW7.out.1.trans (HK9.out.1.trans N9.1),fun b arr t hb ht=>fr b arr t hb (fun e=>ht (by simp only [List.mem_cons,List.not_mem_nil,or_false] at e ⊢; rcases e with e | e | e | e<;>simp [e]))⟩,.slice A1 m1 k1,.slice A2 m2 k2,.slice A nn cc,c7.a1,c7.b1,c7.a2,c7.b2,by rw [← hx1,← hx2,← HDL.out.1];rfl,?_,?_,⟨A,nn,cc,rfl⟩,?_,?_,sta_add HFS.out.1 HFS.out.2.1 HFS.out.2.2 (fun b arr t hb ht=>fr b arr t hb (fun e=>by simp only [List.mem_cons,List.not_mem_nil,or_false] at e ht;omega)) ?_ HLS.out ((ty9 lp _ _ HL9.out (by decide)).trans HL9.out) ?_ ⟨(ty9 cdb _ _ HC9.out (by decide)).trans HC9.out,HN0.out,hx1,hx2,hI,hkk,tops,bots,HEI.out,HEK.out,etl.trans HTL.out,hcd9⟩ HCD.out.1 ?_⟩
      ·refine Kd.R_lower (R_stay (Kd.R_below HV1.out HW2.out) rfl (fun k _ e=>?_)) (Nat.le_trans s0 s7)
       obtain ⟨cs2,hc2⟩:=Kd.R_typed (Kd.R_below HV1.out HW2.out) k e
       exact ty11 k _ _ hc2 (by decide)
      ·refine Kd.R_lower (R_stay HV2.out rfl (fun k _ e=>?_)) (by have h:w9.heap.size≤w10.heap.size:=HB10.out.size;omega)
       obtain ⟨cs2,hc2⟩:=Kd.R_typed HV2.out k e
       exact ty11 k _ _ hc2 (by decide)
      ·rw [← hx1];exact hcd9.k1.mono (fun _ _ _ _=>trivial)
      ·rw [← hx1];exact hcd9.k2.mono (fun _ _ _ _=>trivial)
      ·exact H9.out.far HX9.out (by decide) (fun hS=>by have:=H9.out.lt _ hS;have:=H0.out.nb;have:=HRB.out;omega) N9.1.size N9.2
      ·rw [← HDS.out]
       refine R_stay HR9.out rfl (fun k _ e=>?_)
       obtain ⟨cs2,hc2⟩:=Kd.R_typed HR9.out k e
       exact ty9 k _ _ hc2 (by decide)
      ·rw [sameS_of HG1.out];exact HOW.out
end Go.Proofs.YtnineoajmgneiaaGreat.Rg
namespace Go.Proofs.YtnineoajmgneiaaGreat.Rg
open Go.RowKit YtnineoajmgneiaaGreatW YtnineoajmgneiaaGreatW.PrintWords YtnineoajmgneiaaGreatW.PrintLast YtnineoajmgneiaaGreatW.PrintMore Fr L Ky Tm Lm It Nw Bd Tp Pu Pt Rn
/-- What holds but for the plan's own blocks. -/
def FrT (w w1:World):Prop:=Below 0 w w1∧∀ b,b<w.heap.size→w1.heap[b]? = w.heap[b]?
theorem FrT.of {w w1:World} (h:Below w.heap.size w w1):FrT w w1:=⟨h.mono (Nat.zero_le _),fun b hb=>h.block b hb⟩
theorem FrT.trans {w w1 w2:World} (h:FrT w w1) (k:FrT w1 w2):FrT w w2:=⟨h.1.trans k.1,fun b hb=>(k.2 b (Nat.lt_of_lt_of_le hb h.1.size)).trans (h.2 b hb)⟩
theorem FrT.below {w w1:World} (h:FrT w w1):Below w.heap.size w w1:=⟨h.1.os,h.1.tape,h.1.output,h.1.size,h.2⟩
/-- New's levels are a plan in which nothing runs. -/
theorem cor_new [Ghost] {w wr:World} {xs:List (List Tb)} {o:Lm.Op} {ob mb sb lp:Nat} {arr:Array Value} (h:NewR w xs o ob mb sb xs.length wr) (hmb:w.heap.size≤mb) (hlp:wr.heap[lp]? = some (.cells arr 107 (0,0))) (hl2:w.heap.size≤lp) (hG:∀ b,Ghost.g b=wr.heap[b]?) :
  ∃ S lv cv hs cs,Cor wr S wr.heap.size sb ob mb lv cv hs cs o (List.replicate xs.length []) []∧¬ S lp∧hs.map (·.ts)=xs∧hs.length=xs.length∧cs.length=xs.length∧∀ b,b<w.heap.size→S b:=by
 obtain ⟨lv,cv,hs,cs,h1,h2,h3,h4⟩:=h
 rw [List.take_of_length_le (Nat.le_refl _)] at h2
 have hl:hs.length=xs.length:=by rw [← h2,List.length_map]
 obtain ⟨S,hS⟩ : ∃ S:Nat→Prop,S=fun b=>b<wr.heap.size∧b≠mb∧b∉cs∧b≠lp:=⟨_,rfl⟩
 have inS:∀ (b:Nat) (ds:Array Value) (t:Nat),wr.heap[b]? = some (.cells ds t (0,0))→t≠144→t≠107→S b:=fun b ds t hb h144 h107=>by
  rw [hS]
  refine ⟨blk_lt hb,fun e=>?_,fun e=>?_,fun e=>?_⟩
  ·rw [e,h1.map] at hb
   injection hb with hb
   cases hb
  ·rw [(h1.st b e).1] at hb
   injection hb with hb
   injection hb with _ e _
   exact h144 e.symm
  ·rw [e,hlp] at hb
   injection hb with hb
   injection hb with _ e _
   exact h107 e.symm
 have inF:∀ b,Ft wr b→b<wr.heap.size→S b:=fun b ⟨ds,t,hb,ht⟩ _=>inS b ds t hb (fun e=>by subst e;exact absurd ht (by decide)) (fun e=>by subst e;exact absurd ht (by decide))
 have cat:∀ i,i<cs.length→cAt cs i∈cs:=fun i hi=>by simp [cAt,hi]
 refine ⟨S,lv,cv,hs,cs,⟨⟨⟨inS _ _ _ h1.ctl (by decide) (by decide),h1.ctl⟩,⟨inS _ _ _ h1.opt (by decide) (by decide),h1.opt⟩,row_F h1.lr (fun b ds hb=>inS b ds _ hb (by decide) (by decide)),row_F h1.cr (fun b ds hb=>inS b ds _ hb (by decide) (by decide)),fun i x hx=>(h4 i x hx).mono inF⟩,Nat.le_refl _,fun b hb=>?_,fun e=>?_,blk_lt h1.map,fun i hi=>⟨fun e=>?_,blk_lt (h1.st _ (cat i hi)).1⟩,⟨List.replicate cs.length (.slice none 0 0),?_⟩,⟨[],0,h1.map,rfl,fun x hx=>by cases hx⟩,fun b _=>(hG b).symm⟩,fun e=>?_,h2,hl,h3,fun b hb=>?_⟩
 ·rw [hS] at hb;exact hb.1
 ·rw [hS] at e;exact e.2.1 rfl
 ·rw [hS] at e;exact e.2.2.1 (cat i hi)
 ·have hv:∀ i,i<cs.length→vAt (List.replicate cs.length (.slice none 0 0)) i=.slice none 0 0:=fun i hi=>by simp [vAt,hi]
  refine ⟨by simp,by simp [h3],fun i hi=>⟨0,?_⟩,fun i hi=>?_,fun i j hi hj _ k hk=>?_,fun i j hi hj hne e=>?_⟩
  ·rw [hv i hi];exact (h1.st _ (cat i hi)).1
  ·rw [hv i hi]
   have:rgAt (List.replicate xs.length []) i=[]:=by simp [rgAt,show i<xs.length by omega]
   rw [this]
   exact Kd.R_nil _ _ _ _ _
  ·rw [hv i hi] at hk
   cases hk
  ·have:=List.pairwise_iff_getElem.1 h1.pw
   simp only [cAt,List.getD_eq_getElem?_getD,List.getElem?_eq_getElem hi,List.getElem?_eq_getElem hj,Option.getD_some] at e
   rcases Nat.lt_or_gt_of_ne hne with hlt | hlt
   ·exact this i j hi hj hlt e
   ·exact this j i hj hi hlt e.symm
 ·rw [hS] at e;exact e.2.2.2 rfl
 ·rw [hS]
  refine ⟨Nat.lt_of_lt_of_le hb h1.bel.size,by omega,fun e=>?_,by omega⟩
  have:=(h1.st b e).2
  omega
theorem ints63_at {l:List Int} (hl:l.length≤1000000) (hb:∀ x∈l,0≤x∧x≤4611686018427387904):∀ (m j k:Nat),j+m=l.length→m+1≤k→impl_ints_uint64.l0 k (l.take j) l (l.length:Int) (j:Int)=some l
 | 0,j,k,hj,hk=>by
  obtain ⟨k,rfl⟩ : ∃ q,k=q+1:=⟨k - 1,by omega⟩
  rw [impl_ints_uint64.l0,if_neg (by omega),List.take_of_length_le (by omega)]
 | m+1,j,k,hj,hk=>by
  obtain ⟨k,rfl⟩ : ∃ q,k=q+1:=⟨k - 1,by omega⟩
  have hjl:j<l.length:=by omega
  have hx:=hb l[j] (List.getElem_mem hjl)
  have e0:PrintWords.rd l (j:Int)=l[j]:=by simp [PrintWords.rd,hjl]
  have w1:wrap64 l[j]=l[j]:=by unfold wrap64;omega
  have w2:wrap64 ((j:Int)+1)=((j+1:Nat):Int):=by unfold wrap64;omega
  rw [impl_ints_uint64.l0,if_pos (by omega),if_pos (by omega),if_pos (by omega),if_pos (by rw [List.length_take];omega),e0,w1,w2]
  have e:l.take j++[l[j]]=l.take (j+1):=by rw [List.take_succ_eq_append_getElem hjl]
  rw [e]
  exact ints63_at hl hb m (j+1) k (by omega) (by omega)
theorem ints63 {l:List Int} (hl:l.length≤1000000) (hb:∀ x∈l,0≤x∧x≤4611686018427387904):impl_ints_uint64.f (l.length+1) l=some l:=by
 have:=ints63_at hl hb l.length 0 (l.length+1) (by omega) (by omega)
 simpa [impl_ints_uint64.f] using this
theorem parse_any {u:List UInt8} {v:Int} (h0:0≤v) (h1:v≤18446744073709551615) (hn:u.length≤100000000):∃ r,badgery_ParseTs.f (Pu.nums (u++be64b v))=some r:=by
 have e:Pu.nums (u++be64b v)=Pu.nums u++be64 v:=by
  have h:=nums_be (v:=v) h0 (by omega)
  unfold Pu.nums at h ⊢
  rw [List.map_append,h]
 rw [e]
 by_cases hu:0<u.length
 ·have h:=parseTs_f (x:=Pu.nums u) (ts:=18446744073709551615 - v) (by rw [nums_len];exact hu) (by rw [nums_len];exact hn) (by omega) (by omega)
  have et:top (18446744073709551615 - v)=v:=by unfold top;omega
  rw [et] at h
  exact ⟨_,h⟩
 ·have hu:u=[]:=List.length_eq_zero_iff.1 (by omega)
  subst hu
  have hl:(Pu.nums []++be64 v).length=8:=rfl
  refine ⟨0,?_⟩
  unfold badgery_ParseTs.f
  rw [hl]
  rfl
theorem rg_parse {ts:List Tb} (hp:0<ts.length) (hk:∀ t∈ts,KLen t):(∃ r,badgery_ParseTs.f (Pu.nums (rgOf ts).lo)=some r)∧∃ r,badgery_ParseTs.f (Pu.nums (rgOf ts).hi)=some r:=by
 cases ts with
 | nil=>simp at hp
 | cons t ts =>
  have a:=lo_len hk
  have b:=hi_len hk
  exact ⟨parse_any (by decide) (by decide) (by rw [uk_len];omega),parse_any (by decide) (by decide) (by rw [uk_len];omega)⟩
theorem key_str {w:World} {b k c:Nat} {x:List UInt8} (h:w.heap[b]? = some (keyO x)) (hk:k≤x.length):(convert 81 9 (.slice (some ⟨b,0,none⟩) k c)).run Tryz.prog w=.ok (.string (strOfNums (Pu.nums (x.take k)))) w:=by
 refine run_convert_bytes_arg w 81 5 Tryz.underlying81 Tryz.underlying5 b 0 k c (Pu.nums (x.take k)) (by rw [nums_len,List.length_take];omega) (fun i hi=>?_) 9 Tryz.underlying9
 rw [Nat.zero_add,blk_cell h]
 simp [cells,Pu.nums,bv,show i<x.length by omega,show i<k by omega]
def ints63P (l:List Int):Prop:=l.length≤1000000∧impl_ints_uint64.f (l.length+1) l=some l
theorem ints63_of {l:List Int} (hl:l.length≤1000000) (hb:∀ x∈l,0≤x∧x≤1099511627776):ints63P l:=⟨hl,ints63 hl (fun x hx=>by have:=hb x hx;omega)⟩
theorem Nb.drew {w w1:World} {g:Nat} (h:Nb w w1 g):Nb w w1.drew g:=⟨h.1.drew,h.2⟩
theorem pts_calls {w:World} {b k c:Nat} {x:List UInt8} {r:Int} (h:w.heap[b]? = some (keyO x)) (hl:x.length=k+8) (hk:k≤99999992) (hc:k+8≤c) (hr:badgery_ParseTs.f (Pu.nums x)=some r) :
  Calls Tryz.prog 65 #[.slice (some ⟨b,0,none⟩) (k+8) c] w fun e w'=>e=.returned (.int .u64 r)∧Drawn0 w w':=by
 have K:=badgery_ParseTs.calls (some ⟨b,0,none⟩) c (Pu.nums x) r w (key_C h (by omega)) (by rw [nums_len];omega) hr
 rw [nums_len,hl] at K
 exact K
theorem rg_len {ts:List Tb} (hp:0<ts.length) (hk:∀ t∈ts,KLen t):(8≤(rgOf ts).lo.length∧(rgOf ts).lo.length≤100000000)∧8≤(rgOf ts).hi.length∧(rgOf ts).hi.length≤100000000:=by
 cases ts with
 | nil=>simp at hp
 | cons t ts =>
  have a:=lo_len hk
  have b:=hi_len hk
  simp only [rgOf,List.length_append,uk_len,z8_len,f8_len]
  omega
theorem hit_nil (L i:Nat) (r:Rg):hitR (List.replicate L []) i r=false:=by
 have:rgAt (List.replicate L []) i=[]:=by
  unfold rgAt
  rw [List.getD_eq_getElem?_getD,List.getElem?_replicate]
  split<;>rfl
 unfold hitR
 rw [this]
 rfl
theorem rgs_nil (L:Nat):RgsOk (List.replicate L []):=fun l hl=>by
 rw [(List.mem_replicate.1 hl).2]
 exact ⟨by simp,fun r hr=>by cases hr⟩
theorem hd_of {hs:List Hd} {xs:List (List Tb)} {i:Nat} {l:List Tb} (h:hs.map (·.ts)=xs) (hl:xs[i]? = some l):∃ x,hs[i]? = some x∧x.ts=l:=by
 rw [← h,List.getElem?_map] at hl
 cases e:hs[i]? with
 | none=>rw [e] at hl;cases hl
 | some x =>
  rw [e] at hl
  injection hl with hl
  exact ⟨x,rfl,hl⟩
structure RuL (w15 wr:World) (k11:Nat) (f:Value→Array Value) (N:Nat) (A:Option Addr) (nn cc:Nat) (ys:List Int):Prop where
 nb:Nb w15 wr k11
 blk:wr.heap[k11]? = some (.cells (f (.slice A nn cc)) 46 (0,0))
 row:Kd.R (Kd.int .i64) 3 wr w15.heap.size (fun _=>True) (.slice A nn cc) ys
 len:ys.length≤N
theorem RuL.mono {w15 wr:World} {k11 N M:Nat} {f:Value→Array Value} {A:Option Addr} {nn cc:Nat} {ys:List Int} (h:RuL w15 wr k11 f N A nn cc ys) (hN:N≤M):RuL w15 wr k11 f M A nn cc ys:=⟨h.nb,h.blk,h.row,Nat.le_trans h.len hN⟩
theorem RuL.below {w15 wr w1:World} {k11 N:Nat} {f:Value→Array Value} {A:Option Addr} {nn cc:Nat} {ys:List Int} (h:RuL w15 wr k11 f N A nn cc ys) (hb:Below wr.heap.size wr w1):RuL w15 w1 k11 f N A nn cc ys:=⟨h.nb.trans (.of hb _),(hb.block _ (blk_lt h.blk)).trans h.blk,Kd.R_below h.row hb,h.len⟩
theorem RuL.set {w15 wr w1:World} {k11 N:Nat} {f:Value→Array Value} {A A2:Option Addr} {nn cc n2 c2:Nat} {ys:List Int} {y:Int} (h:RuL w15 wr k11 f N A nn cc ys) (hf:∀ v u,(f v).setIfInBounds 10 u=f u) (hr:Kd.R (Kd.int .i64) 3 w1 w15.heap.size (fun _=>True) (.slice A2 n2 c2) (ys++[y])) (hg:wr.grownBy w1 (Value.slice A nn cc).ownBlock):RuL w15 (w1.setCell ⟨k11,10,none⟩ (.slice A2 n2 c2)) k11 f (N+1) A2 n2 c2 (ys++[y]):=by
 have hb:w1.heap[k11]? = some (.cells (f (.slice A nn cc)) 46 (0,0)):=(hg.block k11 (blk_lt h.blk) (fun e=>by
  obtain ⟨cs2,hc2⟩:=Kd.R_typed h.row k11 e.symm
  rw [h.blk] at hc2
  injection hc2 with hc2
  injection hc2 with _ e _
  exact absurd e (by decide))).trans h.blk
 refine ⟨Nb.set ⟨h.nb.1.trans ((Below.refl 0 wr).grown hg (Nat.zero_le _) (fun _ _=>Nat.zero_le _)),fun b hb2 hne=>?_⟩ 10 _,?_,Kd.R_set hr hb (by intro q hq;have:q∈[3]:=hq;rw [List.mem_singleton.1 this];decide) 10 _,by rw [List.length_append];exact Nat.succ_le_succ h.len⟩
 ·refine (hg.block b (Nat.lt_of_lt_of_le hb2 h.nb.1.size) (fun e=>?_)).trans (h.nb.2 b hb2 hne)
  have:=Kd.R_base h.row b e.symm
  omega
 ·have h2:=blk_set hb 10 (.slice A2 n2 c2)
  rw [hf] at h2
  exact h2
end Go.Proofs.YtnineoajmgneiaaGreat.Rg
namespace Go.Proofs.YtnineoajmgneiaaGreat.Rg
open Lib (hid)
open List renaming setIfInBounds_toArray → zA,set_cons_zero → zB,set_cons_succ → zC
open Go.RowKit YtnineoajmgneiaaGreatW YtnineoajmgneiaaGreatW.PrintWords YtnineoajmgneiaaGreatW.PrintLast YtnineoajmgneiaaGreatW.PrintMore Fr L Ky Tm Lm It Nw Bd Tp Pu Pt Rn
/-- A step's float. -/
def FloatH (tn:Int) (sc:Nat):Prop:=∃ fx,(∀ W:World,(convert 3 62 (.int .i64 tn)).run Tryz.prog W=.ok (.float .f64 fx) W)∧∀ W:World,(binOp .quo 62 (.float .f64 fx) (.float .f64 4621819117588971520)).run Tryz.prog W=.ok (.float .f64 sc) W
def FillH (xs:List (List Tb)) (o:Lm.Op) (F:PS→S42→Option Ch) (s:S42) (sc:Nat) (st:PS):Prop:=
 ∀ (gh:Ghost) (w:World) (S:Nat→Prop) (n0 lp sb ob mb:Nat) (lv cv:Value) (hs:List Hd) (cs:List Nat),hs.map (·.ts)=xs→hs.length=cs.length→Sta w S n0 lp sb ob mb lv cv hs cs o st →
  Calls Tryz.prog 62 #[.pointer (some ⟨lp,0,none⟩),.int .i64 s.f1,.int .i64 s.f2,.float .f64 sc,.slice none 0 0] w (FillG w S n0 lp sb ob mb lv cv hs cs o st s.f1.toNat (F st s))
def DoneP [Ghost] (w:World) (S:Nat→Prop) (n0 lp sb ob mb:Nat) (lv cv:Value) (hs:List Hd) (cs:List Nat) (o:Lm.Op) (st:PS) (r:Option PS) (e:Ending) (w':World):Prop:=
 FrS w w'∧match r with
 | none=>e=.returned (.bool false)∧Sta w' S n0 lp sb ob mb lv cv hs cs o st
 | some st'=>e=.returned (.bool true)∧Sta w' S n0 lp sb ob mb lv cv hs cs o st'
def DoneH (xs:List (List Tb)) (o:Lm.Op) (D:PS→S42→Option PS) (s:S42) (st:PS):Prop:=
 ∀ (gh:Ghost) (w:World) (S:Nat→Prop) (n0 lp sb ob mb:Nat) (lv cv:Value) (hs:List Hd) (cs:List Nat),hs.map (·.ts)=xs→hs.length=cs.length→Sta w S n0 lp sb ob mb lv cv hs cs o st →
  Calls Tryz.prog 66 #[.pointer (some ⟨lp,0,none⟩),.int .i64 s.f4] w (DoneP w S n0 lp sb ob mb lv cv hs cs o st (D st s))
/-- What is asked of a step, from where it is taken. -/
structure StepH (xs:List (List Tb)) (o:Lm.Op) (F:PS→S42→Option Ch) (D:PS→S42→Option PS) (s:S42) (st:PS):Prop where
 fl:∃ sc,FloatH s.f3 sc∧(s.f0=0→FillH xs o F s sc st)
 dn:s.f0≠0→s.f0=1∧DoneH xs o D s st
 ch:∀ x,F st s=some x→ChOk xs st x
 dt:∀ n st',PInv xs.length n st→D st s=some st'→PInv xs.length (n+1) st'
theorem step_inv {xs:List (List Tb)} {o:Lm.Op} {F:PS→S42→Option Ch} {D:PS→S42→Option PS} {s:S42} {n:Nat} {st:PS} (h:StepH xs o F D s st) (hk:∀ l∈xs,∀ t∈l,KLen t) (hi:PInv xs.length n st):PInv xs.length (n+1) (stepF F D st s).1:=by
 unfold stepF
 split
 ·split
  ·exact hi.mono (by omega)
  ·rename_i x hx
   exact hi.add (h.ch _ hx) hk
 ·split
  ·split
   ·exact hi.mono (by omega)
   ·rename_i st' hx
    exact h.dt _ _ hi hx
  ·exact hi.mono (by omega)
theorem step_done {F:PS→S42→Option Ch} {D:PS→S42→Option PS} {st:PS} {s:S42} (h:s.f0=1):stepF F D st s=match D st s with
  | none=>(st,noC false)
  | some st'=>(st',noC true):=by
 unfold stepF
 rw [if_neg (by omega),if_pos h]
 cases D st s<;>rfl
theorem cho_ys (n:Nat) (x:Ch) (ys:List Int):choC n x ys = { choC n x [] with f10:=ys }:=by
 unfold choC
 split<;>rfl
theorem step_ys (F:PS→S42→Option Ch) (D:PS→S42→Option PS) (st:PS) (s:S42) (ys:List Int):(stepF F D st s).2 ys = { (stepF F D st s).2 [] with f10:=ys }:=by
 unfold stepF
 split
 ·split
  ·rfl
  ·exact cho_ys _ _ _
 ·split
  ·split<;>rfl
  ·rfl
/-- All that was there ahead of the levels is as it was. -/
theorem cor_old [Ghost] {w w2 wr:World} {S:Nat→Prop} {n0 sb ob mb:Nat} {lv cv:Value} {hs:List Hd} {cs:List Nat} {o:Lm.Op} {rgs:List (List Rg)} {run:List Int} (h:Cor wr S n0 sb ob mb lv cv hs cs o rgs run) (hG:∀ b,Ghost.g b=w2.heap[b]?) (hS:∀ b,b<w.heap.size→S b) (hB:Below w.heap.size w w2) (hb:Below 0 w wr):Below w.heap.size w wr:=
 ⟨hb.os,hb.tape,hb.output,hb.size,fun b hl=>((h.ke b (hS b hl)).trans (hG b)).trans (hB.block b hl)⟩
theorem row68 {w:World} {A:Option Addr} {ls:List (List S68)} (h:Kd.C (Kd.slice 68 k68) w A ls.length ls) {i:Nat} (hi:i<ls.length):∃ ad A9 c9,A=some ad∧w.cell? (ad.add i)=some (.slice A9 (ls.getD i []).length c9)∧(ls.getD i []).length≤c9∧k68.C w A9 (ls.getD i []).length (ls.getD i []):=by
 obtain ⟨ad,c,e,_,hK,hc0⟩:=Kd.C_get h [] (i:Int) (by omega) (by omega)
 obtain ⟨A9,c9,ec,h1,h2⟩:=hK
 rw [ec] at hc0
 have h3:=hc0 0 _ rfl
 rw [Int.toNat_natCast] at h1 h2 h3
 exact ⟨ad,A9,c9,e,by simpa [Kd.slice] using h3,h1,h2⟩
def bkC (x:S46) (A3:Option Addr) (n3 c3:Nat) (A4:Option Addr) (n4 c4:Nat) (v:Value):Array Value:=#[.bool x.f0,.int .i64 x.f1,.int .i64 x.f2,.slice A3 n3 c3,.slice A4 n4 c4,.string x.f5,.int .i64 x.f6,.string x.f7,.int .i64 x.f8,.bool x.f9,v]
/-- What is told of a step, but for the tables that run. -/
def ChoM (wr wc:World) (k11:Nat) (x:S46):Prop:=∃ A3 n3 c3 A4 n4 c4,wc.heap[k11]? = some (.cells (bkC x A3 n3 c3 A4 n4 c4 (.slice none 0 0)) 46 (0,0))∧Kd.R (Kd.int .i64) 3 wc wr.heap.size (fun _=>True) (.slice A3 n3 c3) x.f3∧Kd.R (Kd.int .i64) 3 wc wr.heap.size (fun _=>True) (.slice A4 n4 c4) x.f4
theorem r46_keep {w w1:World} {n0:Nat} {v:Value} {xs:List S46} (h:Kd.R k46 46 w n0 (fun _=>True) v xs) (hk:FrS w w1):Kd.R k46 46 w1 n0 (fun _=>True) v xs:=
 Kd.R_mono (Kd.R_step (Kd.R_bound h) (fun k hk2 hl=>by
  obtain ⟨_,_,hlt,q,hq,cells,hc⟩:=hk2
  have hqE:∀ q∈46 :: k46.E,q∉[144,126,107,114,140]:=by decide
  exact hk.2 k cells q hc (hqE q hq))) (fun _ _=>trivial)
theorem FrS.nb {w w1 w2:World} {g:Nat} (h:FrS w w1) (hn:Nb w1 w2 g) (hg:w.heap.size≤g):FrS w w2:=⟨h.1.trans hn.1,fun b arr t hb ht=>by
 have hl:=blk_lt hb
 exact (hn.2 b (Nat.lt_of_lt_of_le hl h.1.size) (by omega)).trans (h.2 b arr t hb ht)⟩
theorem Sta.nb [Ghost] {w w1:World} {S:Nat→Prop} {n0 lp sb ob mb g:Nat} {lv cv:Value} {hs:List Hd} {cs:List Nat} {o:Lm.Op} {st:PS} {arr:Array Value} (h:Sta w S n0 lp sb ob mb lv cv hs cs o st) (hn:Nb w w1 g) (hb:w.heap[g]? = some (.cells arr 46 (0,0))) (hg:n0≤g):Sta w1 S n0 lp sb ob mb lv cv hs cs o st:=
 h.keep (h.cor.far hb (by decide) (fun hS=>by have:=h.cor.lt _ hS;omega) hn.1.size hn.2) (fun b arr t hb2 ht=>hn.ty hb b arr t hb2 (fun e=>by rw [e] at ht;exact absurd ht (by decide)))
/-- The tables of a level that run, one after the other. -/
def rnn (run:List Int) (l:List S68):List Int:=(l.map (·.f0)).filter fun k=>decide (k∈run)
theorem rnn_app (run:List Int) (l m:List S68):rnn run (l++m)=rnn run l++rnn run m:=by simp [rnn]
theorem runs_rnn (ls:List (List S68)) (run:List Int):runs ls run=rnn run ls.flatten:=rfl
theorem flat_take {ls:List (List S68)} {i:Nat} (h:i<ls.length):(ls.take (i+1)).flatten=(ls.take i).flatten++ls.getD i []:=by
 rw [List.take_succ_eq_append_getElem h,List.flatten_append]
 simp [h]
theorem take_at {l:List S68} {j:Nat} (h:j<l.length):l.take (j+1)=l.take j++[l.getD j z68]:=by
 rw [List.take_succ_eq_append_getElem h]
 simp [h]
theorem take_st {l:List S42} {j:Nat} (h:j<l.length):l.take (j+1)=l.take j++[l.getD j z42]:=by
 rw [List.take_succ_eq_append_getElem h]
 simp [h]
/-- The row of what is told, as far as it is told. -/
structure RuX (w15 wr:World) (k11:Nat) (f:Value→Array Value) (N:Nat) (A:Option Addr) (nn cc:Nat) (ys:List Int):Prop where
 u:RuL w15 wr k11 f N A nn cc ys
set_option maxRecDepth 100000 in
set_option maxHeartbeats 4000000 in
theorem runs_calls {w:World} {A0 As:Option Addr} {c0 cs0:Nat} {ls:List (List S68)} {ss:List S42} {m a b c d e f g:Int} {xs:List (List Tb)} {F:PS→S42→Option Ch} {D:PS→S42→Option PS}
  (hxs:xs=ls.map (·.map tbOf)) (hC:Kd.C (Kd.slice 68 k68) w A0 ls.length ls) (hS:Kd.C k42 w As ss.length ss) (hc0:ls.length≤c0) (hm:m=(xs.length:Int)) (hx:ls.length≤100) (h2:2≤ls.length) (hlen:∀ l∈ls,l.length≤10000)
  (hin:∀ l∈ls,∀ t∈l,InTab t) (hord:∀ (i:Nat) (l:List Tb),xs[i]? = some l→Od.SW l.length (It.ltOf i l)∧Od.ord l.length (It.ltOf i l)=List.range l.length) (hg:IntKind.u64.wrap g=g) (hk:∀ l∈xs,∀ t∈l,KLen t)
  (hss:ss.length≤200000) (hst:∀ j s,ss[j]? = some s→PInv xs.length j (runS F D (st0 xs.length) (ss.take j))→StepH xs ⟨m,a,b,c,d,e,f,g⟩ F D s (runS F D (st0 xs.length) (ss.take j))) :
  Calls Tryz.prog 55 #[.slice A0 ls.length c0,.agg #[.int .i64 m,.int .i64 a,.int .i64 b,.int .i64 c,.int .i64 d,.int .i64 e,.int .i64 f,.int .i64 g],.slice As ss.length cs0] w fun e w'=>∃ v,e=.returned v∧Kd.R k46 46 w' w.heap.size (fun _=>True) v (runF F D ls (st0 xs.length) ss)∧Below w.heap.size w w':=by
 have HXL:=hid (show xs.length=ls.length by rw [hxs,List.length_map])
 have HTB:=hid (show ∀ l∈xs,l.length≤10000∧∀ t∈l,Fit t by
  intro l hl
  rw [hxs] at hl
  obtain ⟨l0,h0,rfl⟩:=List.mem_map.1 hl
  refine ⟨by rw [List.length_map];exact hlen l0 h0,fun t ht=>?_⟩
  obtain ⟨t0,h1,rfl⟩:=List.mem_map.1 ht
  exact (tb_ok (hin l0 h0 t0 h1)).2)
 have HNUM:=hid (show ∀ l∈xs,∀ t∈l,0≤t.num∧t.num≤1099511627776 by
  intro l hl t ht
  rw [hxs] at hl
  obtain ⟨l0,h0,rfl⟩:=List.mem_map.1 hl
  obtain ⟨t0,h1,rfl⟩:=List.mem_map.1 ht
  exact (hin l0 h0 t0 h1).n0)
 have HLS:=hid (show ∀ l∈ls,l.length≤10000∧∀ t∈l,InTab t from fun l hl=>⟨hlen l hl,hin l hl⟩)
 have KB:=hid (fun (W:World) (hW:Below w.heap.size w W)=>build_calls (w:=W) (m:=m) (a:=a) (b:=b) (c:=c) (d:=d) (e:=e) (f:=f) (g:=g) hxs (Kd.C_below hC hW) hc0 hm hx (fun l hl=>by have:=hlen l hl;omega) hin hord hg)
 have HC:=hid hC
 have HSS:=hid hS
 have HX:=hid (show 2≤ls.length∧ls.length≤100∧ls.length≤c0∧ss.length≤200000 from ⟨h2,hx,hc0,hss⟩)
 have HK:=hid hk
 have HST:=hid hst
 obtain ⟨Q,hQ⟩ : ∃ Q:Ending→World→Prop,Q=fun e w'=>∃ v,e=.returned v∧Kd.R k46 46 w' w.heap.size (fun _=>True) v (runF F D ls (st0 xs.length) ss)∧Below w.heap.size w w':=⟨_,rfl⟩
 rw [← hQ]
 have HQ:=hid hQ
 clear hQ hxs hC hS hc0 hm hx h2 hlen hin hord hg hk hss hst
 go_enter Tryz.func55,Tryz.ntmps55
 go_upto_region 1 with (fail)
 obtain ⟨w1,hw1⟩ : ∃ w1,w1=w.alloc (.cells #[.int .i64 m,.int .i64 a,.int .i64 b,.int .i64 c,.int .i64 d,.int .i64 e,.int .i64 f,.int .i64 g] 24):=⟨_,rfl⟩
 rw [← hw1]
 obtain ⟨b4,hb4⟩ : ∃ b4,b4=w.heap.size:=⟨_,rfl⟩
 rw [← hb4]
 have HB1:=hid (show Below w.heap.size w w1 by rw [hw1];exact below_alloc (Below.refl _ _) _)
 have HO4:=hid (show w1.heap[b4]? = some (.cells #[.int .i64 m,.int .i64 a,.int .i64 b,.int .i64 c,.int .i64 d,.int .i64 e,.int .i64 f,.int .i64 g] 24 (0,0)) by rw [hw1,hb4];exact blk_new w _)
 clear hw1 hb4
 have o0:=blk_cell HO4.out 0
 have o1:=blk_cell HO4.out 1
 have o2:=blk_cell HO4.out 2
 have o3:=blk_cell HO4.out 3
 have o4:=blk_cell HO4.out 4
 have o5:=blk_cell HO4.out 5
 have o6:=blk_cell HO4.out 6
 have o7:=blk_cell HO4.out 7
 go_wp2_with fail
 refine (KB.out w1 HB1.out).mono ?_
 rintro e2 w2 ⟨W,hW,lp,sb,ob,mb,rfl,hnr,hlp,hl1,hl2⟩
 have HB2:=hid (show Below w.heap.size w w2 by
  obtain ⟨lv,cv,hs,cs,hq1,hq2,hq3,hq4⟩:=hnr
  exact below_step HB1.out (hW.trans (hq1.bel.mono hW.size)))
 obtain ⟨gh,hgh⟩ : ∃ gh:Ghost,∀ b,gh.g b=w2.heap[b]?:=⟨⟨fun b=>w2.heap[b]?⟩,fun _=>rfl⟩
 obtain ⟨S,lv,cv,hs,cs,hcor,hSl,hts,hhl,hcl,hsa⟩:=cor_new hnr hl2 hlp hl1 hgh
 have HSA:=hid (show ∀ b,b<w.heap.size→S b from fun b hb=>hsa b (Nat.lt_of_lt_of_le hb (Nat.le_trans HB1.out.size hW.size)))
 have HGH:=hid hgh
 have HTS:=hid hts
 have HHL:=hid (show hs.length=ls.length∧hs.length=cs.length from ⟨hhl.trans HXL.out,hhl.trans hcl.symm⟩)
 obtain ⟨n0,hn0⟩ : ∃ n0,n0=w2.heap.size:=⟨_,rfl⟩
 rw [← hn0] at hcor
 have HN0:=hid hn0
 have HS2:=hid (show Sta w2 S n0 lp sb ob mb lv cv hs cs ⟨m,a,b,c,d,e,f,g⟩ (st0 xs.length) from ⟨hcor,hSl,none,0,0,[],hlp,Kd.R_nil _ _ _ _ _,rfl,fun d hd=>(by cases hd),fun j l d f hj=>(by cases hj)⟩)
 clear hW hnr hlp hl1 hl2 hcor hSl hts hhl hcl hsa hgh o0 o1 o2 o3 o4 o5 o6 o7 HO4 KB hn0
 simp only [ptr]
 go_upto_region 3 with (first | ((with_reducible refine gate_dst (N:=21) rfl ?_);refine Kd.R_lit k46 (w0:=w2) w2.heap.size 46 ?hg (N:=21) ?hd (xs:=([]:List S46)) (inner:=[]) (ok:=fun _=>True) (okp:=fun _=>True) ?hr ?hp (fun _ hk=>hk) trivial (Below.refl _ _) (Nat.le_refl _) (by simp) ?_;(case hd=>rfl);(case hg=>rfl);(case hr=>first | (go_simp;done) | (go_simp;rfl));(case hp=>exact (Reps.none _ _));intro v8 w3 ho hb hg_ hnew_;have HR3:=hid ho;have HB3:=hid hb;clear hg_ hnew_ ho hb))
 obtain ⟨n8,A8,c8,hv8⟩ : ∃ n A c,v8=.slice A n c:=(by obtain ⟨A,c,e⟩:=Kd.R_slice HR3.out;exact ⟨_,A,c,e⟩)
 subst hv8
 go_wp2_with fail
 go_loopg [8,24] ss.length (fun kq v8 v24 wr=>∃ (j:Nat) (n8:Nat) (A8:Option Addr) (c8:Nat),v8=.slice A8 n8 c8∧v24=.int .i64 (j:Int)∧Aside0 (j+kq=ss.length∧Below 0 w2 wr∧Sta wr S n0 lp sb ob mb lv cv hs cs ⟨m,a,b,c,d,e,f,g⟩ (runS F D (st0 xs.length) (ss.take j))∧PInv xs.length j (runS F D (st0 xs.length) (ss.take j))∧Kd.R k46 46 wr n0 (fun _=>True) (.slice A8 n8 c8) (runF F D ls (st0 xs.length) (ss.take j))))
 case atStart=>exact ⟨0,n8,A8,c8,rfl,rfl,⟨by omega,HB3.out.mono (Nat.zero_le _),HS2.out.below HB3.out,inv0 _,by rw [HN0.out];exact HR3.out⟩⟩
 case round =>
  clear HR3 HB3 HS2
  obtain ⟨wo,rfl⟩ : ∃ wo,wo=wr:=⟨_,rfl⟩
  obtain ⟨gs,rfl⟩ : ∃ gs,gs=gk:=⟨_,rfl⟩
  obtain ⟨j,n8,A8,c8,rfl,rfl,HJ⟩:=hrel
  have HJK:=hid HJ.out.1
  have HBR:=hid HJ.out.2.1
  have HSR:=hid HJ.out.2.2.1
  have HPI:=hid HJ.out.2.2.2.1
  have HR8:=hid HJ.out.2.2.2.2
  have HOR:=hid (cor_old HJ.out.2.2.1.cor HGH.out HSA.out HB2.out ((HB2.out.mono (Nat.zero_le _)).trans HJ.out.2.1))
  clear HJ
  by_cases hj:j<ss.length
  ·have d1:decide ((j:Int)<(ss.length:Int))=true:=decide_eq_true (by omega)
   have sj:IntKind.i64.wrap ((j:Int)+1)=((j+1:Nat):Int):=by rw [IntWalk.i64_in _ (by have:=HX.out;omega)];omega
   have HGS:=hid (show gs - 1<gs∧j+1+(gs - 1)=ss.length by have:=HJK.out;omega)
   obtain ⟨ad1,hA1,k0,k1,k2,k3,k4⟩:=at_T42 (Kd.C_below HSS.out HOR.out) (j:Int) (by omega) (by omega)
   subst hA1
   have e0:rd_T42 ss (j:Int)=ss.getD j z42:=by unfold rd_T42;rw [Int.toNat_natCast]
   rw [e0] at k0 k1 k2 k3 k4
   rw [Int.toNat_natCast] at k0 k1 k2 k3 k4
   have HSM:=hid (HST.out j (ss.getD j z42) (by simp [hj]) HPI.out)
   have HTK:=hid (take_st hj)
   clear e0
   generalize ss.getD j z42=s at *
   obtain ⟨g0,g1,g2,g3,g4⟩:=s
   dsimp only at k0 k1 k2 k3 k4
   generalize hst:runS F D (st0 xs.length) (ss.take j)=st at *
   have HRS:=hid hst
   clear hst
   go_upto_region 7 with (fail)
   obtain ⟨w4,hw4⟩ : ∃ w4,w4=(wo.alloc (.cells #[.int .i64 g0,.int .i64 g1,.int .i64 g2,.int .i64 g3,.int .i64 g4] 42)).alloc (.cells #[.bool false,.int .i64 0,.int .i64 0,.slice none 0 0,.slice none 0 0,.string ⟨#[]⟩,.int .i64 0,.string ⟨#[]⟩,.int .i64 0,.bool false,.slice none 0 0] 46):=⟨_,rfl⟩
   rw [← hw4]
   obtain ⟨k10,hk10⟩ : ∃ b,b=wo.heap.size:=⟨_,rfl⟩
   obtain ⟨k11,hk11⟩ : ∃ b,b=wo.heap.size+1:=⟨_,rfl⟩
   rw [← hk11,← hk10]
   have HB4:=hid (show Below wo.heap.size wo w4 by rw [hw4];exact below_alloc (below_alloc (Below.refl _ _) _) _)
   have HX4:=hid (show w4.heap[k11]? = some (.cells #[.bool false,.int .i64 0,.int .i64 0,.slice none 0 0,.slice none 0 0,.string ⟨#[]⟩,.int .i64 0,.string ⟨#[]⟩,.int .i64 0,.bool false,.slice none 0 0] 46 (0,0)) by
    have h:=blk_new (wo.alloc (.cells #[.int .i64 g0,.int .i64 g1,.int .i64 g2,.int .i64 g3,.int .i64 g4] 42)) (.cells #[.bool false,.int .i64 0,.int .i64 0,.slice none 0 0,.slice none 0 0,.string ⟨#[]⟩,.int .i64 0,.string ⟨#[]⟩,.int .i64 0,.bool false,.slice none 0 0] 46)
    rw [hw4,hk11]
    simpa using h)
   have HY4:=hid (show w4.heap[k10]? = some (.cells #[.int .i64 g0,.int .i64 g1,.int .i64 g2,.int .i64 g3,.int .i64 g4] 42 (0,0)) by
    have h:=blk_new wo (.cells #[.int .i64 g0,.int .i64 g1,.int .i64 g2,.int .i64 g3,.int .i64 g4] 42)
    rw [hw4,hk10]
    exact ((below_alloc (Below.refl _ _) _).block _ (blk_lt h)).trans h)
   have HKK:=hid (show k10<k11∧wo.heap.size≤k10∧n0≤wo.heap.size from ⟨by omega,by omega,HSR.out.cor.nb⟩)
   have HS4:=hid (HSR.out.below HB4.out)
   clear hw4 hk10 hk11 k0 k1 k2 k3 k4
   have l0:=blk_cell HY4.out 0
   have l1:=blk_cell HY4.out 1
   have l2:=blk_cell HY4.out 2
   have l3:=blk_cell HY4.out 3
   have l4:=blk_cell HY4.out 4
   go_upto_block 2 with (fail)
   go_cut [12,13] from 31 to 95 (fun v12 v13 wc=>∃ c5:S46,c5=(stepF F D st ⟨g0,g1,g2,g3,g4⟩).2 []∧Aside0 (ChoM wo wc k11 c5∧Sta wc S n0 lp sb ob mb lv cv hs cs ⟨m,a,b,c,d,e,f,g⟩ (stepF F D st ⟨g0,g1,g2,g3,g4⟩).1∧FrS wo wc))
   case first =>
    obtain ⟨ch,hch⟩ : ∃ c,c=F st ⟨g0,g1,g2,g3,g4⟩:=⟨_,rfl⟩
    have HCH:=hid hch
    by_cases hg0:g0=0
    ·subst hg0
     obtain ⟨sc,⟨fx,xcv,xq⟩,hfi⟩:=HSM.out.fl
     have K:=hfi rfl gh w4 S n0 lp sb ob mb lv cv hs cs HTS.out HHL.out.2 HS4.out
     rw [← hch] at K
     have K62:=hid K
     have hsf:=step_fill (F:=F) (D:=D) (st:=st) (s:=⟨0,g1,g2,g3,g4⟩) rfl
     rw [← hch] at hsf
     have HSF:=hid hsf
     clear K hfi hch hsf
     go_wp2_with fail
     refine K62.out.mono ?_
     intro e5 w5 hp
     obtain ⟨hfr,hp⟩:=hp
     have HFR:=hid hfr
     have HX5:=hid ((hfr.2 k11 _ _ HX4.out (by decide)).trans HX4.out)
     have HFO:=hid ((FrS.of HB4.out).trans hfr)
     clear hfr K62 xcv xq l0 l1 l2 l3 l4 HX4 HY4
     cases ch with
     | none =>
      obtain ⟨rfl,hs5⟩:=hp
      have HS5:=hid hs5
      clear hs5
      simp only [z84]
      go_upto_region 10 with (fail)
      obtain ⟨w6,hw6⟩ : ∃ w6,w6=w5.alloc (.cells #[.int .i64 0,.int .i64 0,.slice none 0 0,.slice none 0 0,.slice none 0 0,.slice none 0 0,.slice none 0 0,.slice none 0 0,.bool false,.slice none 0 0] 84):=⟨_,rfl⟩
      rw [← hw6]
      have HB6:=hid (show Below w5.heap.size w5 w6 by rw [hw6];exact below_alloc (Below.refl _ _) _)
      have HX6:=hid ((HB6.out.block _ (blk_lt HX5.out)).trans HX5.out)
      have x0:w6.cell? ⟨k11,0,none⟩=some (.bool false):=blk_cell HX6.out 0
      have y0:=blk_frozen HX6.out 0
      clear hw6
      go_upto_region 11 with (fail)
      obtain ⟨w7,hw7⟩ : ∃ w7,w7=w6.setCell ⟨k11,0,none⟩ (.bool false):=⟨_,rfl⟩
      rw [← hw7]
      have HN7:=hid (show Nb w6 w7 k11 by rw [hw7];exact (Nb.refl w6 k11).set 0 _)
      have HX7:=hid (show w7.heap[k11]? = some (.cells #[.bool false,.int .i64 0,.int .i64 0,.slice none 0 0,.slice none 0 0,.string ⟨#[]⟩,.int .i64 0,.string ⟨#[]⟩,.int .i64 0,.bool false,.slice none 0 0] 46 (0,0)) by
       rw [hw7]
       have h:=blk_set HX6.out 0 (.bool false)
       simpa using h)
      have HEND:=hid (show ChoM wo w7 k11 (noC false [])∧Sta w7 S n0 lp sb ob mb lv cv hs cs ⟨m,a,b,c,d,e,f,g⟩ st∧FrS wo w7 from ⟨⟨none,0,0,none,0,0,HX7.out,Kd.R_nil _ _ _ _ _,Kd.R_nil _ _ _ _ _⟩,(HS5.out.below HB6.out).nb HN7.out HX6.out (by have:=HKK.out;omega),(HFO.out.trans (FrS.of HB6.out)).nb HN7.out (by have:=HKK.out;omega)⟩)
      clear hw7 x0 y0
      go_wp2_with fail
      go_meet
      case rel=>exact ⟨_,rfl,⟨by rw [HSF.out];exact HEND.out⟩⟩
     | some x =>
      obtain ⟨v1,v2,v3,a1,b1,a2,b2,rfl,q1,q2,⟨A3,m3,c3,rfl⟩,q3,q4,q5⟩:=hp
      have HOKX:=hid (HSM.out.ch _ HCH.out.symm)
      obtain ⟨m1,A1,c1,hv1⟩ : ∃ n A c,v1=.slice A n c:=(by obtain ⟨A,c,e⟩:=Kd.R_slice q1;exact ⟨_,A,c,e⟩)
      obtain ⟨m2,A2,c2,hv2⟩ : ∃ n A c,v2=.slice A n c:=(by obtain ⟨A,c,e⟩:=Kd.R_slice q2;exact ⟨_,A,c,e⟩)
      subst hv1
      subst hv2
      have em1:m1=(nms x.T).length:=(Kd.R_reads' q1).1
      have em2:m2=(nms x.B).length:=(Kd.R_reads' q2).1
      subst em1
      subst em2
      have HV1:=hid q1
      have HV2:=hid q2
      have HK1:=hid q3
      have HK2:=hid q4
      have HS5:=hid q5
      have hTm:∀ t∈x.T++x.B,0≤t.num∧t.num≤1099511627776:=fun t ht=>by
       obtain ⟨l,hl,h2⟩:=HOKX.out.tb t ht
       exact HNUM.out l hl t h2
      have HT63:=hid (show ints63P (nms x.T)∧ints63P (nms x.B) from ⟨ints63_of (by unfold nms;rw [List.length_map];have:=HOKX.out.lt.2;omega) (fun y hy=>by
       obtain ⟨t,ht,rfl⟩:=List.mem_map.1 hy
       exact hTm t (List.mem_append_left _ ht)),ints63_of (by unfold nms;rw [List.length_map];have:=HOKX.out.lb;omega) (fun y hy=>by
       obtain ⟨t,ht,rfl⟩:=List.mem_map.1 hy
       exact hTm t (List.mem_append_right _ ht))⟩)
      clear q1 q2 q3 q4 q5 hTm
      obtain ⟨LT,hLT⟩ : ∃ L,L=nms x.T:=⟨_,rfl⟩
      obtain ⟨LB,hLB⟩ : ∃ L,L=nms x.B:=⟨_,rfl⟩
      rw [← hLT] at HV1 HT63
      rw [← hLB] at HV2 HT63
      rw [← hLT,← hLB]
      obtain ⟨dl,hdl⟩ : ∃ d,d=st.ds.length:=⟨_,rfl⟩
      rw [← hdl]
      have HCC:=hid (show ∀ ys,choC st.ds.length x ys=if x.r1.inf then ⟨true,(dl:Int),(x.k:Int),LT,LB,⟨#[]⟩,0,⟨#[]⟩,0,true,ys⟩ else ⟨true,(dl:Int),(x.k:Int),LT,LB,txt x.r1.lo,pts x.r1.lo,txt x.r1.hi,pts x.r1.hi,false,ys⟩ from fun ys=>by rw [hLT,hLB,hdl];rfl)
      clear hLT hLB hdl
      go_upto_region 10 with (fail)
      obtain ⟨w6,hw6⟩ : ∃ w6,w6=w5.alloc (.cells #[.int .i64 (dl:Int),.int .i64 (x.k:Int),.slice A1 LT.length c1,.slice A2 LB.length c2,.slice a1 x.r1.lo.length x.r1.lo.length,.slice b1 x.r1.hi.length x.r1.hi.length,.slice a2 x.r2.lo.length x.r2.lo.length,.slice b2 x.r2.hi.length x.r2.hi.length,.bool x.r1.inf,.slice A3 m3 c3] 84):=⟨_,rfl⟩
      rw [← hw6]
      obtain ⟨k12,hk12⟩ : ∃ b,b=w5.heap.size:=⟨_,rfl⟩
      rw [← hk12]
      have HB6:=hid (show Below w5.heap.size w5 w6 by rw [hw6];exact below_alloc (Below.refl _ _) _)
      have HZ6:=hid (show w6.heap[k12]? = some (.cells #[.int .i64 (dl:Int),.int .i64 (x.k:Int),.slice A1 LT.length c1,.slice A2 LB.length c2,.slice a1 x.r1.lo.length x.r1.lo.length,.slice b1 x.r1.hi.length x.r1.hi.length,.slice a2 x.r2.lo.length x.r2.lo.length,.slice b2 x.r2.hi.length x.r2.hi.length,.bool x.r1.inf,.slice A3 m3 c3] 84 (0,0)) by rw [hw6,hk12];exact blk_new w5 _)
      clear hw6 hk12
      have HX6:=hid ((HB6.out.block _ (blk_lt HX5.out)).trans HX5.out)
      have HB6s:=hid HB6.out.size
      have hkk:k12≠k11:=fun e=>by
       have h:=HZ6.out
       rw [e,HX6.out] at h
       injection h with h
       injection h with _ e _
       exact absurd e (by decide)
      have x0:=blk_cell HX6.out 0
      have y0:=blk_frozen HX6.out 0
      go_upto_region 12 with (fail)
      obtain ⟨w7,hw7⟩ : ∃ w7,w7=w6.setCell ⟨k11,0,none⟩ (.bool true):=⟨_,rfl⟩
      rw [← hw7]
      have HN7:=hid (show Nb w6 w7 k11 by rw [hw7];exact (Nb.refl w6 k11).set 0 _)
      have HX7:=hid (show w7.heap[k11]? = some (.cells #[.bool true,.int .i64 0,.int .i64 0,.slice none 0 0,.slice none 0 0,.string ⟨#[]⟩,.int .i64 0,.string ⟨#[]⟩,.int .i64 0,.bool false,.slice none 0 0] 46 (0,0)) by
       rw [hw7]
       have h:=blk_set HX6.out 0 (.bool true)
       simpa using h)
      clear hw7 x0 y0
      have HZ7:=hid ((HN7.out.2 k12 (blk_lt HZ6.out) hkk).trans HZ6.out)
      have u0:w7.cell? ⟨k12,0,none⟩=some (.int .i64 (dl:Int)):=blk_cell HZ7.out 0
      have u1:w7.cell? ⟨k12,1,none⟩=some (.int .i64 (x.k:Int)):=blk_cell HZ7.out 1
      have u8:w7.cell? ⟨k12,8,none⟩=some (.bool x.r1.inf):=blk_cell HZ7.out 8
      have x1:=blk_cell HX7.out 1
      have x2:=blk_cell HX7.out 2
      have x9:=blk_cell HX7.out 9
      have y1:=blk_frozen HX7.out 1
      have y2:=blk_frozen HX7.out 2
      have y9:=blk_frozen HX7.out 9
      refine start_ (n:=12) (S:=fun w'=>w'.cell? ⟨k12,0,none⟩=some (.int .i64 (dl:Int))∧w'.cell? ⟨k12,1,none⟩=some (.int .i64 (x.k:Int))∧w'.cell? ⟨k12,8,none⟩=some (.bool x.r1.inf)) (ds:=[11]) #[false,false,false,false,false,false,false,false,false,false,false,false] (by kernel_rfl) rfl rfl ⟨u0,u1,u8⟩ (fun hHeld=>?_)
      refine pure_ (i:=0) (N:=some 49) (v:=?_) (a':=?_) #[true,false,false,false,false,false,false,false,false,false,false,false] rfl rfl (by kernel_rfl) (fun _ _ _ h=>h) (Or.inl ⟨by rfl,?_⟩) ?_ ?_
      rotate_left
      ·intro w'
       go_simp
       with_reducible rfl
      rotate_left
      ·simp only [Act.put,zA,zB,zC,i64_w,i32_w]
       rfl
      refine pure_ (i:=2) (N:=some 51) (v:=?_) (a':=?_) #[true,false,true,false,false,false,false,false,false,false,false,false] rfl rfl (by kernel_rfl) (fun _ _ _ h=>h) (Or.inl ⟨by rfl,?_⟩) ?_ ?_
      rotate_left
      ·intro w'
       go_simp
       with_reducible rfl
      rotate_left
      ·simp only [Act.put,zA,zB,zC,i64_w,i32_w]
       rfl
      refine pure_ (i:=4) (N:=some 53) (v:=?_) (a':=?_) #[true,false,true,false,true,false,false,false,false,false,false,false] rfl rfl (by kernel_rfl) (fun _ _ _ h=>h) (Or.inl ⟨by rfl,?_⟩) ?_ ?_
      rotate_left
      ·intro w'
       go_simp
       with_reducible rfl
      rotate_left
      ·simp only [Act.put,zA,zB,zC,i64_w,i32_w]
       rfl
      refine take_ (i:=1) (N:=some 50) (v:=?_) (a':=?_) #[true,true,true,false,true,false,false,false,false,false,false,false] rfl rfl (by kernel_rfl) (fun _ _ _ h=>h) (Or.inl ⟨by rfl,?_⟩) hHeld ?_ ?_
      rotate_left
      ·rintro w' ⟨s0,s1,s2⟩
       go_simp
       with_reducible rfl
      rotate_left
      ·simp only [Act.put,zA,zB,zC,i64_w,i32_w]
       rfl
      refine pure_ (i:=6) (N:=some 55) (v:=?_) (a':=?_) #[true,true,true,false,true,false,true,false,false,false,false,false] rfl rfl (by kernel_rfl) (fun _ _ _ h=>h) (Or.inl ⟨by rfl,?_⟩) ?_ ?_
      rotate_left
      ·intro w'
       go_simp
       with_reducible rfl
      rotate_left
      ·simp only [Act.put,zA,zB,zC,i64_w,i32_w]
       rfl
      refine take_ (i:=3) (N:=some 52) (v:=?_) (a':=?_) #[true,true,true,true,true,false,true,false,false,false,false,false] rfl rfl (by kernel_rfl) (fun _ _ _ h=>h) (Or.inl ⟨by rfl,?_⟩) hHeld ?_ ?_
      rotate_left
      ·rintro w' ⟨s0,s1,s2⟩
       go_simp
       with_reducible rfl
      rotate_left
      ·simp only [Act.put,zA,zB,zC,i64_w,i32_w]
       rfl
      refine take_ (i:=5) (N:=some 54) (v:=?_) (a':=?_) #[true,true,true,true,true,true,true,false,false,false,false,false] rfl rfl (by kernel_rfl) (fun _ _ _ h=>h) (Or.inl ⟨by rfl,?_⟩) hHeld ?_ ?_
      rotate_left
      ·rintro w' ⟨s0,s1,s2⟩
       go_simp
       with_reducible rfl
      rotate_left
      ·simp only [Act.put,zA,zB,zC,i64_w,i32_w]
       rfl
      refine one_ (i:=7) (N:=none) #[true,true,true,true,true,true,true,true,false,false,false,false] rfl rfl (by kernel_rfl) (by decide) (fun K hK=>?_)
      refine skip_ (w1:=?_) (by rfl) rfl ?_ ?_
      rotate_left
      ·go_simp
       rfl
      refine hK.out _ _ ⟨cell_far (w:=w7.drew) u0 hkk,cell_far (w:=w7.drew) u1 hkk,cell_far (w:=w7.drew) u8 hkk⟩ (fun hHeld=>?_)
      clear hK K
      refine pure_ (i:=8) (N:=some 56) (v:=?_) (a':=?_) #[true,true,true,true,true,true,true,true,true,false,false,false] rfl rfl (by kernel_rfl) (fun _ _ _ h=>h) (Or.inl ⟨by rfl,?_⟩) ?_ ?_
      rotate_left
      ·intro w'
       go_simp
       with_reducible rfl
      rotate_left
      ·simp only [Act.put,zA,zB,zC,i64_w,i32_w]
       rfl
      refine one_ (i:=9) (N:=none) #[true,true,true,true,true,true,true,true,true,true,false,false] rfl rfl (by kernel_rfl) (by decide) (fun K hK=>?_)
      refine skip_ (w1:=?_) (by rfl) rfl ?_ ?_
      rotate_left
      ·go_simp
       rfl
      refine hK.out _ _ ⟨cell_far (cell_far (w:=w7.drew) u0 hkk) hkk,cell_far (cell_far (w:=w7.drew) u1 hkk) hkk,cell_far (cell_far (w:=w7.drew) u8 hkk) hkk⟩ (fun hHeld=>?_)
      clear hK K
      refine pure_ (i:=10) (N:=some 57) (v:=?_) (a':=?_) #[true,true,true,true,true,true,true,true,true,true,true,false] rfl rfl (by kernel_rfl) (fun _ _ _ h=>h) (Or.inl ⟨by rfl,?_⟩) ?_ ?_
      rotate_left
      ·intro w'
       go_simp
       with_reducible rfl
      rotate_left
      ·simp only [Act.put,zA,zB,zC,i64_w,i32_w]
       rfl
      refine last_ (i:=11) (N:=none) #[true,true,true,true,true,true,true,true,true,true,true,true] rfl rfl (by kernel_rfl) (by decide) (fun K hK=>?_)
      refine skip_ (w1:=?_) (by rfl) rfl ?_ ?_
      rotate_left
      ·go_simp
       rfl
      refine hK.out _ _ ?_
      clear hK K
      refine done_ (by kernel_rfl) ?_
      obtain ⟨w8,hw8⟩ : ∃ w8,w8=(((w7.setCell ⟨k11,1,none⟩ (.int .i64 (dl:Int))).setCell ⟨k11,2,none⟩ (.int .i64 (x.k:Int))).setCell ⟨k11,9,none⟩ (.bool x.r1.inf)).drew:=⟨_,rfl⟩
      rw [← hw8]
      have HN8:=hid (show Nb w6 w8 k11 by rw [hw8];exact (((HN7.out.set 1 _).set 2 _).set 9 _).drew)
      have HX8:=hid (show w8.heap[k11]? = some (.cells #[.bool true,.int .i64 (dl:Int),.int .i64 (x.k:Int),.slice none 0 0,.slice none 0 0,.string ⟨#[]⟩,.int .i64 0,.string ⟨#[]⟩,.int .i64 0,.bool x.r1.inf,.slice none 0 0] 46 (0,0)) by
       rw [hw8]
       have h:=blk_set (blk_set (blk_set HX7.out 1 (.int .i64 (dl:Int))) 2 (.int .i64 (x.k:Int))) 9 (.bool x.r1.inf)
       exact h.trans (by simp))
      clear hw8 hHeld u0 u1 u8 x1 x2 x9 y1 y2 y9
      have HZ8:=hid ((HN8.out.2 k12 (blk_lt HZ6.out) hkk).trans HZ6.out)
      have u2:w8.cell? ⟨k12,2,none⟩=some (.slice A1 LT.length c1):=blk_cell HZ8.out 2
      have u3:w8.cell? ⟨k12,3,none⟩=some (.slice A2 LB.length c2):=blk_cell HZ8.out 3
      have ty88:∀ (b:Nat) (arr:Array Value),w5.heap[b]? = some (.cells arr 88 (0,0))→w8.heap[b]? = w5.heap[b]?:=fun b arr hb=>((Nb.of HB6.out k11).trans HN8.out).ty HX5.out b arr 88 hb (by decide)
      have hC1:=(Kd.R_reads' (R_stay HV1.out rfl (fun k _ e=>by
       obtain ⟨cs2,hc2⟩:=Kd.R_typed HV1.out k e
       exact ty88 k _ hc2)))
      have hC2:=(Kd.R_reads' (R_stay HV2.out rfl (fun k _ e=>by
       obtain ⟨cs2,hc2⟩:=Kd.R_typed HV2.out k e
       exact ty88 k _ hc2)))
      have K63:=hid (impl_ints_uint64.calls (LT.length+1) A1 c1 LT LT w8.drew (Kd.C_below hC1.2.2 (below_drew (Below.refl _ _))) hC1.2.1 HT63.out.1.2)
      have K63b:=hid (fun (W:World) (hW:Below w8.heap.size w8 W)=>impl_ints_uint64.calls (LB.length+1) A2 c2 LB LB W (Kd.C_below hC2.2.2 hW) hC2.2.1 HT63.out.2.2)
      clear ty88 hC1 hC2
      go_upto_region 13 with (fail)
      refine start_ (n:=10) (S:=fun w'=>w'.cell? ⟨k12,2,none⟩=some (.slice A1 LT.length c1)∧w'.cell? ⟨k12,3,none⟩=some (.slice A2 LB.length c2)) (ds:=[7,9]) #[false,false,false,false,false,false,false,false,false,false] (by kernel_rfl) rfl rfl ⟨u2,u3⟩ (fun hHeld=>?_)
      refine pure_ (i:=0) (N:=some 58) (v:=?_) (a':=?_) #[true,false,false,false,false,false,false,false,false,false] rfl rfl (by kernel_rfl) (fun _ _ _ h=>h) (Or.inl ⟨by rfl,?_⟩) ?_ ?_
      rotate_left
      ·intro w'
       go_simp
       with_reducible rfl
      rotate_left
      ·simp only [Act.put,zA,zB,zC,i64_w,i32_w]
       rfl
      refine pure_ (i:=3) (N:=some 61) (v:=?_) (a':=?_) #[true,false,false,true,false,false,false,false,false,false] rfl rfl (by kernel_rfl) (fun _ _ _ h=>h) (Or.inl ⟨by rfl,?_⟩) ?_ ?_
      rotate_left
      ·intro w'
       go_simp
       with_reducible rfl
      rotate_left
      ·simp only [Act.put,zA,zB,zC,i64_w,i32_w]
       rfl
      refine take_ (i:=1) (N:=some 59) (v:=?_) (a':=?_) #[true,true,false,true,false,false,false,false,false,false] rfl rfl (by kernel_rfl) (fun _ _ _ h=>h) (Or.inl ⟨by rfl,?_⟩) hHeld ?_ ?_
      rotate_left
      ·rintro w' ⟨s0,s1⟩
       go_simp
       with_reducible rfl
      rotate_left
      ·simp only [Act.put,zA,zB,zC,i64_w,i32_w]
       rfl
      refine take_ (i:=4) (N:=some 62) (v:=?_) (a':=?_) #[true,true,false,true,true,false,false,false,false,false] rfl rfl (by kernel_rfl) (fun _ _ _ h=>h) (Or.inl ⟨by rfl,?_⟩) hHeld ?_ ?_
      rotate_left
      ·rintro w' ⟨s0,s1⟩
       go_simp
       with_reducible rfl
      rotate_left
      ·simp only [Act.put,zA,zB,zC,i64_w,i32_w]
       rfl
      refine one_ (i:=2) (N:=some 60) #[true,true,true,true,true,false,false,false,false,false] rfl rfl (by kernel_rfl) (by decide) (fun K hK=>?_)
      refine goes_ Tryz.func63 (by kernel_rfl) rfl #[.slice A1 LT.length c1] (by rfl) rfl rfl (by simp only [List.map_toArray,List.map_cons,List.map_nil];rfl) ?_
      with_reducible refine (K63.out).mono ?_
      rintro e w9 ⟨v4,rfl,hr4,hb4⟩
      refine ⟨_,rfl,?_⟩
      obtain ⟨m4,A4,c4,rfl⟩ : ∃ n A c,v4=.slice A n c:=(by obtain ⟨A,c,e⟩:=Kd.R_slice hr4;exact ⟨_,A,c,e⟩)
      have HR4:=hid hr4
      have HB9:=hid (show Below w8.heap.size w8 w9 from below_step (below_drew (Below.refl _ _)) hb4)
      have K63c:=K63b.out w9 HB9.out
      refine hK.out _ _ ⟨(HB9.out.cell (World.block_lt_of_cell? w8 _ u2)).trans u2,(HB9.out.cell (World.block_lt_of_cell? w8 _ u3)).trans u3⟩ (fun hHeld=>?_)
      clear hK K
      refine norm_ (a':=?_) ?_ ?_
      rotate_left
      ·show Act.put _ (some 60) _=_
       simp only [Act.put,zA,zB,zC,i64_w,i32_w]
       rfl
      refine pure_ (i:=6) (N:=some 64) (v:=?_) (a':=?_) #[true,true,true,true,true,false,true,false,false,false] rfl rfl (by kernel_rfl) (fun _ _ _ h=>h) (Or.inl ⟨by rfl,?_⟩) ?_ ?_
      rotate_left
      ·intro w'
       go_simp
       with_reducible rfl
      rotate_left
      ·simp only [Act.put,zA,zB,zC,i64_w,i32_w]
       rfl
      refine one_ (i:=5) (N:=some 63) #[true,true,true,true,true,true,true,false,false,false] rfl rfl (by kernel_rfl) (by decide) (fun K hK=>?_)
      refine goes_ Tryz.func63 (by kernel_rfl) rfl #[.slice A2 LB.length c2] (by rfl) rfl rfl (by simp only [List.map_toArray,List.map_cons,List.map_nil];rfl) ?_
      with_reducible refine (K63c).mono ?_
      rintro e w10 ⟨v5,rfl,hr5,hb5⟩
      refine ⟨_,rfl,?_⟩
      obtain ⟨m5,A5,c5,rfl⟩ : ∃ n A c,v5=.slice A n c:=(by obtain ⟨A,c,e⟩:=Kd.R_slice hr5;exact ⟨_,A,c,e⟩)
      have HR5:=hid hr5
      have HBB:=hid hb5
      have HB10:=hid (show Below w8.heap.size w8 w10 from below_step HB9.out hb5)
      have HX10:=hid ((HB10.out.block _ (blk_lt HX8.out)).trans HX8.out)
      have x3:=blk_cell HX10.out 3
      have x4:=blk_cell HX10.out 4
      have y3:=blk_frozen HX10.out 3
      have y4:=blk_frozen HX10.out 4
      refine hK.out _ _ ⟨(HB10.out.cell (World.block_lt_of_cell? w8 _ u2)).trans u2,(HB10.out.cell (World.block_lt_of_cell? w8 _ u3)).trans u3⟩ (fun hHeld=>?_)
      clear hK K
      refine norm_ (a':=?_) ?_ ?_
      rotate_left
      ·show Act.put _ (some 63) _=_
       simp only [Act.put,zA,zB,zC,i64_w,i32_w]
       rfl
      refine last_ (i:=7) (N:=none) #[true,true,true,true,true,true,true,true,false,false] rfl rfl (by kernel_rfl) (by decide) (fun K hK=>?_)
      refine skip_ (w1:=?_) (by rfl) rfl ?_ ?_
      rotate_left
      ·go_simp
       rfl
      refine hK.out _ _ ?_
      clear hK K
      refine pure_ (i:=8) (N:=some 65) (v:=?_) (a':=?_) #[true,true,true,true,true,true,true,true,true,false] rfl rfl (by kernel_rfl) (fun _ _ _ h=>h) (Or.inl ⟨by rfl,?_⟩) ?_ ?_
      rotate_left
      ·intro w'
       go_simp
       with_reducible rfl
      rotate_left
      ·simp only [Act.put,zA,zB,zC,i64_w,i32_w]
       rfl
      refine last_ (i:=9) (N:=none) #[true,true,true,true,true,true,true,true,true,true] rfl rfl (by kernel_rfl) (by decide) (fun K hK=>?_)
      refine skip_ (w1:=?_) (by rfl) rfl ?_ ?_
      rotate_left
      ·go_simp
       rfl
      refine hK.out _ _ ?_
      clear hK K
      refine done_ (by kernel_rfl) ?_
      obtain ⟨w11,hw11⟩ : ∃ w11,w11=(w10.setCell ⟨k11,3,none⟩ (.slice A4 m4 c4)).setCell ⟨k11,4,none⟩ (.slice A5 m5 c5):=⟨_,rfl⟩
      rw [← hw11]
      have HNX:=hid (show Nb w10 w11 k11 by rw [hw11];exact ((Nb.refl w10 k11).set 3 _).set 4 _)
      have HN11:=hid (HN8.out.trans ((Nb.of HB10.out k11).trans HNX.out))
      have HX11:=hid (show w11.heap[k11]? = some (.cells #[.bool true,.int .i64 (dl:Int),.int .i64 (x.k:Int),.slice A4 m4 c4,.slice A5 m5 c5,.string ⟨#[]⟩,.int .i64 0,.string ⟨#[]⟩,.int .i64 0,.bool x.r1.inf,.slice none 0 0] 46 (0,0)) by
       rw [hw11]
       have h:=blk_set (blk_set HX10.out 3 (.slice A4 m4 c4)) 4 (.slice A5 m5 c5)
       exact h.trans (by simp))
      have HV4:=hid (show Kd.R (Kd.int .i64) 3 w11 w8.heap.size (fun _=>True) (.slice A4 m4 c4) LT from R_stay (Kd.R_below HR4.out HBB.out) rfl (fun k _ e=>by
       obtain ⟨cs2,hc2⟩:=Kd.R_typed (Kd.R_below HR4.out HBB.out) k e
       exact HNX.out.ty HX10.out k _ _ hc2 (by decide)))
      have HV5:=hid (show Kd.R (Kd.int .i64) 3 w11 w8.heap.size (fun _=>True) (.slice A5 m5 c5) LB from Kd.R_lower (R_stay HR5.out rfl (fun k _ e=>by
       obtain ⟨cs2,hc2⟩:=Kd.R_typed HR5.out k e
       exact HNX.out.ty HX10.out k _ _ hc2 (by decide))) HB9.out.size)
      have HZ11:=hid ((HN11.out.2 k12 (blk_lt HZ6.out) hkk).trans HZ6.out)
      have HNA:=hid ((Nb.of HB6.out k11).trans HN11.out)
      have HW8:=hid (show wo.heap.size≤w8.heap.size from Nat.le_trans HFO.out.1.size (Nat.le_trans HB6s.out HN8.out.1.size))
      clear hw11 hHeld u2 u3 x3 x4 y3 y4 hb4 hb5 hr4 hr5 K63c HX10 HR4 HR5
      have u8:w11.cell? ⟨k12,8,none⟩=some (.bool x.r1.inf):=blk_cell HZ11.out 8
      have HSI:=hid (show ∀ W,Nb w5 W k11→Sta W S n0 lp sb ob mb lv cv hs cs ⟨m,a,b,c,d,e,f,g⟩ (st.add g1.toNat x)∧FrS wo W from fun W hW=>⟨HS5.out.nb hW HX5.out (by have:=HKK.out;omega),HFO.out.nb hW (by have:=HKK.out;omega)⟩)
      by_cases hinf:x.r1.inf=true
      ·rw [hinf] at u8
       have HEND:=hid (show ChoM wo w11 k11 (choC st.ds.length x []) from ⟨A4,m4,c4,A5,m5,c5,by rw [HCC.out,if_pos hinf];have h:=HX11.out;rw [hinf] at h;exact h,by rw [HCC.out,if_pos hinf];exact Kd.R_lower HV4.out HW8.out,by rw [HCC.out,if_pos hinf];exact Kd.R_lower HV5.out HW8.out⟩)
       clear hinf
       go_wp2_with fail
       go_meet
       case rel=>exact ⟨_,rfl,⟨by rw [HSF.out];exact ⟨HEND.out,HSI.out _ HNA.out⟩⟩⟩
      ·have hinf:x.r1.inf=false:=Bool.eq_false_iff.2 hinf
       have hkT:∀ t∈x.T,KLen t:=fun t ht=>by
        obtain ⟨l,hl,h2⟩:=HOKX.out.tb t (List.mem_append_left _ ht)
        exact HK.out l hl t h2
       have er:x.r1=rgOf x.T:=by
        rcases HOKX.out.r1 with h | h
        ·rw [h] at hinf;cases hinf
        ·exact h
       obtain ⟨⟨rl,hrl⟩,⟨rh,hrh⟩⟩:=rg_parse HOKX.out.lt.1 hkT
       have hgl:=rg_len HOKX.out.lt.1 hkT
       rw [← er] at hrl hrh hgl
       rw [hinf] at u8
       have hx11:=HX11.out
       rw [hinf] at hx11
       have HX11:=hid hx11
       have hcc:=HCC.out []
       rw [if_neg (by rw [hinf];decide)] at hcc
       clear hx11 er hkT hinf
       obtain ⟨kb1,ea1,hkl⟩:=HK1.out.key (by have:=hgl.1.1;omega)
       obtain ⟨kb2,ea2,hkh⟩:=HK2.out.key (by have:=hgl.2.1;omega)
       have hz4:w11.cell? ⟨k12,4,none⟩=some (.slice a1 x.r1.lo.length x.r1.lo.length):=blk_cell HZ11.out 4
       have hz5:w11.cell? ⟨k12,5,none⟩=some (.slice b1 x.r1.hi.length x.r1.hi.length):=blk_cell HZ11.out 5
       rw [ea1] at hz4
       rw [ea2] at hz5
       obtain ⟨kl,ekl⟩ : ∃ k,x.r1.lo.length=k+8:=⟨x.r1.lo.length - 8,by omega⟩
       obtain ⟨kh,ekh⟩ : ∃ k,x.r1.hi.length=k+8:=⟨x.r1.hi.length - 8,by omega⟩
       have eul:uk x.r1.lo=x.r1.lo.take kl:=by unfold uk;rw [ekl,Nat.add_sub_cancel]
       have euh:uk x.r1.hi=x.r1.hi.take kh:=by unfold uk;rw [ekh,Nat.add_sub_cancel]
       have epl:pts x.r1.lo=wrap64 rl:=by unfold pts;rw [hrl];rfl
       have eph:pts x.r1.hi=wrap64 rh:=by unfold pts;rw [hrh];rfl
       unfold txt at hcc
       rw [eul,euh,epl,eph] at hcc
       have HCX:=hid hcc
       rw [ekl] at hz4
       rw [ekh] at hz5
       have hk1:=(HNA.out.ty HX5.out kb1 _ _ hkl (by decide)).trans hkl
       have hk2:=(HNA.out.ty HX5.out kb2 _ _ hkh (by decide)).trans hkh
       have HKL:=hid hk1
       have HKH:=hid hk2
       have HLO:=hid (And.intro ekl hrl)
       have HHI:=hid (And.intro ekh hrh)
       have HLB:=hid (show kl≤99999992∧kh≤99999992 by omega)
       have HZ5:=hid hz5
       clear hcc ea1 ea2 hkl hkh eul euh epl eph hk1 hk2 ekl ekh hrl hrh hgl hz5 HCC HK1 HK2
       generalize x.r1.lo=lo at *
       generalize x.r1.hi=hi at *
       have u4:=hz4
       go_upto_region 15 with (fail)
       have KS:=hid (fun (W:World) (hW:Below w11.heap.size w11 W)=>key_str (k:=kl) (c:=kl+8) ((hW.block _ (blk_lt HKL.out)).trans HKL.out) (by have:=HLO.out.1;omega))
       have K64:=hid (parseKey_calls (w:=w11.drew) (b:=kb1) (k:=kl) (c:=kl+8) (by have:=HLB.out;omega) (Nat.le_refl _))
       have hrl:=HLO.out.2
       have K65:=hid (pts_calls (c:=kl+8) (w:=w11.drew) HKL.out HLO.out.1 (by have:=HLB.out;omega) (Nat.le_refl _) hrl)
       obtain ⟨str,hstr⟩ : ∃ s,s=strOfNums (Pu.nums (lo.take kl)):=⟨_,rfl⟩
       rw [← hstr] at KS HCX
       clear hstr hrl u8 hz4
       have ks:=KS.out w11.drew (below_drew (Below.refl _ _))
       refine start_ (n:=12) (S:=fun w'=>w'.cell? ⟨k12,4,none⟩=some (.slice (some ⟨kb1,0,none⟩) (kl+8) (kl+8))∧(convert 81 9 (.slice (some ⟨kb1,0,none⟩) kl (kl+8))).run Tryz.prog w'=.ok (.string str) w') (ds:=[9,11]) #[false,false,false,false,false,false,false,false,false,false,false,false] (by kernel_rfl) rfl rfl ⟨u4,ks⟩ (fun hHeld=>?_)
       refine pure_ (i:=0) (N:=some 69) (v:=?_) (a':=?_) #[true,false,false,false,false,false,false,false,false,false,false,false] rfl rfl (by kernel_rfl) (fun _ _ _ h=>h) (Or.inl ⟨by rfl,?_⟩) ?_ ?_
       rotate_left
       ·intro w'
        go_simp
        with_reducible rfl
       rotate_left
       ·simp only [Act.put,zA,zB,zC,i64_w,i32_w]
        rfl
       refine pure_ (i:=4) (N:=some 73) (v:=?_) (a':=?_) #[true,false,false,false,true,false,false,false,false,false,false,false] rfl rfl (by kernel_rfl) (fun _ _ _ h=>h) (Or.inl ⟨by rfl,?_⟩) ?_ ?_
       rotate_left
       ·intro w'
        go_simp
        with_reducible rfl
       rotate_left
       ·simp only [Act.put,zA,zB,zC,i64_w,i32_w]
        rfl
       refine take_ (i:=1) (N:=some 70) (v:=?_) (a':=?_) #[true,true,false,false,true,false,false,false,false,false,false,false] rfl rfl (by kernel_rfl) (fun _ _ _ h=>h) (Or.inl ⟨by rfl,?_⟩) hHeld ?_ ?_
       rotate_left
       ·rintro w' ⟨s0,s1⟩
        go_simp
        with_reducible rfl
       rotate_left
       ·simp only [Act.put,zA,zB,zC,i64_w,i32_w]
        rfl
       refine take_ (i:=5) (N:=some 74) (v:=?_) (a':=?_) #[true,true,false,false,true,true,false,false,false,false,false,false] rfl rfl (by kernel_rfl) (fun _ _ _ h=>h) (Or.inl ⟨by rfl,?_⟩) hHeld ?_ ?_
       rotate_left
       ·rintro w' ⟨s0,s1⟩
        go_simp
        with_reducible rfl
       rotate_left
       ·simp only [Act.put,zA,zB,zC,i64_w,i32_w]
        rfl
       refine one_ (i:=2) (N:=some 71) #[true,true,true,false,true,true,false,false,false,false,false,false] rfl rfl (by kernel_rfl) (by decide) (fun K hK=>?_)
       refine goes_ Tryz.func64 (by kernel_rfl) rfl #[.slice (some ⟨kb1,0,none⟩) (kl+8) (kl+8)] (by rfl) rfl rfl (by simp only [List.map_toArray,List.map_cons,List.map_nil];rfl) ?_
       with_reducible refine (K64.out).mono ?_
       rintro e wz ⟨rfl,rfl⟩
       refine ⟨_,rfl,?_⟩
       refine hK.out _ _ ⟨u4,ks⟩ (fun hHeld=>?_)
       clear hK K
       refine norm_ (a':=?_) ?_ ?_
       rotate_left
       ·show Act.put _ (some 71) _=_
        simp only [Act.put,zA,zB,zC,i64_w,i32_w]
        rfl
       refine take_ (i:=3) (N:=some 72) (v:=?_) (a':=?_) #[true,true,true,true,true,true,false,false,false,false,false,false] rfl rfl (by kernel_rfl) (fun _ _ _ h=>h) (Or.inl ⟨by rfl,?_⟩) hHeld ?_ ?_
       rotate_left
       ·rintro w' ⟨s0,s1⟩
        go_simp
        with_reducible rfl
       rotate_left
       ·simp only [Act.put,zA,zB,zC,i64_w,i32_w]
        rfl
       refine pure_ (i:=8) (N:=some 77) (v:=?_) (a':=?_) #[true,true,true,true,true,true,false,false,true,false,false,false] rfl rfl (by kernel_rfl) (fun _ _ _ h=>h) (Or.inl ⟨by rfl,?_⟩) ?_ ?_
       rotate_left
       ·intro w'
        go_simp
        with_reducible rfl
       rotate_left
       ·simp only [Act.put,zA,zB,zC,i64_w,i32_w]
        rfl
       refine one_ (i:=6) (N:=some 75) #[true,true,true,true,true,true,true,false,true,false,false,false] rfl rfl (by kernel_rfl) (by decide) (fun K hK=>?_)
       refine goes_ Tryz.func65 (by kernel_rfl) rfl #[.slice (some ⟨kb1,0,none⟩) (kl+8) (kl+8)] (by rfl) rfl rfl (by simp only [List.map_toArray,List.map_cons,List.map_nil];rfl) ?_
       with_reducible refine (K65.out).mono ?_
       rintro e w12 ⟨rfl,hdr⟩
       refine ⟨_,rfl,?_⟩
       have HB12:=hid (show Below w11.heap.size w11 w12 from below_step (below_drew (Below.refl _ _)) hdr.below)
       have HX12:=hid ((HB12.out.block _ (blk_lt HX11.out)).trans HX11.out)
       have ks2:=KS.out w12 HB12.out
       have x5:=blk_cell HX12.out 5
       have x6:=blk_cell HX12.out 6
       have y5:=blk_frozen HX12.out 5
       have y6:=blk_frozen HX12.out 6
       refine hK.out _ _ ⟨(HB12.out.cell (World.block_lt_of_cell? w11 _ u4)).trans u4,ks2⟩ (fun hHeld=>?_)
       clear hK K
       refine norm_ (a':=?_) ?_ ?_
       rotate_left
       ·show Act.put _ (some 75) _=_
        simp only [Act.put,zA,zB,zC,i64_w,i32_w]
        rfl
       refine pure_ (i:=7) (N:=some 76) (v:=?_) (a':=?_) #[true,true,true,true,true,true,true,true,true,false,false,false] rfl rfl (by kernel_rfl) (fun _ _ _ h=>h) (Or.inl ⟨by rfl,?_⟩) ?_ ?_
       rotate_left
       ·intro w'
        go_simp
        with_reducible rfl
       rotate_left
       ·simp only [Act.put,zA,zB,zC,i64_w,i32_w]
        rfl
       refine last_ (i:=9) (N:=none) #[true,true,true,true,true,true,true,true,true,true,false,false] rfl rfl (by kernel_rfl) (by decide) (fun K hK=>?_)
       refine skip_ (w1:=?_) (by rfl) rfl ?_ ?_
       rotate_left
       ·go_simp
        rfl
       refine hK.out _ _ ?_
       clear hK K
       refine pure_ (i:=10) (N:=some 78) (v:=?_) (a':=?_) #[true,true,true,true,true,true,true,true,true,true,true,false] rfl rfl (by kernel_rfl) (fun _ _ _ h=>h) (Or.inl ⟨by rfl,?_⟩) ?_ ?_
       rotate_left
       ·intro w'
        go_simp
        with_reducible rfl
       rotate_left
       ·simp only [Act.put,zA,zB,zC,i64_w,i32_w]
        rfl
       refine last_ (i:=11) (N:=none) #[true,true,true,true,true,true,true,true,true,true,true,true] rfl rfl (by kernel_rfl) (by decide) (fun K hK=>?_)
       refine skip_ (w1:=?_) (by rfl) rfl ?_ ?_
       rotate_left
       ·go_simp
        rfl
       refine hK.out _ _ ?_
       clear hK K
       refine done_ (by kernel_rfl) ?_
       obtain ⟨w13,hw13⟩ : ∃ w13,w13=(w12.setCell ⟨k11,5,none⟩ (.string str)).setCell ⟨k11,6,none⟩ (.int .i64 (wrap64 rl)):=⟨_,rfl⟩
       rw [← hw13]
       have HN13:=hid (show Nb w11 w13 k11 by rw [hw13];exact ((Nb.of HB12.out k11).set 5 _).set 6 _)
       have HX13:=hid (show w13.heap[k11]? = some (.cells #[.bool true,.int .i64 (dl:Int),.int .i64 (x.k:Int),.slice A4 m4 c4,.slice A5 m5 c5,.string str,.int .i64 (wrap64 rl),.string ⟨#[]⟩,.int .i64 0,.bool false,.slice none 0 0] 46 (0,0)) by
        rw [hw13]
        have h:=blk_set (blk_set HX12.out 5 (.string str)) 6 (.int .i64 (wrap64 rl))
        exact h.trans (by simp))
       have u5:w13.cell? ⟨k12,5,none⟩=some (.slice (some ⟨kb2,0,none⟩) (kh+8) (kh+8)):=by
        have hl:=World.block_lt_of_cell? w11 _ HZ5.out
        exact (World.cell?_of_block (HN13.out.2 k12 hl hkk)).trans HZ5.out
       have HKH2:=hid ((HN13.out.ty HX11.out kb2 _ _ HKH.out (by decide)).trans HKH.out)
       clear hw13 hHeld u4 ks ks2 x5 x6 y5 y6 KS K64 K65
       go_upto_region 16 with (fail)
       have KS:=hid (fun (W:World) (hW:Below w13.heap.size w13 W)=>key_str (k:=kh) (c:=kh+8) ((hW.block _ (blk_lt HKH2.out)).trans HKH2.out) (by have:=HHI.out.1;omega))
       have K64:=hid (parseKey_calls (w:=w13.drew) (b:=kb2) (k:=kh) (c:=kh+8) (by have:=HLB.out;omega) (Nat.le_refl _))
       have hrh:=HHI.out.2
       have K65:=hid (pts_calls (c:=kh+8) (w:=w13.drew) HKH2.out HHI.out.1 (by have:=HLB.out;omega) (Nat.le_refl _) hrh)
       obtain ⟨str2,hstr⟩ : ∃ s,s=strOfNums (Pu.nums (hi.take kh)):=⟨_,rfl⟩
       rw [← hstr] at KS HCX
       clear hstr hrh
       have ks:=KS.out w13.drew (below_drew (Below.refl _ _))
       refine start_ (n:=12) (S:=fun w'=>w'.cell? ⟨k12,5,none⟩=some (.slice (some ⟨kb2,0,none⟩) (kh+8) (kh+8))∧(convert 81 9 (.slice (some ⟨kb2,0,none⟩) kh (kh+8))).run Tryz.prog w'=.ok (.string str2) w') (ds:=[9,11]) #[false,false,false,false,false,false,false,false,false,false,false,false] (by kernel_rfl) rfl rfl ⟨u5,ks⟩ (fun hHeld=>?_)
       refine pure_ (i:=0) (N:=some 79) (v:=?_) (a':=?_) #[true,false,false,false,false,false,false,false,false,false,false,false] rfl rfl (by kernel_rfl) (fun _ _ _ h=>h) (Or.inl ⟨by rfl,?_⟩) ?_ ?_
       rotate_left
       ·intro w'
        go_simp
        with_reducible rfl
       rotate_left
       ·simp only [Act.put,zA,zB,zC,i64_w,i32_w]
        rfl
       refine pure_ (i:=4) (N:=some 83) (v:=?_) (a':=?_) #[true,false,false,false,true,false,false,false,false,false,false,false] rfl rfl (by kernel_rfl) (fun _ _ _ h=>h) (Or.inl ⟨by rfl,?_⟩) ?_ ?_
       rotate_left
       ·intro w'
        go_simp
        with_reducible rfl
       rotate_left
       ·simp only [Act.put,zA,zB,zC,i64_w,i32_w]
        rfl
       refine take_ (i:=1) (N:=some 80) (v:=?_) (a':=?_) #[true,true,false,false,true,false,false,false,false,false,false,false] rfl rfl (by kernel_rfl) (fun _ _ _ h=>h) (Or.inl ⟨by rfl,?_⟩) hHeld ?_ ?_
       rotate_left
       ·rintro w' ⟨s0,s1⟩
        go_simp
        with_reducible rfl
       rotate_left
       ·simp only [Act.put,zA,zB,zC,i64_w,i32_w]
        rfl
       refine take_ (i:=5) (N:=some 84) (v:=?_) (a':=?_) #[true,true,false,false,true,true,false,false,false,false,false,false] rfl rfl (by kernel_rfl) (fun _ _ _ h=>h) (Or.inl ⟨by rfl,?_⟩) hHeld ?_ ?_
       rotate_left
       ·rintro w' ⟨s0,s1⟩
        go_simp
        with_reducible rfl
       rotate_left
       ·simp only [Act.put,zA,zB,zC,i64_w,i32_w]
        rfl
       refine one_ (i:=2) (N:=some 81) #[true,true,true,false,true,true,false,false,false,false,false,false] rfl rfl (by kernel_rfl) (by decide) (fun K hK=>?_)
       refine goes_ Tryz.func64 (by kernel_rfl) rfl #[.slice (some ⟨kb2,0,none⟩) (kh+8) (kh+8)] (by rfl) rfl rfl (by simp only [List.map_toArray,List.map_cons,List.map_nil];rfl) ?_
       with_reducible refine (K64.out).mono ?_
       rintro e wz ⟨rfl,rfl⟩
       refine ⟨_,rfl,?_⟩
       refine hK.out _ _ ⟨u5,ks⟩ (fun hHeld=>?_)
       clear hK K
       refine norm_ (a':=?_) ?_ ?_
       rotate_left
       ·show Act.put _ (some 81) _=_
        simp only [Act.put,zA,zB,zC,i64_w,i32_w]
        rfl
       refine take_ (i:=3) (N:=some 82) (v:=?_) (a':=?_) #[true,true,true,true,true,true,false,false,false,false,false,false] rfl rfl (by kernel_rfl) (fun _ _ _ h=>h) (Or.inl ⟨by rfl,?_⟩) hHeld ?_ ?_
       rotate_left
       ·rintro w' ⟨s0,s1⟩
        go_simp
        with_reducible rfl
       rotate_left
       ·simp only [Act.put,zA,zB,zC,i64_w,i32_w]
        rfl
       refine pure_ (i:=8) (N:=some 87) (v:=?_) (a':=?_) #[true,true,true,true,true,true,false,false,true,false,false,false] rfl rfl (by kernel_rfl) (fun _ _ _ h=>h) (Or.inl ⟨by rfl,?_⟩) ?_ ?_
       rotate_left
       ·intro w'
        go_simp
        with_reducible rfl
       rotate_left
       ·simp only [Act.put,zA,zB,zC,i64_w,i32_w]
        rfl
       refine one_ (i:=6) (N:=some 85) #[true,true,true,true,true,true,true,false,true,false,false,false] rfl rfl (by kernel_rfl) (by decide) (fun K hK=>?_)
       refine goes_ Tryz.func65 (by kernel_rfl) rfl #[.slice (some ⟨kb2,0,none⟩) (kh+8) (kh+8)] (by rfl) rfl rfl (by simp only [List.map_toArray,List.map_cons,List.map_nil];rfl) ?_
       with_reducible refine (K65.out).mono ?_
       rintro e w14 ⟨rfl,hdr⟩
       refine ⟨_,rfl,?_⟩
       have HB14:=hid (show Below w13.heap.size w13 w14 from below_step (below_drew (Below.refl _ _)) hdr.below)
       have HX14:=hid ((HB14.out.block _ (blk_lt HX13.out)).trans HX13.out)
       have ks2:=KS.out w14 HB14.out
       have x7:=blk_cell HX14.out 7
       have x8:=blk_cell HX14.out 8
       have y7:=blk_frozen HX14.out 7
       have y8:=blk_frozen HX14.out 8
       refine hK.out _ _ ⟨(HB14.out.cell (World.block_lt_of_cell? w13 _ u5)).trans u5,ks2⟩ (fun hHeld=>?_)
       clear hK K
       refine norm_ (a':=?_) ?_ ?_
       rotate_left
       ·show Act.put _ (some 85) _=_
        simp only [Act.put,zA,zB,zC,i64_w,i32_w]
        rfl
       refine pure_ (i:=7) (N:=some 86) (v:=?_) (a':=?_) #[true,true,true,true,true,true,true,true,true,false,false,false] rfl rfl (by kernel_rfl) (fun _ _ _ h=>h) (Or.inl ⟨by rfl,?_⟩) ?_ ?_
       rotate_left
       ·intro w'
        go_simp
        with_reducible rfl
       rotate_left
       ·simp only [Act.put,zA,zB,zC,i64_w,i32_w]
        rfl
       refine last_ (i:=9) (N:=none) #[true,true,true,true,true,true,true,true,true,true,false,false] rfl rfl (by kernel_rfl) (by decide) (fun K hK=>?_)
       refine skip_ (w1:=?_) (by rfl) rfl ?_ ?_
       rotate_left
       ·go_simp
        rfl
       refine hK.out _ _ ?_
       clear hK K
       refine pure_ (i:=10) (N:=some 88) (v:=?_) (a':=?_) #[true,true,true,true,true,true,true,true,true,true,true,false] rfl rfl (by kernel_rfl) (fun _ _ _ h=>h) (Or.inl ⟨by rfl,?_⟩) ?_ ?_
       rotate_left
       ·intro w'
        go_simp
        with_reducible rfl
       rotate_left
       ·simp only [Act.put,zA,zB,zC,i64_w,i32_w]
        rfl
       refine last_ (i:=11) (N:=none) #[true,true,true,true,true,true,true,true,true,true,true,true] rfl rfl (by kernel_rfl) (by decide) (fun K hK=>?_)
       refine skip_ (w1:=?_) (by rfl) rfl ?_ ?_
       rotate_left
       ·go_simp
        rfl
       refine hK.out _ _ ?_
       clear hK K
       refine done_ (by kernel_rfl) ?_
       obtain ⟨w15,hw15⟩ : ∃ w15,w15=(w14.setCell ⟨k11,7,none⟩ (.string str2)).setCell ⟨k11,8,none⟩ (.int .i64 (wrap64 rh)):=⟨_,rfl⟩
       rw [← hw15]
       have HN15:=hid (HN13.out.trans (show Nb w13 w15 k11 by rw [hw15];exact ((Nb.of HB14.out k11).set 7 _).set 8 _))
       have HX15:=hid (show w15.heap[k11]? = some (.cells #[.bool true,.int .i64 (dl:Int),.int .i64 (x.k:Int),.slice A4 m4 c4,.slice A5 m5 c5,.string str,.int .i64 (wrap64 rl),.string str2,.int .i64 (wrap64 rh),.bool false,.slice none 0 0] 46 (0,0)) by
        rw [hw15]
        have h:=blk_set (blk_set HX14.out 7 (.string str2)) 8 (.int .i64 (wrap64 rh))
        exact h.trans (by simp))
       clear hw15 hHeld u5 ks ks2 x7 x8 y7 y8 KS K64 K65 HKH2 HX14
       have HV4':=hid (R_stay HV4.out rfl (fun k _ e=>by
        obtain ⟨cs2,hc2⟩:=Kd.R_typed HV4.out k e
        exact HN15.out.ty HX11.out k _ _ hc2 (by decide)))
       have HV5':=hid (R_stay HV5.out rfl (fun k _ e=>by
        obtain ⟨cs2,hc2⟩:=Kd.R_typed HV5.out k e
        exact HN15.out.ty HX11.out k _ _ hc2 (by decide)))
       have HEND:=hid (show ChoM wo w15 k11 (choC st.ds.length x []) from ⟨A4,m4,c4,A5,m5,c5,by rw [HCX.out];exact HX15.out,by rw [HCX.out];exact Kd.R_lower HV4'.out HW8.out,by rw [HCX.out];exact Kd.R_lower HV5'.out HW8.out⟩)
       go_wp2_with fail
       go_meet
       case rel=>exact ⟨_,rfl,⟨by rw [HSF.out];exact ⟨HEND.out,HSI.out _ (HNA.out.trans HN15.out)⟩⟩⟩
    ·obtain ⟨hg1,hdh⟩:=HSM.out.dn hg0
     have hg1:g0=1:=hg1
     subst hg1
     have HG0:=hid hg0
     obtain ⟨r,hr⟩ : ∃ r,r=D st ⟨1,g1,g2,g3,g4⟩:=⟨_,rfl⟩
     have K:=hdh gh w4 S n0 lp sb ob mb lv cv hs cs HTS.out HHL.out.2 HS4.out
     rw [← hr] at K
     have K66:=hid K
     have hsf:=step_done (F:=F) (D:=D) (st:=st) (s:=⟨1,g1,g2,g3,g4⟩) rfl
     rw [← hr] at hsf
     have HSF:=hid hsf
     clear K hdh hr hch hg0 hsf
     go_wp2_with fail
     refine K66.out.mono ?_
     intro e5 w5 hp
     obtain ⟨hfr,hp⟩:=hp
     have HX5:=hid ((hfr.2 k11 _ _ HX4.out (by decide)).trans HX4.out)
     have HFO:=hid ((FrS.of HB4.out).trans hfr)
     have x0:w5.cell? ⟨k11,0,none⟩=some (.bool false):=blk_cell HX5.out 0
     have y0:=blk_frozen HX5.out 0
     clear hfr K66 l0 l1 l2 l3 l4 HX4 HY4
     cases r with
     | none =>
      obtain ⟨rfl,hs5⟩:=hp
      have HN7:=hid (show Nb w5 (w5.setCell ⟨k11,0,none⟩ (.bool false)) k11 from (Nb.refl w5 k11).set 0 _)
      have HX7:=hid (show (w5.setCell ⟨k11,0,none⟩ (.bool false)).heap[k11]? = some (.cells #[.bool false,.int .i64 0,.int .i64 0,.slice none 0 0,.slice none 0 0,.string ⟨#[]⟩,.int .i64 0,.string ⟨#[]⟩,.int .i64 0,.bool false,.slice none 0 0] 46 (0,0)) by
       have h:=blk_set HX5.out 0 (.bool false)
       simpa using h)
      have HEND:=hid (show ChoM wo (w5.setCell ⟨k11,0,none⟩ (.bool false)) k11 (noC false [])∧Sta (w5.setCell ⟨k11,0,none⟩ (.bool false)) S n0 lp sb ob mb lv cv hs cs ⟨m,a,b,c,d,e,f,g⟩ st∧FrS wo (w5.setCell ⟨k11,0,none⟩ (.bool false)) from ⟨⟨none,0,0,none,0,0,HX7.out,Kd.R_nil _ _ _ _ _,Kd.R_nil _ _ _ _ _⟩,hs5.nb HN7.out HX5.out (by have:=HKK.out;omega),HFO.out.nb HN7.out (by have:=HKK.out;omega)⟩)
      clear hs5
      go_wp2_with fail
      go_meet
      case rel=>exact ⟨_,rfl,⟨by rw [HSF.out];exact HEND.out⟩⟩
     | some st2 =>
      obtain ⟨rfl,hs5⟩:=hp
      have HN7:=hid (show Nb w5 (w5.setCell ⟨k11,0,none⟩ (.bool true)) k11 from (Nb.refl w5 k11).set 0 _)
      have HX7:=hid (show (w5.setCell ⟨k11,0,none⟩ (.bool true)).heap[k11]? = some (.cells #[.bool true,.int .i64 0,.int .i64 0,.slice none 0 0,.slice none 0 0,.string ⟨#[]⟩,.int .i64 0,.string ⟨#[]⟩,.int .i64 0,.bool false,.slice none 0 0] 46 (0,0)) by
       have h:=blk_set HX5.out 0 (.bool true)
       simpa using h)
      have HEND:=hid (show ChoM wo (w5.setCell ⟨k11,0,none⟩ (.bool true)) k11 (noC true [])∧Sta (w5.setCell ⟨k11,0,none⟩ (.bool true)) S n0 lp sb ob mb lv cv hs cs ⟨m,a,b,c,d,e,f,g⟩ st2∧FrS wo (w5.setCell ⟨k11,0,none⟩ (.bool true)) from ⟨⟨none,0,0,none,0,0,HX7.out,Kd.R_nil _ _ _ _ _,Kd.R_nil _ _ _ _ _⟩,hs5.nb HN7.out HX5.out (by have:=HKK.out;omega),HFO.out.nb HN7.out (by have:=HKK.out;omega)⟩)
      clear hs5
      go_wp2_with fail
      go_meet
      case rel=>exact ⟨_,rfl,⟨by rw [HSF.out];exact HEND.out⟩⟩
   case rest =>
    obtain ⟨c5,ec5,hcut⟩:=hcut
    obtain ⟨⟨A3,n3,c3,A4,n4,c4,hb5,hr3,hr4⟩,hs5,hf5⟩:=hcut.out
    clear hcut l0 l1 l2 l3 l4
    obtain ⟨st1,hst1⟩ : ∃ x,x=(stepF F D st ⟨g0,g1,g2,g3,g4⟩).1:=⟨_,rfl⟩
    rw [← hst1] at hs5
    have HST1:=hid hst1
    have HC5:=hid ec5
    have HS5:=hid hs5
    have HF5:=hid hf5
    have HV3:=hid hr3
    have HV4:=hid hr4
    obtain ⟨f46,hf46⟩ : ∃ f,f=bkC c5 A3 n3 c3 A4 n4 c4:=⟨_,rfl⟩
    have HFE:=hid hf46
    have HX16:=hid (show wc.heap[k11]? = some (.cells (f46 (.slice none 0 0)) 46 (0,0)) by rw [hf46];exact hb5)
    have HFF:=hid (show (∀ v u,(f46 v).setIfInBounds 10 u=f46 u)∧∀ v,(f46 v)[10]? = some v by rw [hf46];exact ⟨fun v u=>rfl,fun v=>rfl⟩)
    obtain ⟨es,ck,mp1,mp2,mp3⟩:=hs5.cor.mp
    obtain ⟨dA,dn,dc,fs,hlp5,_⟩:=hs5.df
    have HMP:=hid (show ∀ W,Nb wc W k11→W.cell? ⟨lp,0,none⟩=some (ptr sb)∧W.cell? ⟨sb,3,none⟩=some (.map (some mb))∧W.heap[mb]? = some (.map (rawM .u64 es) ck) from fun W hN=>by
     refine ⟨blk_cell ((hN.ty hb5 lp _ _ hlp5 (by decide)).trans hlp5) 0,blk_cell ((hN.ty hb5 sb _ _ hs5.cor.st.ctl.2 (by decide)).trans hs5.cor.st.ctl.2) 3,(hN.2 mb (blk_lt mp1) (fun e=>?_)).trans mp1⟩
     rw [e,hb5] at mp1
     injection mp1 with mp1
     cases mp1)
    have HLV:=hid (show (∀ (k:Int) (v:Value),lookE k es=some v→v=.agg #[])∧∀ k:Int,(lookE k es).isSome=decide (k∈st1.run) from ⟨fun k v hv=>look_val mp3 hv,fun k=>by rw [look_mem,mp2]⟩)
    have HSN:=hid (show ∀ W,Nb wc W k11→Sta W S n0 lp sb ob mb lv cv hs cs ⟨m,a,b,c,d,e,f,g⟩ st1 from fun W hN=>hs5.nb hN hb5 (by have:=HKK.out;omega))
    have HOLD:=hid (show ∀ W,Nb wc W k11→Below w.heap.size w W from fun W hN=>cor_old (HSN.out W hN).cor HGH.out HSA.out HB2.out ((HB2.out.mono (Nat.zero_le _)).trans (HBR.out.trans (hf5.1.trans hN.1))))
    clear hb5 hr3 hr4 hs5 hf5 hst1 ec5 mp1 mp2 mp3 hlp5 hf46
    obtain ⟨run1,hrun1⟩ : ∃ r,r=st1.run:=⟨_,rfl⟩
    rw [← hrun1] at HLV
    have HRU:=hid hrun1
    clear hrun1
    go_wp2_with fail
    go_loopg [98] ls.length (fun kq v98 wr=>∃ i:Nat,v98=.int .i64 (i:Int)∧Aside0 (i+kq=ls.length∧∃ A nn cc,RuL wc wr k11 f46 (10000*i) A nn cc (rnn run1 (ls.take i).flatten)))
    case atStart=>exact ⟨0,rfl,⟨by omega,none,0,0,⟨Nb.refl _ _,HX16.out,Kd.R_nil _ _ _ _ _,by simp [rnn]⟩⟩⟩
    case round =>
     obtain ⟨wq,rfl⟩ : ∃ wq,wq=wr:=⟨_,rfl⟩
     obtain ⟨gq,rfl⟩ : ∃ gq,gq=gk:=⟨_,rfl⟩
     obtain ⟨i,rfl,HQI⟩:=hrel
     have HI:=hid HQI.out.1
     have HF0:=hid HQI.out.2
     clear HQI
     by_cases hi:i<ls.length
     ·have d1:decide ((i:Int)<(ls.length:Int))=true:=decide_eq_true (by omega)
      have si:IntKind.i64.wrap ((i:Int)+1)=((i+1:Nat):Int):=by rw [IntWalk.i64_in _ (by have:=HX.out;omega)];omega
      have HGK:=hid (show gq - 1<gq∧i+1+(gq - 1)=ls.length by have:=HI.out;omega)
      obtain ⟨ad,A9,c9,hA,hcw,hc9,hF9⟩:=row68 HC.out hi
      subst hA
      have hcell:wq.cell? (ad.add i)=some (.slice A9 (ls.getD i []).length c9):=by
       obtain ⟨A,nn,cc,hF⟩:=HF0.out
       exact ((HOLD.out wq hF.nb).cell (World.block_lt_of_cell? w _ hcw)).trans hcw
      have HR:=hid hF9
      have hl:=HLS.out (ls.getD i []) (by simp [hi])
      have HTF:=hid (flat_take hi)
      clear hF9 HI hcw
      have HLI:=hid hl
      have HCI:=hid hc9
      clear hl hc9
      generalize ls.getD i []=l at *
      go_wp2_with fail
      go_loopg [104] l.length (fun kq v104 wr=>∃ j:Nat,v104=.int .i64 (j:Int)∧Aside0 (j+kq=l.length∧∃ A nn cc,RuL wc wr k11 f46 (10000*i+j) A nn cc (rnn run1 ((ls.take i).flatten++l.take j))))
      case atStart=>exact ⟨0,rfl,⟨by omega,by obtain ⟨A,nn,cc,hF⟩:=HF0.out;exact ⟨A,nn,cc,by rw [List.take_zero,List.append_nil];exact hF⟩⟩⟩
      case round =>
       clear hcell
       obtain ⟨wz,rfl⟩ : ∃ wz,wz=wr:=⟨_,rfl⟩
       obtain ⟨j2,rfl,HQJ⟩:=hrel
       have HJ:=hid HQJ.out.1
       have HFJ:=hid HQJ.out.2
       clear HQJ
       by_cases hj2:j2<l.length
       ·have d2:decide ((j2:Int)<(l.length:Int))=true:=decide_eq_true (by omega)
        have sj2:IntKind.i64.wrap ((j2:Int)+1)=((j2+1:Nat):Int):=by rw [IntWalk.i64_in _ (by have:=HLI.out.1;omega)];omega
        have HGJ:=hid (show gk - 1<gk∧j2+1+(gk - 1)=l.length by have:=HJ.out;omega)
        obtain ⟨A,nn,cc,hF⟩:=HFJ.out
        have HF:=hid hF
        clear hF HFJ
        obtain ⟨ad2,hA2,k0,k1,k2,k3,k4,k5,k6,k7,k8⟩:=at_T68 (Kd.C_below HR.out (HOLD.out wz HF.out.nb)) (j2:Int) (by omega) (by omega)
        subst hA2
        have e0:rd_T68 l (j2:Int)=l.getD j2 z68:=by unfold rd_T68;rw [Int.toNat_natCast]
        rw [e0] at k0 k1 k2 k3 k4 k5 k6 k7 k8
        rw [Int.toNat_natCast] at k0 k1 k2 k3 k4 k5 k6 k7 k8
        have hit:=(HLI.out.2 (l.getD j2 z68) (by simp [hj2])).n0
        have HTA:=hid (take_at hj2)
        clear HJ e0
        generalize l.getD j2 z68=t at *
        obtain ⟨h0,h1,h2,h3,h4,h5,h6,h7,h8⟩:=t
        dsimp only at k0 k1 k2 k3 k4 k5 k6 k7 k8 hit
        go_upto_region 25 with (fail)
        obtain ⟨w20,hw20⟩ : ∃ w20,w20=wz.alloc (.cells #[.int .i64 h0,.string h1,.int .i64 h2,.string h3,.int .i64 h4,.int .i64 h5,.int .i64 h6,.int .i64 h7,.int .i64 h8] 68):=⟨_,rfl⟩
        rw [← hw20]
        obtain ⟨k17,hk17⟩ : ∃ b,b=wz.heap.size:=⟨_,rfl⟩
        rw [← hk17]
        have HB20:=hid (show Below wz.heap.size wz w20 by rw [hw20];exact below_alloc (Below.refl _ _) _)
        have HY:=hid (show w20.heap[k17]? = some (.cells #[.int .i64 h0,.string h1,.int .i64 h2,.string h3,.int .i64 h4,.int .i64 h5,.int .i64 h6,.int .i64 h7,.int .i64 h8] 68 (0,0)) by rw [hw20,hk17];exact blk_new wz _)
        clear hw20 hk17 k0 k1 k2 k3 k4 k5 k6 k7 k8
        have HF20:=hid (HF.out.below HB20.out)
        obtain ⟨p1,p2,p3⟩:=HMP.out w20 HF20.out.nb
        obtain ⟨r,hr⟩ : ∃ r,r=decide (h0∈run1):=⟨_,rfl⟩
        have K67:=hid (running_calls (w:=w20) p1 p2 p3 ((HLV.out.2 h0).trans hr.symm) (fun v hv=>HLV.out.1 h0 v hv))
        have HRD:=hid hr
        have u0:=u64_in hit
        have y0:=blk_cell HY.out 0
        clear p1 p2 p3 hr
        go_wp2_with fail
        refine K67.out.mono ?_
        rintro e21 w21 ⟨rfl,hb21⟩
        have HF21:=hid (HF20.out.below hb21)
        have y0':w21.cell? ⟨k17,0,none⟩=some (.int .i64 h0):=(hb21.cell (World.block_lt_of_cell? w20 _ y0)).trans y0
        have m10:w21.cell? ⟨k11,10,none⟩=some (.slice A nn cc):=(blk_cell HF21.out.blk 10).trans (HFF.out.2 _)
        clear hb21 y0 K67
        cases r with
        | true =>
         have HYS:=hid (show rnn run1 ((ls.take i).flatten++l.take (j2+1))=rnn run1 ((ls.take i).flatten++l.take j2)++[h0] by
          rw [HTA.out,← List.append_assoc,rnn_app]
          simp [rnn,of_decide_eq_true HRD.out.symm])
         go_wp2_with (first | ((with_reducible refine gate_builtin (b:=.append) (xs:=#[.tmp 114,.tmp 117]) rfl ?_);at_builtin;refine Kd.R_append (Kd.int .i64) (w0:=w21) wc.heap.size rfl (.tmp 114) (.tmp 117) 28 3 (.int .i64 0) 8 rfl Tryz.underlying28 info3 rfl (by decide) (by omega) (.slice A nn cc) (rnn run1 ((ls.take i).flatten++l.take j2)) h0 [.int .i64 h0] (fun _=>True) (fun _=>False) rfl rfl ?aP (fun _ hk=>hk.elim) ?aF ?aO ?aB ?aS ?aL ?_;(case aP=>exact rfl);(case aB=>exact Below.refl _ _);(case aF=>exact (fun _ _=>trivial));(case aO=>exact HF21.out.row);(case aS=>exact HF21.out.nb.1.size);(case aL=>(have h1:=HF21.out.len;have h2:=HLI.out.1;have h3:=HX.out.2.1;omega));intro v22 w22 ho hb hg hat;obtain ⟨n22,A22,c22,hv⟩ : ∃ n A c,v22=.slice A n c:=(by obtain ⟨A,c,e⟩:=Kd.R_slice ho;exact ⟨_,A,c,e⟩);subst hv;have HF22:=hid (HF21.out.set HFF.out.1 ho hg);have h22:w22.heap[k11]? = some (.cells (f46 (.slice A nn cc)) 46 (0,0)):=(hg.block k11 (blk_lt HF21.out.blk) (fun e=>by (obtain ⟨cs2,hc2⟩:=Kd.R_typed HF21.out.row k11 e.symm;rw [HF21.out.blk] at hc2;injection hc2 with hc2;injection hc2 with _ e _;exact absurd e (by decide)))).trans HF21.out.blk;have m10':w22.cell? ⟨k11,10,none⟩=some (.slice A nn cc):=(blk_cell h22 10).trans (HFF.out.2 _);have m10f:=blk_frozen h22 10;clear ho hb hg hat h22))
         go_roundg (gk - 1)
         case measure=>exact HGJ.out.1
         case rel=>exact ⟨j2+1,rfl,⟨HGJ.out.2,A22,n22,c22,by rw [HYS.out];exact HF22.out⟩⟩
        | false =>
         have HYS:=hid (show rnn run1 ((ls.take i).flatten++l.take (j2+1))=rnn run1 ((ls.take i).flatten++l.take j2) by
          rw [HTA.out,← List.append_assoc,rnn_app]
          simp [rnn,of_decide_eq_false HRD.out.symm])
         go_wp2_with fail
         go_roundg (gk - 1)
         case measure=>exact HGJ.out.1
         case rel=>exact ⟨j2+1,rfl,⟨HGJ.out.2,A,nn,cc,by rw [HYS.out];exact HF21.out.mono (by omega)⟩⟩
       ·have d2:decide ((j2:Int)<(l.length:Int))=false:=decide_eq_false (by omega)
        have HFE2:=hid (show ∃ A nn cc,RuL wc wz k11 f46 (10000*(i+1)) A nn cc (rnn run1 (ls.take (i+1)).flatten) by
         obtain ⟨A,nn,cc,hF⟩:=HFJ.out
         rw [List.take_of_length_le (show l.length≤j2 by omega),← HTF.out] at hF
         exact ⟨A,nn,cc,hF.mono (by have:=HJ.out;have:=HLI.out.1;omega)⟩)
        go_wp2_with fail
        go_roundg (gq - 1)
        case measure=>exact HGK.out.1
        case rel=>exact ⟨i+1,rfl,⟨HGK.out.2,HFE2.out⟩⟩
     ·have d1:decide ((i:Int)<(ls.length:Int))=false:=decide_eq_false (by omega)
      obtain ⟨A,nn,cc,hF⟩:=HF0.out
      rw [List.take_of_length_le (show ls.length≤i by omega)] at hF
      have HF:=hid hF
      have hblk:wq.heap[k11]? = some (.cells (bkC c5 A3 n3 c3 A4 n4 c4 (.slice A nn cc)) 46 (0,0)):=by rw [← HFE.out];exact hF.blk
      clear HF0 hF
      have x0:wq.cell? ⟨k11,0,none⟩=some (.bool c5.f0):=blk_cell hblk 0
      have x1:wq.cell? ⟨k11,1,none⟩=some (.int .i64 c5.f1):=blk_cell hblk 1
      have x2:wq.cell? ⟨k11,2,none⟩=some (.int .i64 c5.f2):=blk_cell hblk 2
      have x3:wq.cell? ⟨k11,3,none⟩=some (.slice A3 n3 c3):=blk_cell hblk 3
      have x4:wq.cell? ⟨k11,4,none⟩=some (.slice A4 n4 c4):=blk_cell hblk 4
      have x5:wq.cell? ⟨k11,5,none⟩=some (.string c5.f5):=blk_cell hblk 5
      have x6:wq.cell? ⟨k11,6,none⟩=some (.int .i64 c5.f6):=blk_cell hblk 6
      have x7:wq.cell? ⟨k11,7,none⟩=some (.string c5.f7):=blk_cell hblk 7
      have x8:wq.cell? ⟨k11,8,none⟩=some (.int .i64 c5.f8):=blk_cell hblk 8
      have x9:wq.cell? ⟨k11,9,none⟩=some (.bool c5.f9):=blk_cell hblk 9
      have x10:wq.cell? ⟨k11,10,none⟩=some (.slice A nn cc):=blk_cell hblk 10
      have hon:wo.heap.size≤k11:=by have:=HKK.out;omega
      have HFQ:=hid (HF5.out.nb HF.out.nb hon)
      have HRV:=hid (r46_keep HR8.out HFQ.out)
      have stay3:∀ {v:Value} {l:List Int},Kd.R (Kd.int .i64) 3 wc wo.heap.size (fun _=>True) v l→Kd.R (Kd.int .i64) 3 wq n0 (fun k=>wo.heap.size≤k) v l:=fun {v l} h=>Kd.R_lower (Kd.R_mono (Kd.R_bound (R_stay h rfl (fun k _ e=>by
       obtain ⟨cs2,hc2⟩:=Kd.R_typed h k e
       exact HF.out.nb.ty HX16.out k _ _ hc2 (by decide)))) (fun k hk=>hk.2.1)) HKK.out.2.2
      have hrow:Kd.R (Kd.int .i64) 3 wq n0 (fun k=>wo.heap.size≤k) (.slice A nn cc) (rnn run1 ls.flatten):=Kd.R_lower (Kd.R_mono (Kd.R_bound HF.out.row) (fun k hk=>Nat.le_trans HF5.out.1.size hk.2.1)) (Nat.le_trans HKK.out.2.2 HF5.out.1.size)
      have HM:=hid (k46_mkM wq n0 (fun k=>wo.heap.size≤k) { c5 with f10:=rnn run1 ls.flatten } (stay3 HV3.out) (stay3 HV4.out) hrow)
      have HOW:=hid (show ∀ k,wo.heap.size≤k→True∧some k≠(Value.slice A8 n8 c8).ownBlock from fun k hk=>⟨trivial,fun e=>by
       have h1:=Kd.R_lt HR8.out k e.symm
       omega⟩)
      have HSZ9:=hid (show n0≤wq.heap.size from Nat.le_trans HKK.out.2.2 HFQ.out.1.size)
      have HSQ:=hid (HSN.out wq HF.out.nb)
      have HOUT:=hid (show (runF F D ls (st0 xs.length) (ss.take j)).length≤200000 by rw [runF_len,List.length_take];have:=HX.out;omega)
      generalize hout:runF F D ls (st0 xs.length) (ss.take j)=out at *
      have HOE:=hid hout
      clear hblk hon stay3 hrow hout
      go_wp2_with (first | ((with_reducible refine gate_builtin (b:=.append) (xs:=#[.tmp 122,.tmp 124]) rfl ?_);at_builtin;refine Kd.R_append k46 (w0:=wq) n0 rfl (.tmp 122) (.tmp 124) 38 46 (.agg #[(.bool false),(.int .i64 0),(.int .i64 0),(.slice none 0 0),(.slice none 0 0),(.string ⟨#[]⟩),(.int .i64 0),(.string ⟨#[]⟩),(.int .i64 0),(.bool false),(.slice none 0 0)]) 152 rfl Tryz.underlying38 info46 rfl (by decide) (by omega) (.slice A8 n8 c8) out { c5 with f10:=rnn run1 ls.flatten } [.bool c5.f0,.int .i64 c5.f1,.int .i64 c5.f2,.slice A3 n3 c3,.slice A4 n4 c4,.string c5.f5,.int .i64 c5.f6,.string c5.f7,.int .i64 c5.f8,.bool c5.f9,.slice A nn cc] (fun _=>True) (fun k=>wo.heap.size≤k) rfl rfl ?aP HOW.out ?aF ?aO ?aB ?aS ?aL ?_;(case aP=>exact HM.out);(case aB=>exact Below.refl _ _);(case aF=>exact (fun _ _=>trivial));(case aO=>exact HRV.out);(case aS=>exact HSZ9.out);(case aL=>(have:=HOUT.out;omega));intro v9 w23 ho hb hg hat;obtain ⟨n23,A23,c23,hv⟩ : ∃ n A c,v9=.slice A n c:=(by obtain ⟨A,c,e⟩:=Kd.R_slice ho;exact ⟨_,A,c,e⟩);subst hv;have HR23:=hid ho;have HG23:=hid hg;clear ho hb hg hat))
      have HS23:=hid (show Sta w23 S n0 lp sb ob mb lv cv hs cs ⟨m,a,b,c,d,e,f,g⟩ st1 from HSQ.out.keep (HSQ.out.cor.grow HRV.out (by decide) (Nat.le_refl _) HG23.out) (fun b arr t hb ht=>HG23.out.block b (blk_lt hb) (fun e=>by
       obtain ⟨cs2,hc2⟩:=Kd.R_typed HRV.out b e.symm
       rw [hb] at hc2
       injection hc2 with hc2
       injection hc2 with _ e _
       rw [e] at ht
       exact absurd ht (by decide))))
      have HB23:=hid (show Below 0 w2 w23 from (HBR.out.trans HFQ.out.1).trans ((Below.refl 0 wq).grown HG23.out (Nat.zero_le _) (fun _ _=>Nat.zero_le _)))
      go_roundg (gs - 1)
      case measure=>exact HGS.out.1
      case rel=>exact ⟨j+1,n23,A23,c23,rfl,rfl,⟨HGS.out.2,HB23.out,by rw [HTK.out,runS_snoc,HRS.out,← HST1.out];exact HS23.out,by rw [HTK.out,runS_snoc,HRS.out];exact step_inv HSM.out HK.out HPI.out,by rw [HTK.out,runF_snoc,HRS.out,HOE.out,step_ys,← HC5.out,← HST1.out,runs_rnn,← HRU.out];exact HR23.out⟩⟩
  ·have d1:decide ((j:Int)<(ss.length:Int))=false:=decide_eq_false (by omega)
   have HE:=hid (show Kd.R k46 46 wo w.heap.size (fun _=>True) (.slice A8 n8 c8) (runF F D ls (st0 xs.length) ss) by
    have h:=HR8.out
    rw [List.take_of_length_le (by omega)] at h
    exact Kd.R_lower h (by rw [HN0.out];exact HB2.out.size))
   go_wp2_with fail
   rw [HQ.out]
   exact ⟨_,rfl,HE.out,HOR.out⟩
end Go.Proofs.YtnineoajmgneiaaGreat.Rg
namespace Go.Proofs.YtnineoajmgneiaaGreat.Rg
open Go.RowKit YtnineoajmgneiaaGreatW YtnineoajmgneiaaGreatW.PrintWords YtnineoajmgneiaaGreatW.PrintLast YtnineoajmgneiaaGreatW.PrintMore Fr L Ky Tm Lm It Nw Bd Tp Pu Pt Rn
theorem c42_one {w:World} {b:Nat} {s:S42} (h0:w.cell? ⟨b,0,none⟩=some (.int .i64 s.f0)) (h1:w.cell? ⟨b,1,none⟩=some (.int .i64 s.f1)) (h2:w.cell? ⟨b,2,none⟩=some (.int .i64 s.f2)) (h3:w.cell? ⟨b,3,none⟩=some (.int .i64 s.f3)) (h4:w.cell? ⟨b,4,none⟩=some (.int .i64 s.f4)):Kd.C k42 w (some ⟨b,0,none⟩) 1 [s]:=by
 refine ⟨rfl,by omega,fun _=>⟨_,rfl,fun j x hj=>?_⟩⟩
 match j,hj with
 | 0,hj =>
  injection hj with hj
  subst hj
  refine ⟨[.int .i64 s.f0,.int .i64 s.f1,.int .i64 s.f2,.int .i64 s.f3,.int .i64 s.f4],rfl,⟨_,_,rfl,rfl,⟨_,_,rfl,rfl,⟨_,_,rfl,rfl,⟨_,_,rfl,rfl,rfl⟩⟩⟩⟩,fun i u hu=>?_⟩
  have e:((⟨b,0,none⟩ : Addr).add (0*k42.sz+i))=⟨b,i,none⟩:=by rw [Nat.zero_mul,Nat.zero_add,add_off,Nat.zero_add]
  rw [e]
  match i,hu with
  | 0,hu=>injection hu with hu;rw [← hu];exact h0
  | 1,hu=>injection hu with hu;rw [← hu];exact h1
  | 2,hu=>injection hu with hu;rw [← hu];exact h2
  | 3,hu=>injection hu with hu;rw [← hu];exact h3
  | 4,hu=>injection hu with hu;rw [← hu];exact h4
  | i+5,hu=>simp at hu
theorem lbT_try [Ghost] {w w':World} {S:Nat→Prop} {n0 sb ob mb N:Nat} {lv cv:Value} {hs:List Hd} {cs:List Nat} {o:Lm.Op} {rgs:List (List Rg)} {run:List Int} {c:Cd} {cdb n:Nat} {h0 hn:Hd} {e:Ending} (h:LbT w S n0 sb ob mb lv cv hs cs o rgs run c cdb n h0 hn e w') (en:hs[n]? = some hn) (hN:N≤cdb) :
  TryP w S n0 sb ob mb lv cv hs cs o rgs run c cdb (fun b=>N≤b) (some ⟨takeTop rE h0.ts,botL hn.ts (rgOf (takeTop rE h0.ts)),n,rgOf (takeTop rE h0.ts),nextR (rgOf (takeTop rE h0.ts)) (botL hn.ts (rgOf (takeTop rE h0.ts))),enter2 rgs 0 n (rgOf (takeTop rE h0.ts)) (nextR (rgOf (takeTop rE h0.ts)) (botL hn.ts (rgOf (takeTop rE h0.ts))))⟩) e w':=by
 obtain ⟨he,d,tops,bots,⟨s1,s2,s3,s4,s5,s6,s7,s8,s9,s10,s11,s12,s13,s14,s15⟩,h2,h3,h4,h5,h6,h7,h9,h8⟩:=h
 rw [h3] at h4 h6 h8
 rw [h4] at h8
 exact ⟨h7.toF hN,he,h8,d,tops,bots,hn,en,⟨s1,s2,s3,s4,s5,s6,s7,s8,s9,s10,s11,s13,s14,s15⟩,h3,h4,h5,h6,h9⟩
theorem takeTop_sub {ts:List Tb} {t:Tb} (h:t∈takeTop rE ts):t∈ts:=by
 rw [takeTop_pre] at h
 exact List.mem_of_mem_take h
theorem takeTop_len (ts:List Tb):(takeTop rE ts).length≤ts.length:=by
 have h:=congrArg List.length (takeTop_pre ts rE)
 rw [List.length_take] at h
 omega
/-- What one step of level 0 hands back. -/
def Run1Post (w:World) (T B:List Tb) (e:Ending) (w':World):Prop:=∃ (v:Value) (x:S46),e=.returned v∧Kd.R k46 46 w' w.heap.size (fun _=>True) v [x]∧x.f0=true∧x.f3=T.map (·.num)∧x.f4=B.map (·.num)∧FrT w w'
set_option maxRecDepth 100000 in
set_option maxHeartbeats 1000000 in
theorem run1_calls {w:World} {A0:Option Addr} {gs c0 sc0 n sc fx:Nat} {comp tn dnum:Int} {ls:List (List S68)} {m a b c d e f g:Int} {xs:List (List Tb)} {x0 xn:List Tb}
  (hxs:xs=ls.map (·.map tbOf)) {ok:Nat→Prop} (hF:Kd.F (Kd.slice 68 k68) w ok A0 ls.length ls) (hokt:∀ k,ok k→∃ arr t,w.heap[k]? = some (Obj.cells arr t (0,0))∧t∉[144,126]) (hc0:ls.length≤c0) (hm:m=(xs.length:Int)) (hx':ls.length≤100) (h2:2≤ls.length) (hlen:∀ l∈ls,l.length≤10000)
  (hin:∀ l∈ls,∀ t∈l,InTab t) (hord:∀ (i:Nat) (l:List Tb),xs[i]? = some l→Od.SW l.length (It.ltOf i l)∧Od.ord l.length (It.ltOf i l)=List.range l.length) (hg:IntKind.u64.wrap g=g) (hmul:2≤a) (hbase:0≤d)
  (q0:w.cell? ⟨gs,0,none⟩=some (.int .i64 0)) (q1:w.cell? ⟨gs,1,none⟩=some (.int .i64 0)) (q2:w.cell? ⟨gs,2,none⟩=some (.int .i64 comp)) (q3:w.cell? ⟨gs,3,none⟩=some (.int .i64 tn)) (q4:w.cell? ⟨gs,4,none⟩=some (.int .i64 dnum))
  (hcv:∀ W,(convert 3 62 (.int .i64 tn)).run Tryz.prog W=.ok (.float .f64 fx) W) (hq:∀ W,(binOp .quo 62 (.float .f64 fx) (.float .f64 4621819117588971520)).run Tryz.prog W=.ok (.float .f64 sc) W)
  (e0:xs[0]? = some x0) (en:xs[n]? = some xn) (hn1:1≤n) (hbl:Tg.bl4 ⟨m,a,b,c,d,e,f,g⟩ (xs.map total)=(n:Int)) (hk:∀ l∈xs,∀ t∈l,KLen t)
  (hsc:sc≤9218868437227405312) (hlow:lowF sc=false) (hpos:0<x0.length) (hmo:Mono xn (rgOf (takeTop rE x0))) (hle:ltN xn (rgOf (takeTop rE x0))≤rtN xn (rgOf (takeTop rE x0))) :
  Calls Tryz.prog 55 #[.slice A0 ls.length c0,.agg #[.int .i64 m,.int .i64 a,.int .i64 b,.int .i64 c,.int .i64 d,.int .i64 e,.int .i64 f,.int .i64 g],.slice (some ⟨gs,0,none⟩) 1 sc0] w (Run1Post w (takeTop rE x0) (botL xn (rgOf (takeTop rE x0)))):=by
 have hxl:xs.length=ls.length:=by rw [hxs,List.length_map]
 have htb:∀ l∈xs,l.length≤10000∧∀ t∈l,KLen t∧Fit t:=by
  intro l hl
  rw [hxs] at hl
  obtain ⟨l0,h0,rfl⟩:=List.mem_map.1 hl
  refine ⟨by rw [List.length_map];exact hlen l0 h0,fun t ht=>?_⟩
  obtain ⟨t0,h1,rfl⟩:=List.mem_map.1 ht
  exact ⟨hk _ (by rw [hxs];exact List.mem_map_of_mem h0) _ (List.mem_map_of_mem h1),(tb_ok (hin l0 h0 t0 h1)).2⟩
 have m0:x0∈xs:=List.mem_of_getElem? e0
 have mn:xn∈xs:=List.mem_of_getElem? en
 have hnl:=(List.getElem?_eq_some_iff.1 en).1
 have hkl:∀ l∈xs,l.length≤10000∧∀ t∈l,KLen t:=fun l hl=>⟨(htb l hl).1,fun t ht=>((htb l hl).2 t ht).1⟩
 obtain ⟨x,hx⟩ : ∃ x:Ch,x=⟨takeTop rE x0,botL xn (rgOf (takeTop rE x0)),n,rgOf (takeTop rE x0),nextR (rgOf (takeTop rE x0)) (botL xn (rgOf (takeTop rE x0))),enter2 (List.replicate xs.length []) 0 n (rgOf (takeTop rE x0)) (nextR (rgOf (takeTop rE x0)) (botL xn (rgOf (takeTop rE x0))))⟩:=⟨_,rfl⟩
 have i1:IvR (rgOf (takeTop rE x0)):=iv_of (takeTop_pos hpos) (fun t ht=>(hkl _ m0).2 t (takeTop_sub ht))
 have i2:IvR (nextR (rgOf (takeTop rE x0)) (botL xn (rgOf (takeTop rE x0)))):=iv_next i1 (fun t ht=>(hkl _ mn).2 t (botL_sub ht))
 have hok:ChOk xs (st0 xs.length) x:=by
  rw [hx]
  refine ⟨fun t ht=>?_,⟨takeTop_pos hpos,Nat.le_trans (takeTop_len _) (hkl _ m0).1⟩,Nat.le_trans (botL_len _ _) (hkl _ mn).1,.inr rfl,.inr i2.1,hnl,enter_len _ _ _ _ _,fun l hl=>mem_enter hl⟩
  rcases List.mem_append.1 ht with ht | ht
  ·exact ⟨x0,m0,takeTop_sub ht⟩
  ·exact ⟨xn,mn,botL_sub ht⟩
 have key:=runs_calls (w:=w) (A0:=A0) (As:=some ⟨gs,0,none⟩) (c0:=c0) (cs0:=sc0) (ls:=ls) (ss:=[⟨0,0,comp,tn,dnum⟩]) (m:=m) (a:=a) (b:=b) (c:=c) (d:=d) (e:=e) (f:=f) (g:=g) (xs:=xs) (F:=fun _ _=>some x) (D:=fun _ _=>none) hxs (Kd.F_now hF) (c42_one (s:=⟨0,0,comp,tn,dnum⟩) q0 q1 q2 q3 q4) hc0 hm hx' h2 hlen hin hord hg hk (by simp) (fun j s hj hp=>?_)
 ·refine key.mono fun e2 w' ⟨v,he,hr,hb⟩=>?_
  have ex:runF (fun _ _=>some x) (fun _ _=>none) ls (st0 xs.length) [⟨0,0,comp,tn,dnum⟩]=[choC 0 x (runs ls ((st0 xs.length).add 0 x).run)]:=rfl
  rw [ex] at hr
  have ei:x.r1.inf=false:=by rw [hx];exact i1.2
  refine ⟨v,_,he,hr,?_,?_,?_,hb.mono (Nat.zero_le _),fun b hl=>hb.block b hl⟩
  ·unfold choC;rw [ei];rfl
  ·unfold choC;rw [ei,hx];rfl
  ·unfold choC;rw [ei,hx];rfl
 ·match j,hj with
  | 0,hj =>
   injection hj with hj
   subst hj
   refine ⟨⟨sc,⟨fx,hcv,hq⟩,fun _=>?_⟩,fun hn=>absurd rfl hn,fun y hy=>by injection hy with hy;rw [← hy];exact hok,fun n st' _ hd=>by cases hd⟩
   intro gh w2 S n0 lp sb ob mb lv cv hs cs hhs hlc hsta
   have hl:hs.length=xs.length:=by rw [← hhs,List.length_map]
   have tot:(hs.map fun x=>total x.ts)=xs.map total:=by rw [← hhs,List.map_map];rfl
   obtain ⟨h0,g0,rfl⟩:=hd_of hhs e0
   obtain ⟨hn,gn,rfl⟩:=hd_of hhs en
   have hsz:∀ x∈hs,x.ts.length≤10000∧∀ t∈x.ts,KLen t:=fun y hy=>hkl _ (by rw [← hhs];exact List.mem_map_of_mem hy)
   refine fill_calls (i:=0) (n:=n) (ch:=some x) hsta (by simp [runS,st0]) g0 hn1 (by omega) (by rw [tot];exact hbl) hmul hbase (by rw [hl];exact hm) (by omega) (by omega) (by rw [tot];exact sizes_ok (fun l hl=>⟨by have:=(htb l hl).1;omega,fun t ht=>((htb l hl).2 t ht).2⟩)) hsz hlc (fun y hy=>by injection hy with hy;rw [← hy,hhs];exact hok) (fun y hy _=>by injection hy with hy;rw [← hy,hx];exact ⟨i1,i2⟩) ?_
   intro w3 N cdb tc fc tA fA nx hnx hcor hblk hcd hN hfl
   have enx:nx=hn:=by
    have e:nxt hs.length n 0=n:=rfl
    rw [e,gn] at hnx
    injection hnx with hnx
    exact hnx.symm
   subst enx
   rw [if_pos rfl,hx]
   exact (l0_calls (lbase_calls hcor hblk hcd g0 gn hn1 rfl rfl hsz hlc (by omega) (rgs_nil _) hsc hmo hle) hlow hpos (hit_nil _ _ _) (hit_nil _ _ _)).mono (fun e w' hp=>lbT_try hp gn hN)
  | j+1,hj=>simp at hj
end Go.Proofs.YtnineoajmgneiaaGreat.Rg
namespace Go.Proofs.YtnineoajmgneiaaGreat.Lw
open Lib (hid)
open Go.RowKit YtnineoajmgneiaaGreatW YtnineoajmgneiaaGreatW.PrintWords YtnineoajmgneiaaGreatW.PrintLast YtnineoajmgneiaaGreatW.PrintMore Fr L Ky Tm Lm It Tg Sk Nw Bd Tp Rg Pk
open YtnineoajmgneiaaGreat.Od (ord)
def T1:S68:=⟨1,⟨#[97]⟩,0,⟨#[98]⟩,0,5,0,0,0⟩
def T2:S68:=⟨2,⟨#[97]⟩,0,⟨#[99]⟩,0,5,0,0,0⟩
def LS:List (List S68):=[[T1],[T2]]
def XS:List (List Tb):=LS.map (·.map tbOf)
def OP:Lm.Op:=⟨2,10,2,1,1000,100,100,0⟩
def tcl (t:S68):List Value:=[.int .i64 t.f0,.string t.f1,.int .i64 t.f2,.string t.f3,.int .i64 t.f4,.int .i64 t.f5,.int .i64 t.f6,.int .i64 t.f7,.int .i64 t.f8]
theorem one_C {W:World} {b:Nat} {t:S68} (h:W.heap[b]? = some (.cells (tcl t).toArray 68 (0,0))):Kd.C k68 W (some ⟨b,0,none⟩) 1 [t]:=by
 refine ⟨rfl,by omega,fun _=>⟨_,rfl,fun j p hj=>?_⟩⟩
 cases j with
 | zero =>
  simp only [List.getElem?_cons_zero,Option.some.injEq] at hj
  subst hj
  refine ⟨tcl t,rfl,k68_mk W t,fun i u hi=>?_⟩
  rw [Addr.add_lit,blk_cell h,show 0+(0*k68.sz+i)=i by omega,List.getElem?_toArray]
  exact hi
 | succ j=>simp at hj
theorem ls_C {W:World} {b0 b1 b2:Nat} (h0:W.heap[b0]? = some (.cells (tcl T1).toArray 68 (0,0))) (h1:W.heap[b1]? = some (.cells (tcl T2).toArray 68 (0,0)))
  (h2:W.heap[b2]? = some (.cells #[.slice (some ⟨b0,0,none⟩) 1 1,.slice (some ⟨b1,0,none⟩) 1 1] 34 (0,0))):Kd.C (Kd.slice 68 k68) W (some ⟨b2,0,none⟩) LS.length LS:=by
 refine ⟨rfl,by decide,fun _=>⟨_,rfl,fun j p hj=>?_⟩⟩
 match j,hj with
 | 0,hj =>
  obtain rfl : [T1]=p:=by simpa [LS] using hj
  refine ⟨[.slice (some ⟨b0,0,none⟩) 1 1],rfl,⟨_,1,rfl,Nat.le_refl _,one_C h0⟩,fun i u hi=>?_⟩
  cases i with
  | zero=>rw [Addr.add_lit,blk_cell h2];exact hi
  | succ i=>simp at hi
 | 1,hj =>
  obtain rfl : [T2]=p:=by simpa [LS] using hj
  refine ⟨[.slice (some ⟨b1,0,none⟩) 1 1],rfl,⟨_,1,rfl,Nat.le_refl _,one_C h1⟩,fun i u hi=>?_⟩
  cases i with
  | zero=>rw [Addr.add_lit,blk_cell h2];exact hi
  | succ i=>simp at hi
 | j+2,hj=>simp [LS] at hj
theorem int_C {W:World} {b t:Nat} {x:Int} (h:W.heap[b]? = some (.cells #[.int .i64 x] t (0,0))):Kd.C (Kd.int .i64) W (some ⟨b,0,none⟩) 1 [x]:=by
 refine ⟨rfl,by omega,fun _=>⟨_,rfl,fun j p hj=>?_⟩⟩
 cases j with
 | zero =>
  simp only [List.getElem?_cons_zero,Option.some.injEq] at hj
  subst hj
  refine ⟨[.int .i64 x],rfl,rfl,fun i u hi=>?_⟩
  cases i with
  | zero=>rw [Addr.add_lit,blk_cell h];exact hi
  | succ i=>simp at hi
 | succ j=>simp at hj
theorem in1 (n:Int) (hn:0≤n∧n≤1099511627776) (s t:ByteArray) (hs:s.size≤2000000) (ht:t.size≤2000000):InTab ⟨n,s,0,t,0,5,0,0,0⟩:=by
 refine ⟨hn,hs,?_,ht,?_,?_,?_,?_,?_⟩<;>simp
theorem LS_in:∀ l∈LS,∀ t∈l,InTab t:=by
 intro l hl t ht
 simp only [LS,List.mem_cons,List.not_mem_nil,or_false] at hl
 rcases hl with rfl | rfl
 ·simp only [List.mem_cons,List.not_mem_nil,or_false] at ht
  rw [ht]
  exact in1 _ (by omega) _ _ (by decide) (by decide)
 ·simp only [List.mem_cons,List.not_mem_nil,or_false] at ht
  rw [ht]
  exact in1 _ (by omega) _ _ (by decide) (by decide)
theorem LS_len:∀ l∈LS,l.length=1:=by
 intro l hl
 simp only [LS,List.mem_cons,List.not_mem_nil,or_false] at hl
 rcases hl with rfl | rfl<;>rfl
theorem XS_ord:∀ (i:Nat) (l:List Tb),XS[i]? = some l→Od.SW l.length (It.ltOf i l)∧ord l.length (It.ltOf i l)=List.range l.length:=by
 intro i l h
 have hm:=List.mem_of_getElem? h
 obtain ⟨l0,h0,rfl⟩:=List.mem_map.1 hm
 refine Oo.ord_of (fun a b hab hb=>?_)
 rw [List.length_map,LS_len l0 h0] at hb
 omega
theorem XS_klen:∀ l∈XS,∀ t∈l,KLen t:=by
 have hk:∀ s:ByteArray,s.size≤10→8≤(Tm.keyOf s 0).length∧(Tm.keyOf s 0).length≤100000000:=fun s hs=>by
  unfold Tm.keyOf
  rw [List.length_append,show (be64b (top 0)).length=8 from rfl,Tm.list_size]
  omega
 intro l hl t ht
 obtain ⟨l0,h0,rfl⟩:=List.mem_map.1 hl
 obtain ⟨t0,h1,rfl⟩:=List.mem_map.1 ht
 simp only [LS,List.mem_cons,List.not_mem_nil,or_false] at h0
 rcases h0 with rfl | rfl
 ·simp only [List.mem_cons,List.not_mem_nil,or_false] at h1
  rw [h1]
  exact ⟨hk _ (by decide),hk _ (by decide)⟩
 ·simp only [List.mem_cons,List.not_mem_nil,or_false] at h1
  rw [h1]
  exact ⟨hk _ (by decide),hk _ (by decide)⟩
theorem bl_one:Tg.bl4 OP (XS.map total)=((1:Nat):Int):=by
 have hl:(XS.map total).length=2:=rfl
 have h:=Tg.bl4_range OP (XS.map total) (by rw [hl];omega)
 rw [hl] at h
 omega
theorem ten:floatOfInt FloatKind.f64 10=4621819117588971520:=by decide +kernel
theorem tops:(takeTop rE [tbOf T1]).map (·.num)=[1]:=by kernel_rfl
theorem bots:(botL [tbOf T2] (rgOf (takeTop rE [tbOf T1]))).map (·.num)=[2]:=by kernel_rfl
theorem mono1 (t:Tb) (r:Rg):Mono [t] r:=by
 refine ⟨fun a b hab hb h=>?_,fun a b hab hb h=>?_⟩
 ·have:a=b:=by simp at hb;omega
  rw [← this];exact h
 ·have:a=b:=by simp at hb;omega
  rw [← this];exact h
theorem ltrt:ltN [tbOf T2] (rgOf (takeTop rE [tbOf T1]))≤rtN [tbOf T2] (rgOf (takeTop rE [tbOf T1])):=by decide +kernel
theorem one_pick {S:Nat→Nat} {qs:List Q3} (h:Picked (XS.length - 1) S qs) (h0:ONE≤S 0):qs.length=1:=by
 have e:=h.perm.length_eq
 rw [List.length_map,List.length_map,show XS.length - 1=1 from rfl,show List.range 1=[0] from rfl,List.filter_cons_of_pos (by exact decide_eq_true h0)] at e
 exact e
set_option maxRecDepth 100000 in
set_option maxHeartbeats 4000000 in
theorem work_calls {w:World}:Calls Tryz.prog 24 #[] w fun e w'=>e=.returned (.bool true)∧Below w.heap.size w w':=by
 obtain ⟨Q,hQ⟩ : ∃ Q:Ending→World→Prop,Q=fun e w'=>e=.returned (.bool true)∧Below w.heap.size w w':=⟨_,rfl⟩
 rw [← hQ]
 have HQ:=hid hQ
 clear hQ
 go_enter Tryz.func24,Tryz.ntmps24
 go_upto_region 3 with (fail)
 obtain ⟨b0,hb0⟩ : ∃ b,b=w.heap.size:=⟨_,rfl⟩
 obtain ⟨b1,hb1⟩ : ∃ b,b=b0+1:=⟨_,rfl⟩
 obtain ⟨b2,hb2⟩ : ∃ b,b=b1+1:=⟨_,rfl⟩
 obtain ⟨b3,hb3⟩ : ∃ b,b=b2+1:=⟨_,rfl⟩
 obtain ⟨wa,hwa⟩ : ∃ wa,wa=w.alloc (.cells (tcl T1).toArray 68):=⟨_,rfl⟩
 obtain ⟨wb,hwb⟩ : ∃ wb,wb=wa.alloc (.cells (tcl T2).toArray 68):=⟨_,rfl⟩
 obtain ⟨wc,hwc⟩ : ∃ wc,wc=wb.alloc (.cells #[.slice (some ⟨b0,0,none⟩) 1 1,.slice (some ⟨b1,0,none⟩) 1 1] 34):=⟨_,rfl⟩
 obtain ⟨w1,hw1⟩ : ∃ w1,w1=wc.alloc (.cells #[.int .i64 2,.int .i64 10,.int .i64 2,.int .i64 1,.int .i64 1000,.int .i64 100,.int .i64 100,.int .i64 0] 24):=⟨_,rfl⟩
 have ha:Below w.heap.size w wa:=by rw [hwa];exact below_alloc (Below.refl _ _) _
 have hb:Below wa.heap.size wa wb:=by rw [hwb];exact below_alloc (Below.refl _ _) _
 have hc:Below wb.heap.size wb wc:=by rw [hwc];exact below_alloc (Below.refl _ _) _
 have hd:Below wc.heap.size wc w1:=by rw [hw1];exact below_alloc (Below.refl _ _) _
 have sa:wa.heap.size=b1:=by rw [hwa,Nw.szA,hb1,hb0]
 have sb:wb.heap.size=b2:=by rw [hwb,Nw.szA,sa,hb2]
 have sc:wc.heap.size=b3:=by rw [hwc,Nw.szA,sb,hb3]
 have h0:wa.heap[b0]? = some (.cells (tcl T1).toArray 68 (0,0)):=by rw [hwa,hb0];exact blk_new w _
 have h1:wb.heap[b1]? = some (.cells (tcl T2).toArray 68 (0,0)):=by rw [hwb,← sa];exact blk_new wa _
 have h2:wc.heap[b2]? = some (.cells #[.slice (some ⟨b0,0,none⟩) 1 1,.slice (some ⟨b1,0,none⟩) 1 1] 34 (0,0)):=by rw [hwc,← sb];exact blk_new wb _
 have h3:w1.heap[b3]? = some (.cells #[.int .i64 2,.int .i64 10,.int .i64 2,.int .i64 1,.int .i64 1000,.int .i64 100,.int .i64 100,.int .i64 0] 24 (0,0)):=by rw [hw1,← sc];exact blk_new wc _
 have X2:=(hd.block _ (blk_lt h2)).trans h2
 have X1:=(hd.block _ (Nat.lt_of_lt_of_le (blk_lt h1) hc.size)).trans ((hc.block _ (blk_lt h1)).trans h1)
 have hX0:=(hb.block _ (blk_lt h0)).trans h0
 have X0:=(hd.block _ (Nat.lt_of_lt_of_le (blk_lt hX0) hc.size)).trans ((hc.block _ (blk_lt hX0)).trans hX0)
 have HX0:=hid X0
 have HX1:=hid X1
 have HX2:=hid X2
 have HX3:=hid h3
 have HB1:=hid (below_step (below_step (below_step ha hb) hc) hd)
 rw [show (((w.alloc (.cells #[.int .i64 1,.string ⟨#[97]⟩,.int .i64 0,.string ⟨#[98]⟩,.int .i64 0,.int .i64 5,.int .i64 0,.int .i64 0,.int .i64 0] 68)).alloc (.cells #[.int .i64 2,.string ⟨#[97]⟩,.int .i64 0,.string ⟨#[99]⟩,.int .i64 0,.int .i64 5,.int .i64 0,.int .i64 0,.int .i64 0] 68)).alloc (.cells #[.slice (some ⟨w.heap.size,0,none⟩) 1 1,.slice (some ⟨w.heap.size+1,0,none⟩) 1 1] 34)).alloc (.cells #[.int .i64 2,.int .i64 10,.int .i64 2,.int .i64 1,.int .i64 1000,.int .i64 100,.int .i64 100,.int .i64 0] 24)=w1 by rw [hw1,hwc,hwb,hwa,hb1,hb0];rfl]
 rw [← hb0,← hb1,← hb2,← hb3]
 clear ha hb hc hd sa sb sc h0 h1 h2 h3 X0 X1 X2 hX0 hw1 hwc hwb hwa hb0 hb1 hb2 hb3
 have o0:=blk_cell HX3.out 0
 have o1:=blk_cell HX3.out 1
 have o2:=blk_cell HX3.out 2
 have o3:=blk_cell HX3.out 3
 have o4:=blk_cell HX3.out 4
 have o5:=blk_cell HX3.out 5
 have o6:=blk_cell HX3.out 6
 have o7:=blk_cell HX3.out 7
 go_wp2_with fail
 obtain ⟨w2,hw2⟩ : ∃ w2,w2=w1.alloc (.cells #[.int .i64 0,.int .i64 0,.int .i64 1,.int .i64 10,.int .i64 0] 42):=⟨_,rfl⟩
 rw [← hw2]
 obtain ⟨gs,hgs⟩ : ∃ b,b=w1.heap.size:=⟨_,rfl⟩
 rw [← hgs]
 have HB2:=hid (show Below w1.heap.size w1 w2 by rw [hw2];exact below_alloc (Below.refl _ _) _)
 have HG2:=hid (show w2.heap[gs]? = some (.cells #[.int .i64 0,.int .i64 0,.int .i64 1,.int .i64 10,.int .i64 0] 42 (0,0)) by rw [hw2,hgs];exact blk_new w1 _)
 clear hw2 hgs o0 o1 o2 o3 o4 o5 o6 o7
 have HY0:=hid ((HB2.out.block _ (blk_lt HX0.out)).trans HX0.out)
 have HY1:=hid ((HB2.out.block _ (blk_lt HX1.out)).trans HX1.out)
 have HY2:=hid ((HB2.out.block _ (blk_lt HX2.out)).trans HX2.out)
 have HY3:=hid ((HB2.out.block _ (blk_lt HX3.out)).trans HX3.out)
 have K55:=hid (run1_calls (w:=w2) (A0:=some ⟨b2,0,none⟩) (gs:=gs) (c0:=2) (sc0:=1) (n:=1) (sc:=dq 10 10) (fx:=floatOfInt FloatKind.f64 10) (comp:=1) (tn:=10) (dnum:=0) (ls:=LS) (m:=2) (a:=10) (b:=2) (c:=1) (d:=1000) (e:=100) (f:=100) (g:=0) (xs:=XS) (x0:=[tbOf T1]) (xn:=[tbOf T2]) rfl (ok:=fun k=>k=b0∨k=b1∨k=b2)
  (fun W hW=>ls_C ((hW b0 (.inl rfl) (blk_lt HY0.out)).trans HY0.out) ((hW b1 (.inr (.inl rfl)) (blk_lt HY1.out)).trans HY1.out) ((hW b2 (.inr (.inr rfl)) (blk_lt HY2.out)).trans HY2.out))
  (fun k hk=>by rcases hk with rfl | rfl | rfl;exact ⟨_,_,HY0.out,by decide⟩;exact ⟨_,_,HY1.out,by decide⟩;exact ⟨_,_,HY2.out,by decide⟩)
  (by decide) rfl (by decide) (by decide) (fun l hl=>by rw [LS_len l hl];omega) LS_in XS_ord rfl (by omega) (by omega)
  (blk_cell HG2.out 0) (blk_cell HG2.out 1) (blk_cell HG2.out 2) (blk_cell HG2.out 3) (blk_cell HG2.out 4)
  (fun W=>run_convert_int_float W 3 62 .i64 .f64 10 (by kernel_rfl) (by kernel_rfl))
  (fun W=>by have h:=run_dq (a:=10) (b:=10) (by omega) (by omega) W;rw [ten] at h;rw [ten];exact h)
  rfl rfl (by omega) bl_one XS_klen (Nat.le_of_lt (dq_facts (by omega) (by omega)).2.1)
  (by have h:4607182418800017408≤dq 10 10:=((dq_facts (a:=10) (b:=10) (by omega) (by omega)).2.2).2 (by omega);unfold lowF;rw [decide_eq_false (p:=dq 10 10<4607182418800017408) (by omega)];simp)
  (by decide) (mono1 _ _) ltrt)
 go_wp2_with fail
 refine K55.out.mono ?_
 rintro e w3 ⟨v,x,rfl,hr,hx0,hx3,hx4,hfr⟩
 rw [tops] at hx3
 rw [bots] at hx4
 obtain ⟨nv,Av,cv,hv⟩ : ∃ n A c,v=.slice A n c:=(by obtain ⟨A,c,e⟩:=Kd.R_slice hr;exact ⟨_,A,c,e⟩)
 subst hv
 obtain ⟨n1,lv,hC⟩:=Kd.R_reads' hr
 rw [show ([x]:List S46).length=1 from rfl] at n1 hC
 subst n1
 have ty:∀ {b t:Nat} {arr:Array Value},w2.heap[b]? = some (.cells arr t (0,0))→t∉[144,126]→w3.heap[b]? = some (.cells arr t (0,0)):=fun h ht=>(hfr.2 _ (blk_lt h)).trans h
 have HZ0:=hid (ty HY0.out (by decide))
 have HZ1:=hid (ty HY1.out (by decide))
 have HZ2:=hid (ty HY2.out (by decide))
 have HZ3:=hid (ty HY3.out (by decide))
 have HF:=hid (show FrT w w3 from (FrT.of HB1.out).trans ((FrT.of HB2.out).trans hfr))
 have HC:=hid hC
 have HX:=hid (And.intro hx0 (And.intro hx3 hx4))
 clear ty hr hC hx0 hx3 hx4 hfr lv K55
 have K25:=hid (targets_calls (w:=w3) (A0:=some ⟨b2,0,none⟩) (c0:=2) (ls:=LS) (m:=2) (a:=10) (b:=2) (c:=1) (d:=1000) (e:=100) (f:=100) (g:=0) (xs:=XS) rfl (ls_C HZ0.out HZ1.out HZ2.out) (by decide) rfl (by decide) (by decide) (fun l hl=>by rw [LS_len l hl];omega) LS_in XS_ord rfl (by omega) (by omega))
 have o0:=blk_cell HZ3.out 0
 have o1:=blk_cell HZ3.out 1
 have o2:=blk_cell HZ3.out 2
 have o3:=blk_cell HZ3.out 3
 have o4:=blk_cell HZ3.out 4
 have o5:=blk_cell HZ3.out 5
 have o6:=blk_cell HZ3.out 6
 have o7:=blk_cell HZ3.out 7
 go_wp2_with fail
 refine K25.out.mono ?_
 rintro e w4 ⟨A4,c4,B4,d4,rfl,_,_,_,_,hb4⟩
 rw [show bl4 ⟨2,10,2,1,1000,100,100,0⟩ (List.map total XS)=((1:Nat):Int) from bl_one]
 have HB4:=hid hb4
 have HF4:=hid (show FrT w w4 from HF.out.trans (FrT.of hb4))
 have HW3:=hid ((hb4.block _ (blk_lt HZ3.out)).trans HZ3.out)
 have HV0:=hid ((hb4.block _ (blk_lt HZ0.out)).trans HZ0.out)
 have HV1:=hid ((hb4.block _ (blk_lt HZ1.out)).trans HZ1.out)
 have HV2:=hid ((hb4.block _ (blk_lt HZ2.out)).trans HZ2.out)
 have HC4:=hid (Kd.C_below HC.out hb4)
 clear o0 o1 o2 o3 o4 o5 o6 o7 hb4 K25
 generalize (blT ⟨2,10,2,1,1000,100,100,0⟩ (List.map total XS)).2.length=nn4
 generalize (files ⟨2,10,2,1,1000,100,100,0⟩ (List.map total XS)).length=mm4
 obtain ⟨ad,A3,c3,A4',c4',A10,c10,eA,x0,-,-,x3,x4,-,-,-,-,-,-,l3,g3,l4,g4,-,-⟩:=at_T46 HC4.out 0 (by omega) (by omega)
 subst eA
 rw [show rd_T46 [x] 0=x from rfl] at x0 x3 x4 l3 g3 l4 g4
 obtain ⟨hx0,hx3,hx4⟩:=HX.out
 rw [hx0] at x0
 rw [hx3] at x3 l3 g3
 rw [hx4] at x4 l4 g4
 rw [show ((0:Int)).toNat*11=0 from rfl] at x0 x3 x4
 have a0:ad.add 0=ad:=Addr.add_zero' ad
 rw [a0] at x0 x3 x4
 have H3:=hid g3
 have H4:=hid g4
 have HL3:=hid l3
 have HL4:=hid l4
 clear hx0 hx3 hx4 l3 g3 l4 g4 a0
 go_wp2_with fail
 obtain ⟨w5,hw5⟩ : ∃ w5,w5=w4.alloc (.cells #[.int .i64 1] 3):=⟨_,rfl⟩
 rw [← hw5]
 obtain ⟨k5,hk5⟩ : ∃ b,b=w4.heap.size:=⟨_,rfl⟩
 rw [← hk5]
 have hb5:Below w4.heap.size w4 w5:=by rw [hw5];exact below_alloc (Below.refl _ _) _
 have hx5:w5.heap[k5]? = some (.cells #[.int .i64 1] 3 (0,0)):=by rw [hw5,hk5];exact blk_new w4 _
 refine (laws_sameInts.calls 5 A3 c3 [1] (some ⟨k5,0,none⟩) 1 [1] true w5 (Kd.C_below H3.out hb5) HL3.out (int_C hx5) (Nat.le_refl _) (by kernel_rfl)).mono ?_
 rintro e w6 ⟨rfl,hd6⟩
 have HB6:=hid (below_step hb5 hd6.below)
 have y4:=(HB6.out.cell (World.block_lt_of_cell? w4 _ x4)).trans x4
 clear hw5 hk5 hb5 hx5 hd6 x0 x3 x4
 go_wp2_with fail
 obtain ⟨w7,hw7⟩ : ∃ w7,w7=w6.alloc (.cells #[.int .i64 2] 3):=⟨_,rfl⟩
 rw [← hw7]
 obtain ⟨k7,hk7⟩ : ∃ b,b=w6.heap.size:=⟨_,rfl⟩
 rw [← hk7]
 have hb7:Below w6.heap.size w6 w7:=by rw [hw7];exact below_alloc (Below.refl _ _) _
 have hx7:w7.heap[k7]? = some (.cells #[.int .i64 2] 3 (0,0)):=by rw [hw7,hk7];exact blk_new w6 _
 refine (laws_sameInts.calls 5 A4' c4' [2] (some ⟨k7,0,none⟩) 1 [2] true w7 (Kd.C_below (Kd.C_below H4.out HB6.out) hb7) HL4.out (int_C hx7) (Nat.le_refl _) (by kernel_rfl)).mono ?_
 rintro e w8 ⟨rfl,hd8⟩
 have HB8:=hid (below_step HB6.out (below_step hb7 hd8.below))
 have HO8:=hid ((HB8.out.block _ (blk_lt HW3.out)).trans HW3.out)
 have K51:=hid (pick51_calls (w:=w8) (A0:=some ⟨b2,0,none⟩) (c0:=2) (ls:=LS) (m:=2) (a:=10) (b:=2) (c:=1) (d:=1000) (e:=100) (f:=100) (g:=0) (xs:=XS) rfl (ls_C ((HB8.out.block _ (blk_lt HV0.out)).trans HV0.out) ((HB8.out.block _ (blk_lt HV1.out)).trans HV1.out) ((HB8.out.block _ (blk_lt HV2.out)).trans HV2.out)) (by decide) rfl (by decide) (by decide) (fun l hl=>by rw [LS_len l hl];omega) LS_in XS_ord rfl (by omega) (by omega) (by omega))
 clear hw7 hk7 hb7 hx7 hd8 y4
 have o0:=blk_cell HO8.out 0
 have o1:=blk_cell HO8.out 1
 have o2:=blk_cell HO8.out 2
 have o3:=blk_cell HO8.out 3
 have o4:=blk_cell HO8.out 4
 have o5:=blk_cell HO8.out 5
 have o6:=blk_cell HO8.out 6
 have o7:=blk_cell HO8.out 7
 go_wp2_with fail
 refine K51.out.mono ?_
 rintro e w9 ⟨A9,c9,qs,rfl,_,_,hpk,_,hb9⟩
 rw [one_pick hpk ((dq_facts (a:=1) (b:=1) (by omega) (by omega)).2.2.2 (by omega))]
 have HF9:=hid (show FrT w w9 from HF4.out.trans ((FrT.of HB8.out).trans (FrT.of hb9)))
 clear hpk hb9 o0 o1 o2 o3 o4 o5 o6 o7
 go_wp2_with fail
 rw [HQ.out]
 exact ⟨rfl,HF9.out.below⟩
end Go.Proofs.YtnineoajmgneiaaGreat.Lw
namespace Go.Proofs.YtnineoajmgneiaaGreat.Lo
open Go.RowKit YtnineoajmgneiaaGreatW YtnineoajmgneiaaGreatW.PrintWords YtnineoajmgneiaaGreatW.PrintLast YtnineoajmgneiaaGreatW.PrintMore Fr L Ky Tm Lm It Tg Tp Tl Lk
open YtnineoajmgneiaaGreat.Ls (tAt)
theorem tat {l:List S68} {a:Nat} (h:a<l.length):tAt (l.map tbOf) a=tbOf l[a]:=by simp [tAt,h]
theorem num_lt {l:List S68} (h:RowOk 0 l):∀ (d a:Nat),(hb:a+d+1<l.length)→(l[a]'(by omega)).f0<(l[a+d+1]).f0
 | 0,a,hb=>(h.adj a _ _ (List.getElem?_eq_getElem (by omega)) (List.getElem?_eq_getElem hb)).1 rfl
 | d+1,a,hb=>by
  have h1:=num_lt h d a (by omega)
  have h2:=(h.adj (a+d+1) _ _ (List.getElem?_eq_getElem (by omega)) (List.getElem?_eq_getElem hb)).1 rfl
  exact Int.lt_trans h1 h2
theorem le_lt {a b c:List UInt8} (h:Op.bytesLess a b=true∨a=b) (k:Op.bytesLess b c=true):cmpU a c<0:=by
 rw [Oo.less_cmp] at k
 have k:=of_decide_eq_true k
 rcases h with h | h
 ·rw [Oo.less_cmp] at h
  exact Oo.cmpU_trans (of_decide_eq_true h) k
 ·rw [h];exact k
theorem key_lt {i:Nat} {l:List S68} (hi:i≠0) (h:RowOk i l):∀ (d a:Nat),(hb:a+d+1<l.length)→cmpU (l[a]'(by omega)).f1.toList (l[a+d+1]).f1.toList<0
 | 0,a,hb=>le_lt (h.tab _ (List.getElem_mem (by omega))).o ((h.adj a _ _ (List.getElem?_eq_getElem (by omega)) (List.getElem?_eq_getElem hb)).2 hi)
 | d+1,a,hb=>by
  have h1:=key_lt hi h d a (by omega)
  have h2:=le_lt (h.tab _ (List.getElem_mem (show a+d+1<l.length by omega))).o ((h.adj (a+d+1) _ _ (List.getElem?_eq_getElem (by omega)) (List.getElem?_eq_getElem hb)).2 hi)
  exact Oo.cmpU_trans h1 h2
theorem row_ord {i:Nat} {l:List S68} (h:RowOk i l):Od.SW (l.map tbOf).length (It.ltOf i (l.map tbOf))∧Od.ord (l.map tbOf).length (It.ltOf i (l.map tbOf))=List.range (l.map tbOf).length:=by
 refine Oo.ord_of (fun a b hab hb=>?_)
 rw [List.length_map] at hb
 obtain ⟨d,rfl⟩ : ∃ d,b=a+d+1:=⟨b - a - 1,by omega⟩
 unfold It.ltOf
 by_cases hi:i=0
 ·subst hi
  rw [if_pos rfl,tat (show a<l.length by omega),tat hb]
  exact decide_eq_true (num_lt h d a hb)
 ·rw [if_neg hi,tat (show a<l.length by omega),tat hb]
  exact decide_eq_true (Oo.key_lt (key_lt hi h d a hb))
variable {ls:List (List S68)} {m a b c d e f g:Int}
theorem ok_ord (h:LvOk ls m a b c d e f g):∀ (i:Nat) (l:List Tb),(ls.map (·.map tbOf))[i]? = some l→Od.SW l.length (It.ltOf i l)∧Od.ord l.length (It.ltOf i l)=List.range l.length:=by
 intro i l hl
 rw [List.getElem?_map] at hl
 obtain ⟨l0,h0,rfl⟩:=Option.map_eq_some_iff.1 hl
 exact row_ord (h.row i l0 h0)
theorem ok_mem (h:LvOk ls m a b c d e f g) {l:List S68} (hl:l∈ls):l.length≤1000∧∀ t∈l,TOk t:=by
 obtain ⟨i,hi⟩:=List.mem_iff_getElem?.1 hl
 exact ⟨(h.row i l hi).len,(h.row i l hi).tab⟩
theorem ok_in (h:LvOk ls m a b c d e f g) (hts:∀ l∈ls,∀ t∈l,t.f1.size≤2000000∧t.f3.size≤2000000):∀ l∈ls,∀ t∈l,InTab t:=fun l hl t ht=>in_tab ((ok_mem h hl).2 t ht) (hts l hl t ht)
theorem ok_len (h:LvOk ls m a b c d e f g):2≤ls.length∧ls.length≤7:=by have:=h.opt.m;have:=h.len;omega
theorem u64_in {g:Int} (h:0≤g∧g≤1099511627776):IntKind.u64.wrap g=g:=IntWalk.u64_in _ (by omega)
end Go.Proofs.YtnineoajmgneiaaGreat.Lo
namespace Go.Proofs.YtnineoajmgneiaaGreat.Rw
open Go.ChangeShapes Go.WideShapes Go.ChangeAt Go.RowKit Go.Deep YtnineoajmgneiaaGreatW.PrintWords L
theorem one_le {H:Type} (d:DataW H):1≤Rows.uptoBulk d:=by
 cases d with
 | lit l=>cases l<;>simp [Rows.uptoBulk]
 | nil=>simp [Rows.uptoBulk]
 | ptr d=>simp [Rows.uptoBulk]
 | slice elems spare=>simp [Rows.uptoBulk]
 | agg parts=>simp [Rows.uptoBulk]
 | iface t d=>simp [Rows.uptoBulk]
 | map entries=>simp [Rows.uptoBulk]
 | held h=>simp [Rows.uptoBulk]
theorem append {H:Type} (l r:List (DataW H)):Rows.uptoBulkAll (l++r)=Rows.uptoBulkAll l+Rows.uptoBulkAll r:=by
 induction l with
 | nil=>simp [Rows.uptoBulkAll]
 | cons x l ih=>simp only [List.cons_append,Rows.uptoBulkAll,ih];omega
/-- One of each. -/
theorem list_of {α:Type} {P:Nat→α→Prop}:∀ n:Nat,(∀ i,i<n→∃ s,P i s)→∃ l:List α,l.length=n∧∀ i s,l[i]? = some s→P i s
 | 0,_=>⟨[],rfl,fun i s h=>by simp at h⟩
 | n+1,h=>by
  obtain ⟨l,hl,hp⟩:=list_of n (fun i hi=>h i (by omega))
  obtain ⟨s,hs⟩:=h n (by omega)
  refine ⟨l++[s],by simp [hl],fun i s2 h2=>?_⟩
  by_cases hi:i<n
  ·rw [List.getElem?_append_left (by omega)] at h2
   exact hp i s2 h2
  ·have hin:i<(l++[s]).length:=(List.getElem?_eq_some_iff.1 h2).1
   have:i=n:=by simp [hl] at hin;omega
   subst this
   rw [List.getElem?_append_right (by omega)] at h2
   simp [hl] at h2
   subst h2
   exact hs
section
variable {H:Type} {enc:TypeId × Value→H} {P:Program} {w:World} {base:Nat} {spare:Nat→Bool} {held:Bool}
theorem open_slice_fields {t e:TypeId} {fs:Array Field} {fuel:Nat} {cs:List Value} {x:DataW H × List MemPlace} (ht:P.underlying t=some (.slice e)) (he:P.underlying e=some (.struct fs))
  (hone:oneCellFields P fs=true) (hC:P.cellsOf e=fs.size) (h:DataW.trod enc P w base spare held fuel t cs=some x) :
  (cs=[.slice none 0 0]∧x=(.nil,[])) ∨
  ∃ (a:Addr) (len cap m:Nat) (D:Nat→DataW H) (Pl:Nat→List MemPlace),cs=[.slice (some a) len cap]∧base≤a.block∧len≤cap∧cap≤maxLen∧m=(if spare a.block then cap else len) ∧
   x=(.slice ((List.range len).map D) ((List.range (m - len)).map fun j=>D (len+j)),MemPlace.row a (m*fs.size)++(List.range m).flatMap Pl) ∧
   ∀ i,i<m→∃ (ys:List (DataW H × List MemPlace)) (n:Nat),D i=.agg (ys.map (·.1))∧Pl i=ys.flatMap (·.2)∧ys.length=fs.size ∧
    ∀ (j:Nat) (f:Field),fs[j]? = some f→∃ (v:Value) (y:DataW H × List MemPlace),w.cell? (a.add (i*fs.size+j))=some v∧ys[j]? = some y∧DataW.trod enc P w base spare held n f.type [v]=some y:=by
 rcases open_slice ht h with h0 | ⟨a,len,cap,m,n,D,Pl,hcs,hb,hl,hm,hmm,hx,hi⟩
 ·exact .inl h0
 ·refine .inr ⟨a,len,cap,m,D,Pl,hcs,hb,hl,hm,hmm,by rw [hC] at hx;exact hx,fun i him=>?_⟩
  obtain ⟨cs',hc,ht'⟩:=hi i him
  rw [hC] at hc
  obtain ⟨ys,n',hn',hy,hlen,hyl,hf⟩:=DataW.trod_struct he ht'
  obtain ⟨_,hcl,hat⟩:=World.cells?_some hc
  simp only [Prod.mk.injEq] at hy
  refine ⟨ys,n',hy.1,hy.2,hyl,fun j f hj=>?_⟩
  obtain ⟨ho,hk⟩:=hone_of hone j f hj
  have hjl:j<fs.size:=(Array.getElem?_eq_some_iff.1 hj).1
  have hcell:=hat j hjl
  have hv:cs'[j]? = some (cs'[j]'(by omega)):=List.getElem?_eq_getElem (by omega)
  have h1:=hf j f hj
  rw [ho,hk] at h1
  have hone':(cs'.drop j).take 1=[cs'[j]'(by omega)]:=by
   rw [List.drop_eq_getElem_cons (by omega)]
   rfl
  rw [hone'] at h1
  have hys:ys[j]? = some (ys[j]'(by omega)):=List.getElem?_eq_getElem (by omega)
  refine ⟨_,_,?_,hys,h1.trans hys⟩
  rw [← Go.Deep.add_add,hcell,hv]
end
theorem sum_bulk {H:Type} {α:Type} (f:α→Nat) (D:Nat→DataW H):∀ (n:Nat) (l:List α),l.length=n→(∀ i s,l[i]? = some s→f s≤Rows.uptoBulk (D i))→(l.map f).sum≤Rows.uptoBulkAll ((List.range n).map D)
 | 0,l,hl,_=>by
  have:l=[]:=List.eq_nil_of_length_eq_zero hl
  subst this
  simp
 | n+1,l,hl,h=>by
  have hn:n<l.length:=by omega
  have e:l=l.take n++[l[n]]:=by
   have:=List.take_succ_eq_append_getElem hn
   rw [← this,List.take_of_length_le (by omega)]
  have h1:=sum_bulk f D n (l.take n) (by rw [List.length_take];omega) (fun i s hs=>h i s (by
   have hi:i<n:=by have:=(List.getElem?_eq_some_iff.1 hs).1;rw [List.length_take] at this;omega
   rw [List.getElem?_take,if_pos hi] at hs
   exact hs))
  have h2:=h n l[n] (List.getElem?_eq_getElem hn)
  have e2:(l.map f).sum=((l.take n).map f).sum+f l[n]:=by
   conv=>lhs;rw [e]
   rw [List.map_append,List.sum_append]
   simp
  rw [e2,List.range_succ,List.map_append,append]
  simp only [List.map_cons,List.map_nil,Rows.uptoBulkAll] at *
  omega
theorem sum_mem {α:Type} (f:α→Nat) {x:α}:∀ {l:List α},x∈l→f x≤(l.map f).sum
 | y :: t,h=>by
  rw [List.map_cons,List.sum_cons]
  rcases List.mem_cons.1 h with e | e
  ·rw [e];omega
  ·have:=sum_mem f e;omega
theorem sum_len {α:Type} (f:α→Nat) (hf:∀ x,1≤f x):∀ l:List α,l.length≤(l.map f).sum
 | []=>by simp
 | x :: t=>by
  have:=sum_len f hf t
  have:=hf x
  rw [List.map_cons,List.sum_cons,List.length_cons]
  omega
def wT (t:S68):Nat:=t.f1.size+t.f3.size+1
def wL (l:List S68):Nat:=(l.map wT).sum+1
theorem cells9 {w:World} {a:Addr} {i:Nat} {x0 x1 x2 x3 x4 x5 x6 x7 x8:Value} (h0:w.cell? (a.add (i*9+0))=some x0) (h1:w.cell? (a.add (i*9+1))=some x1) (h2:w.cell? (a.add (i*9+2))=some x2) (h3:w.cell? (a.add (i*9+3))=some x3) (h4:w.cell? (a.add (i*9+4))=some x4) (h5:w.cell? (a.add (i*9+5))=some x5) (h6:w.cell? (a.add (i*9+6))=some x6) (h7:w.cell? (a.add (i*9+7))=some x7) (h8:w.cell? (a.add (i*9+8))=some x8):∀ j u,[x0,x1,x2,x3,x4,x5,x6,x7,x8][j]? = some u→w.cell? (a.add (i*9+j))=some u:=by
 intro j u hj
 match j,hj with
 | 0,hj=>simp at hj;rw [← hj];exact h0
 | 1,hj=>simp at hj;rw [← hj];exact h1
 | 2,hj=>simp at hj;rw [← hj];exact h2
 | 3,hj=>simp at hj;rw [← hj];exact h3
 | 4,hj=>simp at hj;rw [← hj];exact h4
 | 5,hj=>simp at hj;rw [← hj];exact h5
 | 6,hj=>simp at hj;rw [← hj];exact h6
 | 7,hj=>simp at hj;rw [← hj];exact h7
 | 8,hj=>simp at hj;rw [← hj];exact h8
 | j+9,hj=>simp at hj
def Good (w:World) (a:Addr) {H:Type} (D:Nat→DataW H) (i:Nat) (s:S68):Prop:=
 (∃ c:List Value,c.length=9∧k68.K w s c∧∀ j u,c[j]? = some u→w.cell? (a.add (i*9+j))=some u)∧wT s≤Rows.uptoBulk (D i)
theorem open_tabs0 {H:Type} {enc:TypeId × Value→H} {w:World} {fuel:Nat} {cs:List Value} {x:DataW H × List MemPlace} (hf:DataW.trod enc Tryz.prog w 0 (fun _=>true) true fuel 34 cs=some x) :
  ∃ (A:Option Addr) (len cap:Nat) (l:List S68),cs=[.slice A len cap]∧l.length=len∧len≤cap∧Kd.C k68 w A len l∧wL l≤Rows.uptoBulk x.1:=by
 rcases open_slice_fields Tryz.underlying34 Tryz.underlying68 (by kernel_rfl) (by kernel_rfl) hf with ⟨hcs,hd⟩ | ⟨a,len,cap,m,D,Pl,hcs,hb,hl,hm,hmm,hx,hi⟩
 ·exact ⟨none,0,0,[],hcs,rfl,Nat.le_refl _,⟨rfl,by omega,fun h=>absurd h (by omega)⟩,by rw [hd];exact one_le _⟩
 ·simp only [if_true] at hmm
  obtain rfl:=hmm
  have hel:∀ i,i<len→∃ s:S68,Good w a D i s:=by
   intro i hil
   obtain ⟨ys,n,hD,hP,hlen,hfld⟩:=hi i (by omega)
   obtain ⟨v0,y0,c0,hy0,t0⟩:=hfld 0 _ rfl
   obtain ⟨v1,y1,c1,hy1,t1⟩:=hfld 1 _ rfl
   obtain ⟨v2,y2,c2,hy2,t2⟩:=hfld 2 _ rfl
   obtain ⟨v3,y3,c3,hy3,t3⟩:=hfld 3 _ rfl
   obtain ⟨v4,y4,c4,hy4,t4⟩:=hfld 4 _ rfl
   obtain ⟨v5,y5,c5,hy5,t5⟩:=hfld 5 _ rfl
   obtain ⟨v6,y6,c6,hy6,t6⟩:=hfld 6 _ rfl
   obtain ⟨v7,y7,c7,hy7,t7⟩:=hfld 7 _ rfl
   obtain ⟨v8,y8,c8,hy8,t8⟩:=hfld 8 _ rfl
   obtain ⟨n0,e0,_,_⟩:=DataW.trod_int Tryz.underlying3 t0
   obtain ⟨s1,e1,x1,_⟩:=DataW.trod_string Tryz.underlying9 t1
   obtain ⟨n2,e2,_,_⟩:=DataW.trod_int Tryz.underlying3 t2
   obtain ⟨s3,e3,x3,_⟩:=DataW.trod_string Tryz.underlying9 t3
   obtain ⟨n4,e4,_,_⟩:=DataW.trod_int Tryz.underlying3 t4
   obtain ⟨n5,e5,_,_⟩:=DataW.trod_int Tryz.underlying3 t5
   obtain ⟨n6,e6,_,_⟩:=DataW.trod_int Tryz.underlying3 t6
   obtain ⟨n7,e7,_,_⟩:=DataW.trod_int Tryz.underlying3 t7
   obtain ⟨n8,e8,_,_⟩:=DataW.trod_int Tryz.underlying3 t8
   injection e0 with e0
   subst e0
   injection e1 with e1
   subst e1
   injection e2 with e2
   subst e2
   injection e3 with e3
   subst e3
   injection e4 with e4
   subst e4
   injection e5 with e5
   subst e5
   injection e6 with e6
   subst e6
   injection e7 with e7
   subst e7
   injection e8 with e8
   subst e8
   refine ⟨⟨n0,s1,n2,s3,n4,n5,n6,n7,n8⟩,⟨_,rfl,k68_mk w ⟨n0,s1,n2,s3,n4,n5,n6,n7,n8⟩,cells9 c0 c1 c2 c3 c4 c5 c6 c7 c8⟩,?_⟩
   have hw1:Rows.uptoBulk y1.1=s1.size+1:=by
    rw [x1]
    simp [Rows.uptoBulk]
   have hw3:Rows.uptoBulk y3.1=s3.size+1:=by
    rw [x3]
    simp [Rows.uptoBulk]
   have hsum:Rows.uptoBulk y1.1+Rows.uptoBulk y3.1≤Rows.uptoBulkAll (ys.map (·.1)):=by
    have h9:ys.length=9:=hlen
    match ys,h9,hy1,hy3 with
    | [z0,z1,z2,z3,z4,z5,z6,z7,z8],_,hy1,hy3 =>
     simp at hy1 hy3
     subst hy1
     subst hy3
     simp only [List.map_cons,List.map_nil,Rows.uptoBulkAll]
     omega
   rw [hD]
   simp only [Rows.uptoBulk,wT]
   omega
  obtain ⟨l,hll,hlp⟩:=list_of len hel
  refine ⟨some a,len,_,l,hcs,hll,hl,⟨hll,by simp [maxLen] at hm;omega,fun _=>⟨a,rfl,fun j s hj=>(hlp j s hj).1⟩⟩,?_⟩
  have hx1:x.1=.slice ((List.range len).map D) ((List.range (_ - len)).map fun j=>D (len+j)):=congrArg Prod.fst hx
  rw [hx1]
  simp only [Rows.uptoBulk,wL]
  have:=sum_bulk wT D len l hll (fun i s hs=>(hlp i s hs).2)
  omega
theorem open_levels {H:Type} {enc:TypeId × Value→H} {w:World} {A:Option Addr} {len cap:Nat} {d:DataW H} {p:List MemPlace} (h:DataW.Trod enc Tryz.prog w 0 (fun _=>true) true 22 (.slice A len cap) d p) :
  ∃ l:List (List S68),l.length=len∧len≤cap∧Kd.C (Kd.slice 68 k68) w A len l∧(l.map wL).sum+1≤Rows.uptoBulk d:=by
 obtain ⟨fuel,hf⟩:=h
 rcases open_slice Tryz.underlying22 hf with ⟨hcs,hd⟩ | ⟨a,len',cap',m,n,D,Pl,hcs,hb,hl,hm,hmm,hx,hi⟩
 ·simp [Value.cells] at hcs
  obtain ⟨rfl,rfl,rfl⟩:=hcs
  exact ⟨[],rfl,Nat.le_refl _,⟨rfl,by omega,fun h=>absurd h (by omega)⟩,by simp;exact one_le _⟩
 ·simp [Value.cells] at hcs
  obtain ⟨rfl,rfl,rfl⟩:=hcs
  simp only [if_true] at hmm
  obtain rfl:=hmm
  have hc34:Tryz.prog.cellsOf 34=1:=by kernel_rfl
  have hel:∀ i,i<len→∃ s:List S68,(∃ c:List Value,c.length=1∧(Kd.slice 68 k68).K w s c∧∀ j u,c[j]? = some u→w.cell? (a.add (i*1+j))=some u)∧wL s≤Rows.uptoBulk (D i):=by
   intro i hil
   obtain ⟨cs',hc,ht'⟩:=hi i (by omega)
   rw [hc34] at hc
   obtain ⟨A2,len2,cap2,l2,e2,hl2,hlc2,hC2,hb2⟩:=open_tabs0 ht'
   subst e2
   subst hl2
   obtain ⟨_,hcl,hat⟩:=World.cells?_some hc
   refine ⟨l2,⟨[.slice A2 l2.length cap2],rfl,⟨A2,cap2,rfl,hlc2,hC2⟩,fun j u hu=>?_⟩,hb2⟩
   match j,hu with
   | 0,hu =>
    simp at hu
    rw [← hu]
    have:=hat 0 (by decide)
    rw [Go.Deep.add_add] at this
    simpa using this
   | j+1,hu=>simp at hu
  obtain ⟨l,hll,hlp⟩:=list_of len hel
  refine ⟨l,hll,hl,⟨hll,by simp [maxLen] at hm;omega,fun _=>⟨a,rfl,fun j s hj=>(hlp j s hj).1⟩⟩,?_⟩
  have hx1:d=.slice ((List.range len).map D) ((List.range (_ - len)).map fun j=>D (len+j)):=congrArg Prod.fst hx
  rw [hx1]
  simp only [Rows.uptoBulk]
  have:=sum_bulk wL D len l hll (fun i s hs=>(hlp i s hs).2)
  omega
theorem tabs_of {l:List S68} (h:wL l≤1048576):l.length≤2000000∧∀ t∈l,t.f1.size≤2000000∧t.f3.size≤2000000:=by
 unfold wL at h
 refine ⟨?_,fun t ht=>?_⟩
 ·have:=sum_len wT (fun x=>by unfold wT;omega) l
  omega
 ·have:=sum_mem wT ht
  have e:wT t=t.f1.size+t.f3.size+1:=rfl
  omega
theorem levels_of {ls:List (List S68)} (h:(ls.map wL).sum≤1048576):ls.length≤2000000∧∀ l∈ls,l.length≤2000000∧∀ t∈l,t.f1.size≤2000000∧t.f3.size≤2000000:=by
 refine ⟨?_,fun l hl=>tabs_of ?_⟩
 ·have:=sum_len wL (fun x=>by unfold wL;omega) ls
  omega
 ·have:=sum_mem wL hl
  omega
set_option maxRecDepth 100000 in
theorem open_opts {H:Type} {enc:TypeId × Value→H} {w:World} {base:Nat} {v:Value} {d:DataW H} {p:List MemPlace} (hv:Value.okWide Tryz.prog w .any base 24 v) (h:DataW.Trod enc Tryz.prog w 0 (fun _=>true) true 24 v d p) :
  ∃ m a b c e f g k:Int,v=.agg #[.int .i64 m,.int .i64 a,.int .i64 b,.int .i64 c,.int .i64 e,.int .i64 f,.int .i64 g,.int .i64 k]:=by
 obtain ⟨fuel,hf⟩:=h
 obtain ⟨cs,rfl,hcs⟩:=okWide_struct Tryz.underlying24 hv
 have h8:Tryz.prog.cellsOf 24=8:=by kernel_rfl
 rw [h8] at hcs
 obtain ⟨ys,n',hn',hy,hlen,hyl,hfl⟩:=DataW.trod_struct Tryz.underlying24 hf
 obtain ⟨x0,x1,x2,x3,x4,x5,x6,x7,rfl⟩ : ∃ x0 x1 x2 x3 x4 x5 x6 x7,cs = #[x0,x1,x2,x3,x4,x5,x6,x7]:=by
  obtain ⟨l⟩:=cs
  match l,hcs with
  | [a,b,c,d,e,f,g,h],_=>exact ⟨a,b,c,d,e,f,g,h,rfl⟩
 have hk3:Tryz.prog.cellsOf 3=1:=by kernel_rfl
 obtain ⟨y0,y1,y2,y3,y4,y5,y6,y7,rfl⟩ : ∃ y0 y1 y2 y3 y4 y5 y6 y7,ys=[y0,y1,y2,y3,y4,y5,y6,y7]:=by
  have h5:ys.length=8:=hyl
  match ys,h5 with
  | [a,b,c,d,e,f,g,h],_=>exact ⟨a,b,c,d,e,f,g,h,rfl⟩
 have f0:DataW.trod enc Tryz.prog w 0 (fun _=>true) true n' 3 (([x0,x1,x2,x3,x4,x5,x6,x7].drop 0).take (Tryz.prog.cellsOf 3))=some y0:=hfl 0 _ rfl
 have f1:DataW.trod enc Tryz.prog w 0 (fun _=>true) true n' 3 (([x0,x1,x2,x3,x4,x5,x6,x7].drop 1).take (Tryz.prog.cellsOf 3))=some y1:=hfl 1 _ rfl
 have f2:DataW.trod enc Tryz.prog w 0 (fun _=>true) true n' 3 (([x0,x1,x2,x3,x4,x5,x6,x7].drop 2).take (Tryz.prog.cellsOf 3))=some y2:=hfl 2 _ rfl
 have f3:DataW.trod enc Tryz.prog w 0 (fun _=>true) true n' 3 (([x0,x1,x2,x3,x4,x5,x6,x7].drop 3).take (Tryz.prog.cellsOf 3))=some y3:=hfl 3 _ rfl
 have f4:DataW.trod enc Tryz.prog w 0 (fun _=>true) true n' 3 (([x0,x1,x2,x3,x4,x5,x6,x7].drop 4).take (Tryz.prog.cellsOf 3))=some y4:=hfl 4 _ rfl
 have f5:DataW.trod enc Tryz.prog w 0 (fun _=>true) true n' 3 (([x0,x1,x2,x3,x4,x5,x6,x7].drop 5).take (Tryz.prog.cellsOf 3))=some y5:=hfl 5 _ rfl
 have f6:DataW.trod enc Tryz.prog w 0 (fun _=>true) true n' 3 (([x0,x1,x2,x3,x4,x5,x6,x7].drop 6).take (Tryz.prog.cellsOf 3))=some y6:=hfl 6 _ rfl
 have f7:DataW.trod enc Tryz.prog w 0 (fun _=>true) true n' 3 (([x0,x1,x2,x3,x4,x5,x6,x7].drop 7).take (Tryz.prog.cellsOf 3))=some y7:=hfl 7 _ rfl
 rw [hk3] at f0
 rw [hk3] at f1
 rw [hk3] at f2
 rw [hk3] at f3
 rw [hk3] at f4
 rw [hk3] at f5
 rw [hk3] at f6
 rw [hk3] at f7
 obtain ⟨n0,e0,_,_⟩:=DataW.trod_int Tryz.underlying3 f0
 obtain ⟨n1,e1,_,_⟩:=DataW.trod_int Tryz.underlying3 f1
 obtain ⟨n2,e2,_,_⟩:=DataW.trod_int Tryz.underlying3 f2
 obtain ⟨n3,e3,_,_⟩:=DataW.trod_int Tryz.underlying3 f3
 obtain ⟨n4,e4,_,_⟩:=DataW.trod_int Tryz.underlying3 f4
 obtain ⟨n5,e5,_,_⟩:=DataW.trod_int Tryz.underlying3 f5
 obtain ⟨n6,e6,_,_⟩:=DataW.trod_int Tryz.underlying3 f6
 obtain ⟨n7,e7,_,_⟩:=DataW.trod_int Tryz.underlying3 f7
 simp at e0 e1 e2 e3 e4 e5 e6 e7
 subst e0
 subst e1
 subst e2
 subst e3
 subst e4
 subst e5
 subst e6
 subst e7
 exact ⟨n0,n1,n2,n3,n4,n5,n6,n7,rfl⟩
end Go.Proofs.YtnineoajmgneiaaGreat.Rw
