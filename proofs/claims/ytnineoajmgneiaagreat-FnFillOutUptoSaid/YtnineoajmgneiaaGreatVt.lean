/- FnFillOut: the walk. -/
import Derived.Test.YtnineoajmgneiaaGreatYh
set_option linter.unusedSimpArgs false
set_option linter.unusedVariables false
namespace Go.Proofs.YtnineoajmgneiaaGreat.fnFillOut
open Lib (hid)
open Go.RowKit YtnineoajmgneiaaGreatW YtnineoajmgneiaaGreatW.PrintWords YtnineoajmgneiaaGreatW.PrintLast YtnineoajmgneiaaGreatW.PrintMore Fr L Ky Tm Lm It Tg Tp Tl Lk Lo Rg
set_option maxRecDepth 100000 in
set_option maxHeartbeats 4000000 in
theorem calls {w:World} {A0:Option Addr} {c0:Nat} {ls:List (List S68)} {m a b c d e f g li comp:Int} (hC:Kd.C (Kd.slice 68 k68) w A0 ls.length ls) (hc0:ls.length≤c0) (hl0:ls.length≤2000000) (hl1:∀ l∈ls,l.length≤2000000) (hts:∀ l∈ls,∀ t∈l,t.f1.size≤2000000∧t.f3.size≤2000000) :
  Calls Tryz.prog 15 #[.slice A0 ls.length c0,.agg #[.int .i64 m,.int .i64 a,.int .i64 b,.int .i64 c,.int .i64 d,.int .i64 e,.int .i64 f,.int .i64 g],.int .i64 li,.int .i64 comp] w fun en w'=>en=.returned (.bool true)∧Below w.heap.size w w':=by
 obtain ⟨Q,hQ⟩ : ∃ Q:Ending→World→Prop,Q=fun en w'=>en=.returned (.bool true)∧Below w.heap.size w w':=⟨_,rfl⟩
 rw [← hQ]
 have HQ:=hid hQ
 have HC:=hid hC
 have HC0:=hid hc0
 have HTS:=hid hts
 have K22:=hid (fun W (hW:Below w.heap.size w W)=>laws_zzFits6.calls (ls.length+2000002) A0 c0 ls true W (Kd.C_below hC hW) hc0 (fits6 hl0 hl1 hts))
 have K30:=hid (fun W (hW:Below w.heap.size w W)=>oneOk_calls (w:=W) (m:=m) (a:=a) (b:=b) (c:=c) (d:=d) (e:=e) (f:=f) (g:=g) (i:=li) (comp:=comp) (Kd.C_below hC hW) hc0 (by omega) hts)
 have K24:=hid (fun W=>Lw.work_calls (w:=W))
 clear hQ hC hc0 hts hl0 hl1
 go_enter Tryz.func15,Tryz.ntmps15
 go_upto_region 1 with (fail)
 obtain ⟨w1,hw1⟩ : ∃ w1,w1=w.alloc (.cells #[.int .i64 m,.int .i64 a,.int .i64 b,.int .i64 c,.int .i64 d,.int .i64 e,.int .i64 f,.int .i64 g] 24):=⟨_,rfl⟩
 rw [← hw1]
 obtain ⟨b3,hb3⟩ : ∃ b3,b3=w.heap.size:=⟨_,rfl⟩
 rw [← hb3]
 have HB1:=hid (show Below w.heap.size w w1 by rw [hw1];exact below_alloc (Below.refl _ _) _)
 have HO1:=hid (show w1.heap[b3]? = some (.cells #[.int .i64 m,.int .i64 a,.int .i64 b,.int .i64 c,.int .i64 d,.int .i64 e,.int .i64 f,.int .i64 g] 24 (0,0)) by rw [hw1,hb3];exact blk_new w _)
 clear hw1 hb3
 go_wp2_with fail
 refine (K22.out w1 HB1.out).mono ?_
 rintro en w2 ⟨rfl,hb2⟩
 have HB2:=hid (below_step HB1.out hb2)
 have HO2:=hid ((hb2.block _ (blk_lt HO1.out)).trans HO1.out)
 clear hb2 K22
 have o0:=blk_cell HO2.out 0
 have o1:=blk_cell HO2.out 1
 have o2:=blk_cell HO2.out 2
 have o3:=blk_cell HO2.out 3
 have o4:=blk_cell HO2.out 4
 have o5:=blk_cell HO2.out 5
 have o6:=blk_cell HO2.out 6
 have o7:=blk_cell HO2.out 7
 go_wp2_with fail
 refine (K30.out w2 HB2.out).mono ?_
 rintro en w3 ⟨r,rfl,hok,hb3⟩
 have HB3:=hid (below_step HB2.out hb3)
 have HO3:=hid ((hb3.block _ (blk_lt HO2.out)).trans HO2.out)
 have HOK:=hid hok
 clear hok hb3 K30 o0 o1 o2 o3 o4 o5 o6 o7
 cases r with
 | false =>
  go_wp2_with fail
  refine (K24.out w3).mono ?_
  rintro en wz ⟨rfl,hbz⟩
  have HBZ:=hid (below_step HB3.out hbz)
  clear hbz
  go_wp2_with fail
  rw [HQ.out]
  exact ⟨rfl,HBZ.out⟩
 | true =>
  have HLV:=hid (HOK.out rfl).1
  have HSK:=hid (HOK.out rfl).2
  obtain ⟨i,hi⟩ : ∃ i:Nat,li=(i:Int):=⟨li.toNat,by have h:=HSK.out.2.1.1;have h:0≤li:=h;omega⟩
  subst hi
  have HI:=hid (show i<ls.length∧ls.length≤7∧2≤ls.length by
   have h1:=HSK.out.2.1.2
   have h1:(i:Int)≤m - 1:=h1
   have h2:=HLV.out.len
   have h3:=ok_len HLV.out
   omega)
  have s2:IntKind.i64.wrap ((ls.length:Int) - 2)=(ls.length:Int) - 2:=IntWalk.i64_in _ (by have:=HI.out;omega)
  obtain ⟨q,hq⟩ : ∃ q,q=decide (1≤(i:Int)∧(i:Int)≤(ls.length:Int) - 2):=⟨_,rfl⟩
  have K46:=within_calls (w:=w3) (i:Int) 1 ((ls.length:Int) - 2)
  rw [← hq] at K46
  have HK46:=hid K46
  have HQQ:=hid hq
  clear K46 hq
  go_wp2_with fail
  refine HK46.out.mono ?_
  rintro en w4 ⟨rfl,hb4⟩
  have HB4:=hid (below_step HB3.out hb4)
  have HO4:=hid ((hb4.block _ (blk_lt HO3.out)).trans HO3.out)
  clear hb4 HK46
  cases q with
  | false =>
   go_wp2_with fail
   refine (K24.out w4).mono ?_
   rintro en wz ⟨rfl,hbz⟩
   have HBZ:=hid (below_step HB4.out hbz)
   clear hbz
   go_wp2_with fail
   rw [HQ.out]
   exact ⟨rfl,HBZ.out⟩
  | true =>
   have HIM:=hid (of_decide_eq_true HQQ.out.symm)
   obtain ⟨ad,A9,c9,hA,hcw,hc9,hF9⟩:=row68 HC.out HI.out.1
   subst hA
   have HLE:=hid (show (ls.getD i []).length=(((ls.map (·.map tbOf)).getD i []).length) by rw [xs_at,List.length_map])
   have dI:(i:Int)<(ls.length:Int):=by have:=HI.out;omega
   have dL:i<ls.length:=HI.out.1
   have hnm:=(ok_mem HLV.out (l:=ls.getD i []) (by simp [dL])).1
   obtain ⟨nl,hnl⟩ : ∃ n,n=(ls.getD i []).length:=⟨_,rfl⟩
   rw [← hnl] at hcw HLE hnm
   have HCW:=hid hcw
   have HNM:=hid hnm
   clear hnl hc9 hF9 hcw hnm
   go_upto_region 6 with (first | ((with_reducible refine gate_dst (N:=31) rfl ?_);refine Kd.R_lit k42 (w0:=w4) w4.heap.size 42 ?hg (N:=31) ?hd (xs:=([]:List S42)) (inner:=[]) (ok:=fun _=>True) (okp:=fun _=>True) ?hr ?hp (fun _ hk=>hk) trivial (Below.refl _ _) (Nat.le_refl _) (by simp) ?_;(case hd=>rfl);(case hg=>rfl);(case hr=>first | (go_simp;done) | (go_simp;rfl));(case hp=>exact (Reps.none _ _));intro v9 w5 ho hb hg_ hnew_;have HR5:=hid ho;have HB5:=hid hb;clear hg_ hnew_ ho hb))
   obtain ⟨n8,A8,c8,hv8⟩ : ∃ n A c,v9=.slice A n c:=(by obtain ⟨A,c,e⟩:=Kd.R_slice HR5.out;exact ⟨_,A,c,e⟩)
   subst hv8
   go_wp2_with fail
   go_loopg [9,10] (nl+1) (fun kq v9 v10 wr=>∃ (j:Nat) (n8:Nat) (A8:Option Addr) (c8:Nat),v9=.slice A8 n8 c8∧v10=.int .i64 (j:Int)∧Aside0 (j+kq=nl+1∧Below w4.heap.size w4 wr∧Kd.R k42 42 wr w4.heap.size (fun _=>True) (.slice A8 n8 c8) (List.replicate j (fS (i:Int) comp))))
   case atStart=>exact ⟨0,n8,A8,c8,rfl,rfl,⟨by omega,HB5.out,HR5.out⟩⟩
   case round =>
    clear HR5 HB5
    obtain ⟨j,n8,A8,c8,rfl,rfl,HJ⟩:=hrel
    have HJK:=hid HJ.out.1
    have HBR:=hid HJ.out.2.1
    have HRR:=hid HJ.out.2.2
    clear HJ
    have hcell:wr.cell? (ad.add i)=some (.slice A9 nl c9):=((below_step HB4.out HBR.out).cell (World.block_lt_of_cell? w _ HCW.out)).trans HCW.out
    by_cases hj:j≤nl
    ·have d1:decide ((j:Int)≤(nl:Int))=true:=decide_eq_true (by omega)
     have sj:IntKind.i64.wrap ((j:Int)+1)=((j+1:Nat):Int):=by rw [IntWalk.i64_in _ (by have:=HNM.out;omega)];omega
     have HGK:=hid (show gk - 1<gk∧j+1+(gk - 1)=nl+1 by have:=HJK.out;omega)
     have HJL:=hid (show j≤1000 by have:=HNM.out;omega)
     have K32:=hid (laws_fill.calls (i:Int) comp 0 (i:Int) comp 20 0 wr rfl)
     go_wp2_with fail
     refine K32.out.mono ?_
     rintro en w6 ⟨rfl,hb6⟩
     have HB6:=hid (below_step HBR.out hb6)
     have HR6:=hid (Kd.R_below HRR.out hb6)
     have HE:=hid (show List.replicate j (fS (i:Int) comp)++[fS (i:Int) comp]=List.replicate (j+1) (fS (i:Int) comp) from List.replicate_succ'.symm)
     clear hb6 K32 hcell
     go_wp2_with (first | ((with_reducible refine gate_builtin (b:=.append) (xs:=#[.tmp 41,.tmp 45]) rfl ?_);at_builtin;refine Kd.R_append k42 (w0:=w4) w4.heap.size rfl (.tmp 41) (.tmp 45) 44 42 (.agg #[(.int .i64 0),(.int .i64 0),(.int .i64 0),(.int .i64 0),(.int .i64 0)]) 40 rfl Tryz.underlying44 info42 rfl (by decide) (by omega) (.slice A8 n8 c8) (List.replicate j (fS (i:Int) comp)) (fS (i:Int) comp) [.int .i64 0,.int .i64 (i:Int),.int .i64 comp,.int .i64 20,.int .i64 0] (fun _=>True) (fun _=>False) rfl rfl ?aP (fun _ hk=>hk.elim) ?aF ?aO ?aB ?aS ?aL ?_;(case aP=>exact k42_mkM _ _ _ (fS (i:Int) comp));(case aB=>exact HB6.out);(case aF=>exact (fun _ _=>trivial));(case aO=>exact HR6.out);(case aS=>exact HB6.out.size);(case aL=>(rw [List.length_replicate];have:=HJL.out;omega));intro v7 w7 ho hb hg hat;obtain ⟨n7,A7,c7,hv⟩ : ∃ n A c,v7=.slice A n c:=(by obtain ⟨A,c,e⟩:=Kd.R_slice ho;exact ⟨_,A,c,e⟩);subst hv;have HR7:=hid ho;have HB7:=hid hb;clear ho hb hg hat))
     go_roundg (gk - 1)
     case measure=>exact HGK.out.1
     case rel=>exact ⟨j+1,n7,A7,c7,rfl,rfl,⟨HGK.out.2,HB7.out,by rw [← HE.out];exact HR7.out⟩⟩
    ·have d1:decide ((j:Int)≤(nl:Int))=false:=decide_eq_false (by omega)
     have hjn:nl+1=j:=by have:=HJK.out;omega
     have HJN:=hid hjn
     have HB6:=hid (below_step HB4.out HBR.out)
     have hn8:j=n8:=by have h:=(Kd.R_reads' HRR.out).1;rw [List.length_replicate] at h;exact h.symm
     subst hn8
     have HR6:=hid HRR.out
     have HO6:=hid ((HBR.out.block _ (blk_lt HO4.out)).trans HO4.out)
     have d2:decide (j≤nl)=false:=decide_eq_false (by omega)
     clear hjn HBR HRR HJK
     obtain ⟨cc,hcr,hcc⟩:=out_last (xs:=ls.map (·.map tbOf)) (ls:=ls) (s:=fS (i:Int) comp) rfl (by rw [show (fS (i:Int) comp).f1.toNat=i from Int.toNat_natCast i,List.length_map];have h1:=HIM.out.2;omega) (by
      rw [show (fS (i:Int) comp).f1.toNat=i from Int.toNat_natCast i]
      exact (xs_lvl HLV.out (by have h1:=HIM.out.1;omega) HI.out.1).one)
     rw [show (fS (i:Int) comp).f1.toNat=i from Int.toNat_natCast i,← HLE.out,HJN.out] at hcr
     have K31:=hid (run_calls (w:=wr) (A0:=some ad) (As:=A8) (L:=ls.length) (c0:=c0) (n:=j) (cs0:=c8) (m:=m) (a:=a) (b:=b) (c:=c) (d:=d) (e:=e) (f:=f) (g:=g) (rs:=runF (Fm (ls.map (·.map tbOf))) Dn ls (st0 (ls.map (·.map tbOf)).length) (List.replicate j (fS (i:Int) comp))) (by rw [runF_len,List.length_replicate]) (fun W hW=>by
      have K:=mid_runs (w:=W) (As:=A8) (cs0:=c8) (ss:=List.replicate j (fS (i:Int) comp)) (Kd.C_below (Kd.C_below HC.out HB6.out) hW) (Kd.C_below (Kd.R_reads' HR6.out).2.2 hW) HC0.out HLV.out HTS.out (by rw [List.length_replicate];have:=HNM.out;have:=HJN.out;omega) (fun s hs=>by
       rw [(List.mem_replicate.1 hs).2]
       exact ⟨rfl,HIM.out.1,by show ((i:Int)).toNat+1<ls.length;have h1:=HIM.out.2;have h2:=HI.out;omega,by show (0:Int)≤20∧(20:Int)≤1000;omega⟩)
      rw [List.length_replicate] at K
      rw [List.length_map]
      exact K))
     have HCR:=hid hcr
     have HCC:=hid hcc
     clear hcr hcc
     have o0:=blk_cell HO6.out 0
     have o1:=blk_cell HO6.out 1
     have o2:=blk_cell HO6.out 2
     have o3:=blk_cell HO6.out 3
     have o4:=blk_cell HO6.out 4
     have o5:=blk_cell HO6.out 5
     have o6:=blk_cell HO6.out 6
     have o7:=blk_cell HO6.out 7
     go_wp2_with fail
     refine K31.out.mono ?_
     rintro en w9 ⟨A7,k7,rfl,hr,hb9⟩
     have HB9:=hid (show Below w.heap.size w w9 from below_step HB6.out hb9)
     have hr7:=(Kd.R_reads' hr).2.2
     obtain ⟨ad7,A3,c3,A4,c4,A10,c10,eA,x0,x1,x2,x3,x4,x5,x6,x7,x8,x9,x10⟩:=at_T46 hr7 (nl:Int) (by omega) (by rw [runF_len,List.length_replicate];have:=HJN.out;omega)
     subst eA
     have er:rd_T46 (runF (Fm (ls.map (·.map tbOf))) Dn ls (st0 (ls.map (·.map tbOf)).length) (List.replicate j (fS (i:Int) comp))) (nl:Int)=cc:=by
      unfold rd_T46
      rw [Int.toNat_natCast,List.getD_eq_getElem?_getD,HCR.out]
      rfl
     rw [er,HCC.out,Int.toNat_natCast] at x0
     have s9:IntKind.i64.wrap ((j:Int) - 1)=(nl:Int):=by have:=HJN.out;rw [IntWalk.i64_in _ (by have:=HNM.out;omega)];omega
     clear x1 x2 x3 x4 x5 x6 x7 x8 x9 x10 hr7 hr hb9 er K31 o0 o1 o2 o3 o4 o5 o6 o7
     go_wp2_with fail
     refine (K24.out w9).mono ?_
     rintro en wz ⟨rfl,hbz⟩
     have HBZ:=hid (below_step HB9.out hbz)
     clear hbz x0
     go_wp2_with fail
     rw [HQ.out]
     exact ⟨rfl,HBZ.out⟩
end Go.Proofs.YtnineoajmgneiaaGreat.fnFillOut
