/- FnFillOne: the walk. -/
import Derived.Test.YtnineoajmgneiaaGreatYh
set_option linter.unusedVariables false
set_option linter.unusedSimpArgs false
namespace Go.Proofs.YtnineoajmgneiaaGreat.fnFillOne
open Lib (hid)
open Go.RowKit YtnineoajmgneiaaGreatW YtnineoajmgneiaaGreatW.PrintWords YtnineoajmgneiaaGreatW.PrintLast YtnineoajmgneiaaGreatW.PrintMore Fr L Ky Tm Lm It Tg Tp Tl Lk Lo Rg
set_option maxRecDepth 100000 in
set_option maxHeartbeats 4000000 in
theorem calls {w:World} {A0:Option Addr} {c0:Nat} {ls:List (List S68)} {m a b c d e f g li comp:Int} (hC:Kd.C (Kd.slice 68 k68) w A0 ls.length ls) (hc0:ls.length≤c0) (hl0:ls.length≤2000000) (hl1:∀ l∈ls,l.length≤2000000) (hts:∀ l∈ls,∀ t∈l,t.f1.size≤2000000∧t.f3.size≤2000000) :
  Calls Tryz.prog 14 #[.slice A0 ls.length c0,.agg #[.int .i64 m,.int .i64 a,.int .i64 b,.int .i64 c,.int .i64 d,.int .i64 e,.int .i64 f,.int .i64 g],.int .i64 li,.int .i64 comp] w fun en w'=>en=.returned (.bool true)∧Below w.heap.size w w':=by
 obtain ⟨Q,hQ⟩ : ∃ Q:Ending→World→Prop,Q=fun en w'=>en=.returned (.bool true)∧Below w.heap.size w w':=⟨_,rfl⟩
 rw [← hQ]
 have HQ:=hid hQ
 have HC:=hid hC
 have HC0:=hid hc0
 have HTS:=hid hts
 have K22:=hid (fun W (hW:Below w.heap.size w W)=>laws_zzFits6.calls (ls.length+2000002) A0 c0 ls true W (Kd.C_below hC hW) hc0 (fits6 hl0 hl1 hts))
 have K30:=hid (fun W (hW:Below w.heap.size w W)=>oneOk_calls (w:=W) (m:=m) (a:=a) (b:=b) (c:=c) (d:=d) (e:=e) (f:=f) (g:=g) (i:=li) (comp:=comp) (Kd.C_below hC hW) hc0 (by omega) hts)
 have K24:=hid (fun W=>Lw.work_calls (w:=W))
 clear hQ hC hc0 hts hl0 hl1
 go_enter Tryz.func14,Tryz.ntmps14
 go_upto_region 1 with (fail)
 obtain ⟨w1,hw1⟩ : ∃ w1,w1=w.alloc (.cells #[.int .i64 m,.int .i64 a,.int .i64 b,.int .i64 c,.int .i64 d,.int .i64 e,.int .i64 f,.int .i64 g] 24):=⟨_,rfl⟩
 rw [← hw1]
 obtain ⟨b3,hb3⟩ : ∃ b3,b3=w.heap.size:=⟨_,rfl⟩
 rw [← hb3]
 have HB1:=hid (show Below w.heap.size w w1 by rw [hw1];exact below_alloc (Below.refl _ _) _)
 have HO1:=hid (show w1.heap[b3]? = some (.cells #[.int .i64 m,.int .i64 a,.int .i64 b,.int .i64 c,.int .i64 d,.int .i64 e,.int .i64 f,.int .i64 g] 24 (0,0)) by rw [hw1,hb3];exact blk_new w _)
 clear hw1 hb3
 go_wp2_with fail
 refine (K22.out w1 HB1.out).mono ?_
 rintro en w2 ⟨rfl,hb2⟩
 have HB2:=hid (below_step HB1.out hb2)
 have HO2:=hid ((hb2.block _ (blk_lt HO1.out)).trans HO1.out)
 clear hb2 K22
 have o0:=blk_cell HO2.out 0
 have o1:=blk_cell HO2.out 1
 have o2:=blk_cell HO2.out 2
 have o3:=blk_cell HO2.out 3
 have o4:=blk_cell HO2.out 4
 have o5:=blk_cell HO2.out 5
 have o6:=blk_cell HO2.out 6
 have o7:=blk_cell HO2.out 7
 go_wp2_with fail
 refine (K30.out w2 HB2.out).mono ?_
 rintro en w3 ⟨r,rfl,hok,hb3⟩
 have HB3:=hid (below_step HB2.out hb3)
 have HO3:=hid ((hb3.block _ (blk_lt HO2.out)).trans HO2.out)
 have HOK:=hid hok
 clear hok hb3 K30 o0 o1 o2 o3 o4 o5 o6 o7
 cases r with
 | false =>
  go_wp2_with fail
  refine (K24.out w3).mono ?_
  rintro en wz ⟨rfl,hbz⟩
  have HBZ:=hid (below_step HB3.out hbz)
  clear hbz
  go_wp2_with fail
  rw [HQ.out]
  exact ⟨rfl,HBZ.out⟩
 | true =>
  have HLV:=hid (HOK.out rfl).1
  have HSK:=hid (HOK.out rfl).2
  obtain ⟨i,hi⟩ : ∃ i:Nat,li=(i:Int):=⟨li.toNat,by have h:=HSK.out.2.1.1;have h:0≤li:=h;omega⟩
  subst hi
  have HI:=hid (show i<ls.length∧ls.length≤7∧2≤ls.length by
   have h1:=HSK.out.2.1.2
   have h1:(i:Int)≤m - 1:=h1
   have h2:=HLV.out.len
   have h3:=ok_len HLV.out
   omega)
  have s2:IntKind.i64.wrap ((ls.length:Int) - 2)=(ls.length:Int) - 2:=IntWalk.i64_in _ (by have:=HI.out;omega)
  obtain ⟨q,hq⟩ : ∃ q,q=decide (1≤(i:Int)∧(i:Int)≤(ls.length:Int) - 2):=⟨_,rfl⟩
  have K46:=within_calls (w:=w3) (i:Int) 1 ((ls.length:Int) - 2)
  rw [← hq] at K46
  have HK46:=hid K46
  have HQQ:=hid hq
  clear K46 hq
  go_wp2_with fail
  refine HK46.out.mono ?_
  rintro en w4 ⟨rfl,hb4⟩
  have HB4:=hid (below_step HB3.out hb4)
  have HO4:=hid ((hb4.block _ (blk_lt HO3.out)).trans HO3.out)
  clear hb4 HK46
  cases q with
  | false =>
   go_wp2_with fail
   refine (K24.out w4).mono ?_
   rintro en wz ⟨rfl,hbz⟩
   have HBZ:=hid (below_step HB4.out hbz)
   clear hbz
   go_wp2_with fail
   rw [HQ.out]
   exact ⟨rfl,HBZ.out⟩
  | true =>
   have HIM:=hid (of_decide_eq_true HQQ.out.symm)
   obtain ⟨ad,A9,c9,hA,hcw,hc9,hF9⟩:=row68 (Kd.C_below HC.out HB4.out) HI.out.1
   subst hA
   have HLE:=hid (show (ls.getD i []).length=(((ls.map (·.map tbOf)).getD i []).length) by rw [xs_at,List.length_map])
   have dI:(i:Int)<(ls.length:Int):=by have:=HI.out;omega
   have dL:i<ls.length:=HI.out.1
   obtain ⟨nl,hnl⟩ : ∃ n,n=(ls.getD i []).length:=⟨_,rfl⟩
   rw [← hnl] at hcw HLE
   clear hnl hc9 hF9
   by_cases hz:nl=0
   ·subst hz
    go_wp2_with fail
    refine (K24.out w4).mono ?_
    rintro en wz ⟨rfl,hbz⟩
    have HBZ:=hid (below_step HB4.out hbz)
    clear hbz
    go_wp2_with fail
    rw [HQ.out]
    exact ⟨rfl,HBZ.out⟩
   ·have dz:((nl:Int) == 0)=false:=beq_eq_false_iff_ne.2 (by omega)
    have HZ:=hid hz
    clear hz
    have o0:=blk_cell HO4.out 0
    have o1:=blk_cell HO4.out 1
    have o2:=blk_cell HO4.out 2
    have o3:=blk_cell HO4.out 3
    have o4:=blk_cell HO4.out 4
    have o5:=blk_cell HO4.out 5
    have o6:=blk_cell HO4.out 6
    have o7:=blk_cell HO4.out 7
    go_upto_region 5 with (fail)
    refine start_ (n:=12) (S:=fun w'=>w'.cell? ⟨b3,0,none⟩=some (.int .i64 m)∧w'.cell? ⟨b3,1,none⟩=some (.int .i64 a)∧w'.cell? ⟨b3,2,none⟩=some (.int .i64 b)∧w'.cell? ⟨b3,3,none⟩=some (.int .i64 c)∧w'.cell? ⟨b3,4,none⟩=some (.int .i64 d)∧w'.cell? ⟨b3,5,none⟩=some (.int .i64 e)∧w'.cell? ⟨b3,6,none⟩=some (.int .i64 f)∧w'.cell? ⟨b3,7,none⟩=some (.int .i64 g)) (ds:=[]) #[false,false,false,false,false,false,false,false,false,false,false,false] (by kernel_rfl) rfl rfl ⟨o0,o1,o2,o3,o4,o5,o6,o7⟩ (fun hHeld=>?_)
    refine pure_ (i:=0) (N:=some 38) (v:=?_) (a':=?_) #[true,false,false,false,false,false,false,false,false,false,false,false] rfl rfl (by kernel_rfl) (fun _ _ _ h=>h) (Or.inl ⟨by rfl,?_⟩) ?_ ?_
    rotate_left
    ·intro w'
     go_simp
     with_reducible rfl
    rotate_left
    ·simp only [Act.put,List.setIfInBounds_toArray,List.set_cons_zero,List.set_cons_succ,i64_w,i32_w]
     rfl
    refine pure_ (i:=2) (N:=some 40) (v:=?_) (a':=?_) #[true,false,true,false,false,false,false,false,false,false,false,false] rfl rfl (by kernel_rfl) (fun _ _ _ h=>h) (Or.inl ⟨by rfl,?_⟩) ?_ ?_
    rotate_left
    ·intro w'
     go_simp
     with_reducible rfl
    rotate_left
    ·simp only [Act.put,List.setIfInBounds_toArray,List.set_cons_zero,List.set_cons_succ,i64_w,i32_w]
     rfl
    refine pure_ (i:=3) (N:=some 41) (v:=?_) (a':=?_) #[true,false,true,true,false,false,false,false,false,false,false,false] rfl rfl (by kernel_rfl) (fun _ _ _ h=>h) (Or.inl ⟨by rfl,?_⟩) ?_ ?_
    rotate_left
    ·intro w'
     go_simp
     with_reducible rfl
    rotate_left
    ·simp only [Act.put,List.setIfInBounds_toArray,List.set_cons_zero,List.set_cons_succ,i64_w,i32_w]
     rfl
    refine take_ (i:=1) (N:=some 39) (v:=?_) (a':=?_) #[true,true,true,true,false,false,false,false,false,false,false,false] rfl rfl (by kernel_rfl) (fun _ _ _ h=>h) (Or.inl ⟨by rfl,?_⟩) hHeld ?_ ?_
    rotate_left
    ·rintro w' ⟨s0,s1,s2,s3,s4,s5,s6,s7⟩
     go_simp
     with_reducible rfl
    rotate_left
    ·simp only [Act.put,List.setIfInBounds_toArray,List.set_cons_zero,List.set_cons_succ,i64_w,i32_w]
     rfl
    refine one_ (i:=4) (N:=some 42) #[true,true,true,true,true,false,false,false,false,false,false,false] rfl rfl (by kernel_rfl) (by decide) (fun K hK=>?_)
    refine goes_ Tryz.func32 (by kernel_rfl) rfl #[.int .i64 (i:Int),.int .i64 comp] (by rfl) rfl rfl (by simp only [List.map_toArray,List.map_cons,List.map_nil];rfl) ?_
    with_reducible refine ((laws_fill.calls (i:Int) comp 0 (i:Int) comp 20 0 w4.drew rfl)).mono ?_
    rintro en w5 ⟨rfl,hb5⟩
    refine ⟨_,rfl,?_⟩
    have HB5:=hid (show Below w4.heap.size w4 w5 from below_step (below_drew (Below.refl _ _)) hb5)
    refine hK.out _ _ ⟨(HB5.out.cell (World.block_lt_of_cell? w4 _ o0)).trans o0,(HB5.out.cell (World.block_lt_of_cell? w4 _ o1)).trans o1,(HB5.out.cell (World.block_lt_of_cell? w4 _ o2)).trans o2,(HB5.out.cell (World.block_lt_of_cell? w4 _ o3)).trans o3,(HB5.out.cell (World.block_lt_of_cell? w4 _ o4)).trans o4,(HB5.out.cell (World.block_lt_of_cell? w4 _ o5)).trans o5,(HB5.out.cell (World.block_lt_of_cell? w4 _ o6)).trans o6,(HB5.out.cell (World.block_lt_of_cell? w4 _ o7)).trans o7⟩ (fun hHeld=>?_)
    clear hK K
    refine norm_ (a':=?_) ?_ ?_
    rotate_left
    ·show Act.put _ (some 42) _=_
     simp only [Act.put,List.setIfInBounds_toArray,List.set_cons_zero,List.set_cons_succ,i64_w,i32_w]
     rfl
    refine one_ (i:=5) (N:=some 43) #[true,true,true,true,true,true,false,false,false,false,false,false] rfl rfl (by kernel_rfl) (by decide) (fun K hK=>?_)
    refine value_ (w1:=?_) (v:=?_) (by rfl) rfl ?_ ?_
    rotate_left 2
    ·go_simp
     constructor
     ·rfl
     ·rfl
    generalize hwy:w5.alloc (.cells #[.int .i64 0,.int .i64 (i:Int),.int .i64 comp,.int .i64 20,.int .i64 0] 42)=w6
    have HB6:=hid (show Below w4.heap.size w4 w6 by rw [← hwy];exact below_step HB5.out (below_alloc (Below.refl _ _) _))
    have HW6:=hid (below_step HB4.out HB6.out)
    have HS6:=hid (show Kd.C k42 w6 (some ⟨w5.heap.size,0,none⟩) [fS (i:Int) comp].length [fS (i:Int) comp] from one_C42 (by rw [← hwy];exact blk_new w5 _))
    obtain ⟨cc,hcr,hcc1,hcc2⟩:=one_first (xs:=ls.map (·.map tbOf)) (ls:=ls) (s:=fS (i:Int) comp) rfl (by rw [show (fS (i:Int) comp).f1.toNat=i from Int.toNat_natCast i,← HLE.out];have:=HZ.out;omega)
    have K31:=run_calls (w:=w6) (A0:=some ad) (As:=some ⟨w5.heap.size,0,none⟩) (L:=ls.length) (c0:=c0) (n:=1) (cs0:=1) (m:=m) (a:=a) (b:=b) (c:=c) (d:=d) (e:=e) (f:=f) (g:=g) (rs:=[cc]) rfl (fun W hW=>by have K:=mid_runs (w:=W) (As:=some ⟨w5.heap.size,0,none⟩) (cs0:=1) (ss:=[fS (i:Int) comp]) (Kd.C_below (Kd.C_below HC.out HW6.out) hW) (Kd.C_below HS6.out hW) HC0.out HLV.out HTS.out (by simp) (fun s hs=>by rw [List.mem_singleton.1 hs];exact ⟨rfl,HIM.out.1,by show ((i:Int)).toNat+1<ls.length;have h1:=HIM.out.2;have h2:=HI.out;omega,by show (0:Int)≤20∧(20:Int)≤1000;omega⟩);rw [show st0 ls.length=st0 (ls.map (·.map tbOf)).length by rw [List.length_map],hcr] at K;exact K)
    refine hK.out _ _ ⟨(HB6.out.cell (World.block_lt_of_cell? w4 _ o0)).trans o0,(HB6.out.cell (World.block_lt_of_cell? w4 _ o1)).trans o1,(HB6.out.cell (World.block_lt_of_cell? w4 _ o2)).trans o2,(HB6.out.cell (World.block_lt_of_cell? w4 _ o3)).trans o3,(HB6.out.cell (World.block_lt_of_cell? w4 _ o4)).trans o4,(HB6.out.cell (World.block_lt_of_cell? w4 _ o5)).trans o5,(HB6.out.cell (World.block_lt_of_cell? w4 _ o6)).trans o6,(HB6.out.cell (World.block_lt_of_cell? w4 _ o7)).trans o7⟩ (fun hHeld=>?_)
    clear hK K
    refine norm_ (a':=?_) ?_ ?_
    rotate_left
    ·show Act.put _ (some 43) _=_
     simp only [Act.put,List.setIfInBounds_toArray,List.set_cons_zero,List.set_cons_succ,i64_w,i32_w]
     rfl
    refine one_ (i:=6) (N:=some 44) #[true,true,true,true,true,true,true,false,false,false,false,false] rfl rfl (by kernel_rfl) (by decide) (fun K hK=>?_)
    refine goes_ Tryz.func31 (by kernel_rfl) rfl #[.slice (some ad) ls.length c0,.agg #[.int .i64 m,.int .i64 a,.int .i64 b,.int .i64 c,.int .i64 d,.int .i64 e,.int .i64 f,.int .i64 g],.slice (some ⟨w5.heap.size,0,none⟩) 1 1] (by rfl) rfl rfl (by simp only [List.map_toArray,List.map_cons,List.map_nil];rfl) ?_
    with_reducible refine (K31).mono ?_
    rintro en w7 ⟨A7,k7,rfl,hr,hb7⟩
    refine ⟨_,rfl,?_⟩
    have HB7:=hid (show Below w.heap.size w w7 from below_step HW6.out hb7)
    have hr7:=(Kd.R_reads' hr).2.2
    have HB7b:=hid (show Below w4.heap.size w4 w7 from below_step HB6.out hb7)
    refine hK.out _ _ ⟨(HB7b.out.cell (World.block_lt_of_cell? w4 _ o0)).trans o0,(HB7b.out.cell (World.block_lt_of_cell? w4 _ o1)).trans o1,(HB7b.out.cell (World.block_lt_of_cell? w4 _ o2)).trans o2,(HB7b.out.cell (World.block_lt_of_cell? w4 _ o3)).trans o3,(HB7b.out.cell (World.block_lt_of_cell? w4 _ o4)).trans o4,(HB7b.out.cell (World.block_lt_of_cell? w4 _ o5)).trans o5,(HB7b.out.cell (World.block_lt_of_cell? w4 _ o6)).trans o6,(HB7b.out.cell (World.block_lt_of_cell? w4 _ o7)).trans o7⟩ (fun hHeld=>?_)
    clear hK K
    refine norm_ (a':=?_) ?_ ?_
    rotate_left
    ·show Act.put _ (some 44) _=_
     simp only [Act.put,List.setIfInBounds_toArray,List.set_cons_zero,List.set_cons_succ,i64_w,i32_w]
     rfl
    refine pure_ (i:=7) (N:=some 37) (v:=?_) (a':=?_) #[true,true,true,true,true,true,true,true,false,false,false,false] rfl rfl (by kernel_rfl) (fun _ _ _ h=>h) (Or.inl ⟨by rfl,?_⟩) ?_ ?_
    rotate_left
    ·intro w'
     go_simp
     with_reducible rfl
    rotate_left
    ·simp only [Act.put,List.setIfInBounds_toArray,List.set_cons_zero,List.set_cons_succ,i64_w,i32_w]
     rfl
    refine pure_ (i:=8) (N:=some 45) (v:=?_) (a':=?_) #[true,true,true,true,true,true,true,true,true,false,false,false] rfl rfl (by kernel_rfl) (fun _ _ _ h=>h) (Or.inl ⟨by rfl,?_⟩) ?_ ?_
    rotate_left
    ·intro w'
     go_simp
     with_reducible rfl
    rotate_left
    ·simp only [Act.put,List.setIfInBounds_toArray,List.set_cons_zero,List.set_cons_succ,i64_w,i32_w]
     rfl
    refine pure_ (i:=9) (N:=some 46) (v:=?_) (a':=?_) #[true,true,true,true,true,true,true,true,true,true,false,false] rfl rfl (by kernel_rfl) (fun _ _ _ h=>h) (Or.inl ⟨by rfl,?_⟩) ?_ ?_
    rotate_left
    ·intro w'
     go_simp
     with_reducible rfl
    rotate_left
    ·simp only [Act.put,List.setIfInBounds_toArray,List.set_cons_zero,List.set_cons_succ,i64_w,i32_w]
     rfl
    refine pure_ (i:=10) (N:=some 9) (v:=?_) (a':=?_) #[true,true,true,true,true,true,true,true,true,true,true,false] rfl rfl (by kernel_rfl) (fun _ _ _ h=>h) (Or.inl ⟨by rfl,?_⟩) ?_ ?_
    rotate_left
    ·intro w'
     go_simp
     with_reducible rfl
    rotate_left
    ·simp only [Act.put,List.setIfInBounds_toArray,List.set_cons_zero,List.set_cons_succ,i64_w,i32_w]
     rfl
    refine pure_ (i:=11) (N:=some 10) (v:=?_) (a':=?_) #[true,true,true,true,true,true,true,true,true,true,true,true] rfl rfl (by kernel_rfl) (fun _ _ _ h=>h) (Or.inl ⟨by rfl,?_⟩) ?_ ?_
    rotate_left
    ·intro w'
     go_simp
     with_reducible rfl
    rotate_left
    ·simp only [Act.put,List.setIfInBounds_toArray,List.set_cons_zero,List.set_cons_succ,i64_w,i32_w]
     rfl
    refine done_ (by kernel_rfl) ?_
    clear hHeld o0 o1 o2 o3 o4 o5 o6 o7
    obtain ⟨ad7,A3,c3,A4,c4,A10,c10,eA,x0,x1,x2,x3,x4,x5,x6,x7,x8,x9,x10⟩:=at_T46 hr7 0 (by omega) (by simp)
    subst eA
    have er:rd_T46 [cc] 0=cc:=rfl
    rw [er,show (0:Int).toNat*11=0 from rfl,Addr.add_zero'] at x0
    rw [er,show (0:Int).toNat*11=0 from rfl,Addr.add_zero'] at x3
    rw [hcc1] at x0
    rw [hcc2] at x3
    clear x1 x2 x4 x5 x6 x7 x8 x9 x10 hr7 hcc1 hcc2
    go_wp2_with fail
    refine (K24.out w7).mono ?_
    rintro en wz ⟨rfl,hbz⟩
    have HBZ:=hid (below_step HB7.out hbz)
    clear hbz x0 x3
    go_wp2_with fail
    rw [HQ.out]
    exact ⟨rfl,HBZ.out⟩
end Go.Proofs.YtnineoajmgneiaaGreat.fnFillOne
