/- FnFillApart: the walk. -/
import Derived.Test.YtnineoajmgneiaaGreatYi
set_option linter.unusedSimpArgs false
set_option linter.unusedVariables false
namespace Go.Proofs.YtnineoajmgneiaaGreat.fnFillApart
open Lib (hid)
open Go.RowKit YtnineoajmgneiaaGreatW YtnineoajmgneiaaGreatW.PrintWords YtnineoajmgneiaaGreatW.PrintLast YtnineoajmgneiaaGreatW.PrintMore Fr L Ky Tm Lm It Tg Tp Tl Lk Lo Rg
/-- A step that chooses at a level in the middle. -/
def mB (L:Nat) (s:S42):Bool:=s.f0 == 0 && (decide (0<s.f1) && decide (s.f1<(L:Int) - 1))
theorem le_not:∀ x y:List UInt8,(Op.bytesLess x y || x == y) = !Op.bytesLess y x
 | [],[]=>by simp [Op.bytesLess]
 | [],_ :: _=>by simp [Op.bytesLess]
 | _ :: _,[]=>by simp [Op.bytesLess]
 | a :: x,b :: y=>by
  have ih:=le_not x y
  by_cases h1:a=b
  ·subst h1
   have h2:¬ a<a:=UInt8.lt_irrefl a
   simpa [Op.bytesLess,h2] using ih
  ·by_cases h2:a<b
   ·have h3:¬ b<a:=fun h=>UInt8.lt_irrefl a (UInt8.lt_trans h2 h)
    simp [Op.bytesLess,h1,h2,h3,Ne.symm h1]
   ·have h3:b<a:=by
     rw [UInt8.lt_iff_toNat_lt] at h2 ⊢
     have:a.toNat≠b.toNat:=fun h=>h1 (UInt8.toNat_inj.1 h)
     omega
    simp [Op.bytesLess,h1,h2,h3]
theorem le_f {x y:List UInt8} (h:Op.bytesLess y x=true):Op.bytesLess x y=false∧(x == y)=false:=by
 have:=le_not x y
 rw [h] at this
 exact Bool.or_eq_false_iff.1 this
theorem le_t {x y:List UInt8} (h:Op.bytesLess y x=false):(Op.bytesLess x y || x == y)=true:=by
 rw [le_not,h];rfl
theorem mB_mid {L:Nat} {s:S42} (h:mB L s=true):s.f0=0∧1≤s.f1∧s.f1.toNat+1<L:=by
 unfold mB at h
 rw [Bool.and_eq_true,Bool.and_eq_true] at h
 have h1:=beq_iff_eq.1 h.1
 have h2:=of_decide_eq_true h.2.1
 have h3:=of_decide_eq_true h.2.2
 exact ⟨h1,by omega,by omega⟩
theorem fil_snoc (L:Nat) (l:List S42) (s:S42):(l++[s]).filter (mB L)=l.filter (mB L)++if mB L s then [s] else []:=by
 rw [List.filter_append]
 cases h:mB L s<;>simp [h]
theorem txt_list (x:List UInt8):(txt x).toList=uk x:=by
 unfold txt
 rw [ByteArray.toList_eq,strOfNums_data]
 unfold Pu.nums
 rw [List.map_map]
 have:(fun n:Int=>UInt8.ofNat n.toNat)∘(fun u:UInt8=>(u.toNat:Int))=id:=by
  funext u
  simp
 rw [this,List.map_id]
/-- Two compactions that were chosen have no keys in common. -/
theorem no_common {xs:List (List Tb)} {ls:List (List S68)} {ss:List S42} (hs:∀ s∈ss,MidS xs s) {j k:Nat} {s u:S42} {c d:S46} (hj:j<k) (h1:ss[k]? = some s) (h2:ss[j]? = some u) (h3:(runF (Fm xs) Dn ls (st0 xs.length) ss)[k]? = some c) (h4:(runF (Fm xs) Dn ls (st0 xs.length) ss)[j]? = some d) (h5:c.f0=true) (h6:d.f0=true) (he:s.f1=u.f1)
  (g1:Op.bytesLess d.f7.toList c.f5.toList=false):Op.bytesLess c.f7.toList d.f5.toList=true:=by
 obtain ⟨t,v,_,_,e1,e2,e3,e4,ho⟩:=apart_two ss _ (by simp [st0]) hs j k s u c d hj h1 h2 h3 h4 h5 h6 he
 rw [e1,e4,txt_list,txt_list,Oo.less_cmp] at g1
 rw [e2,e3,txt_list,txt_list,Oo.less_cmp]
 have a1:uk (rgOf [t]).lo=uk t.small:=take_z t.small
 have a2:uk (rgOf [t]).hi=uk t.big:=take_f t.big
 have a3:uk (rgOf [v]).lo=uk v.small:=take_z v.small
 have a4:uk (rgOf [v]).hi=uk v.big:=take_f v.big
 rw [a1,a4] at g1
 rw [a2,a3]
 have g1:=of_decide_eq_false g1
 rw [ov_one] at ho
 refine decide_eq_true ?_
 have:=Oo.cmpU_neg (uk v.small) (uk t.big)
 omega
set_option maxRecDepth 100000 in
set_option maxHeartbeats 4000000 in
theorem calls {w:World} {A0:Option Addr} {c0:Nat} {ls:List (List S68)} {As:Option Addr} {cs0:Nat} {ss:List S42} {m a b c d e f g:Int} (hC:Kd.C (Kd.slice 68 k68) w A0 ls.length ls) (hc0:ls.length≤c0) (hl0:ls.length≤2000000) (hl1:∀ l∈ls,l.length≤2000000) (hts:∀ l∈ls,∀ t∈l,t.f1.size≤2000000∧t.f3.size≤2000000) (hS:Kd.C k42 w As ss.length ss) (hsc:ss.length≤cs0) (hss:ss.length≤200000) :
  Calls Tryz.prog 7 #[.slice A0 ls.length c0,.agg #[.int .i64 m,.int .i64 a,.int .i64 b,.int .i64 c,.int .i64 d,.int .i64 e,.int .i64 f,.int .i64 g],.slice As ss.length cs0] w fun en w'=>en=.returned (.bool true)∧Below w.heap.size w w':=by
 obtain ⟨Q,hQ⟩ : ∃ Q:Ending→World→Prop,Q=fun en w'=>en=.returned (.bool true)∧Below w.heap.size w w':=⟨_,rfl⟩
 rw [← hQ]
 have HQ:=hid hQ
 have HC:=hid hC
 have HC0:=hid hc0
 have HTS:=hid hts
 have K22:=hid (fun W (hW:Below w.heap.size w W)=>laws_zzFits6.calls (ls.length+2000002) A0 c0 ls true W (Kd.C_below hC hW) hc0 (fits6 hl0 hl1 hts))
 have HS:=hid hS
 have HSS:=hid hss
 have K33:=hid (fun W (hW:Below w.heap.size w W)=>steps_calls (w:=W) (cs0:=cs0) (m:=m) (a:=a) (b:=b) (c:=c) (d:=d) (e:=e) (f:=f) (g:=g) (Kd.C_below hS hW) (by omega) rfl)
 have K23:=hid (fun W (hW:Below w.heap.size w W)=>ok_calls (w:=W) (m:=m) (a:=a) (b:=b) (c:=c) (d:=d) (e:=e) (f:=f) (g:=g) (Kd.C_below hC hW) hc0 (by omega) hts)
 have K24:=hid (fun W=>Lw.work_calls (w:=W))
 have dgt:decide ((ss.length:Int) > 2147483647)=false:=decide_eq_false (by omega)
 have dgn:decide (2147483647<ss.length)=false:=decide_eq_false (by omega)
 clear hQ hC hc0 hts hl0 hl1 hS hss
 go_enter Tryz.func7,Tryz.ntmps7
 go_upto_region 1 with (fail)
 obtain ⟨w1,hw1⟩ : ∃ w1,w1=w.alloc (.cells #[.int .i64 m,.int .i64 a,.int .i64 b,.int .i64 c,.int .i64 d,.int .i64 e,.int .i64 f,.int .i64 g] 24):=⟨_,rfl⟩
 rw [← hw1]
 obtain ⟨b3,hb3⟩ : ∃ b3,b3=w.heap.size:=⟨_,rfl⟩
 rw [← hb3]
 have HB1:=hid (show Below w.heap.size w w1 by rw [hw1];exact below_alloc (Below.refl _ _) _)
 have HO1:=hid (show w1.heap[b3]? = some (.cells #[.int .i64 m,.int .i64 a,.int .i64 b,.int .i64 c,.int .i64 d,.int .i64 e,.int .i64 f,.int .i64 g] 24 (0,0)) by rw [hw1,hb3];exact blk_new w _)
 clear hw1 hb3
 go_wp2_with fail
 refine (K22.out w1 HB1.out).mono ?_
 rintro en w2 ⟨rfl,hb2⟩
 have HB2:=hid (below_step HB1.out hb2)
 have HO2:=hid ((hb2.block _ (blk_lt HO1.out)).trans HO1.out)
 clear hb2 K22
 have o0:=blk_cell HO2.out 0
 have o1:=blk_cell HO2.out 1
 have o2:=blk_cell HO2.out 2
 have o3:=blk_cell HO2.out 3
 have o4:=blk_cell HO2.out 4
 have o5:=blk_cell HO2.out 5
 have o6:=blk_cell HO2.out 6
 have o7:=blk_cell HO2.out 7
 go_wp2_with fail
 refine (K33.out w2 HB2.out).mono ?_
 rintro en w3 ⟨r,rfl,hok,hb3⟩
 have HB3:=hid (below_step HB2.out hb3)
 have HO3:=hid ((hb3.block _ (blk_lt HO2.out)).trans HO2.out)
 have HOK:=hid hok
 clear hok hb3 K33 o0 o1 o2 o3 o4 o5 o6 o7 dgt dgn
 cases r with
 | false =>
  go_wp2_with fail
  refine (K24.out w3).mono ?_
  rintro en wz ⟨rfl,hbz⟩
  have HBZ:=hid (below_step HB3.out hbz)
  clear hbz
  go_wp2_with fail
  rw [HQ.out]
  exact ⟨rfl,HBZ.out⟩
 | true =>
  have HSO:=hid (HOK.out rfl).1
  clear HOK
  have o0:=blk_cell HO3.out 0
  have o1:=blk_cell HO3.out 1
  have o2:=blk_cell HO3.out 2
  have o3:=blk_cell HO3.out 3
  have o4:=blk_cell HO3.out 4
  have o5:=blk_cell HO3.out 5
  have o6:=blk_cell HO3.out 6
  have o7:=blk_cell HO3.out 7
  go_wp2_with fail
  refine (K23.out w3 HB3.out).mono ?_
  rintro en w4 ⟨r,rfl,hok,hb4⟩
  have HB4:=hid (below_step HB3.out hb4)
  have HO4:=hid ((hb4.block _ (blk_lt HO3.out)).trans HO3.out)
  have HOK:=hid hok
  clear hok hb4 K23 o0 o1 o2 o3 o4 o5 o6 o7
  cases r with
  | false =>
   go_wp2_with fail
   refine (K24.out w4).mono ?_
   rintro en wz ⟨rfl,hbz⟩
   have HBZ:=hid (below_step HB4.out hbz)
   clear hbz
   go_wp2_with fail
   rw [HQ.out]
   exact ⟨rfl,HBZ.out⟩
  | true =>
   have HLV:=hid (HOK.out rfl)
   have HI:=hid (ok_len HLV.out)
   clear HOK
   go_upto_region 6 with (first | ((with_reducible refine gate_dst (N:=35) rfl ?_);refine Kd.R_lit k42 (w0:=w4) w4.heap.size 42 ?hg (N:=35) ?hd (xs:=([]:List S42)) (inner:=[]) (ok:=fun _=>True) (okp:=fun _=>True) ?hr ?hp (fun _ hk=>hk) trivial (Below.refl _ _) (Nat.le_refl _) (by simp) ?_;(case hd=>rfl);(case hg=>rfl);(case hr=>first | (go_simp;done) | (go_simp;rfl));(case hp=>exact (Reps.none _ _));intro v9 w5 ho hb hg_ hnew_;have HR5:=hid ho;have HB5:=hid hb;clear hg_ hnew_ ho hb))
   obtain ⟨n8,A8,c8,hv8⟩ : ∃ n A c,v9=.slice A n c:=(by obtain ⟨A,c,e⟩:=Kd.R_slice HR5.out;exact ⟨_,A,c,e⟩)
   subst hv8
   go_wp2_with fail
   go_loopg [7,38] ss.length (fun kq v7 v38 wr=>∃ (j:Nat) (n8:Nat) (A8:Option Addr) (c8:Nat),v7=.slice A8 n8 c8∧v38=.int .i64 (j:Int)∧Aside0 (j+kq=ss.length∧Below w4.heap.size w4 wr∧Kd.R k42 42 wr w4.heap.size (fun _=>True) (.slice A8 n8 c8) ((ss.take j).filter (mB ls.length))))
   case atStart=>exact ⟨0,n8,A8,c8,rfl,rfl,⟨by omega,HB5.out,HR5.out⟩⟩
   case round =>
    clear HR5 HB5
    obtain ⟨j,n8,A8,c8,rfl,rfl,HJ⟩:=hrel
    have HJK:=hid HJ.out.1
    have HBR:=hid HJ.out.2.1
    have HRR:=hid HJ.out.2.2
    clear HJ
    by_cases hj:j<ss.length
    ·have d1:decide ((j:Int)<(ss.length:Int))=true:=decide_eq_true (by omega)
     have sj:IntKind.i64.wrap ((j:Int)+1)=((j+1:Nat):Int):=by rw [IntWalk.i64_in _ (by have:=HSS.out;omega)];omega
     have HGK:=hid (show gk - 1<gk∧j+1+(gk - 1)=ss.length by have:=HJK.out;omega)
     obtain ⟨ad1,hA1,k0,k1,k2,k3,k4⟩:=at_T42 (Kd.C_below HS.out (below_step HB4.out HBR.out)) (j:Int) (by omega) (by omega)
     subst hA1
     have e0:rd_T42 ss (j:Int)=ss.getD j z42:=by unfold rd_T42;rw [Int.toNat_natCast]
     rw [e0] at k0 k1 k2 k3 k4
     rw [Int.toNat_natCast] at k0 k1 k2 k3 k4
     have HTK:=hid (st_take hj)
     have HFL:=hid (show ((ss.take j).filter (mB ls.length)).length≤200000 from Nat.le_trans (List.length_filter_le _ _) (by rw [List.length_take];have:=HSS.out;omega))
     clear e0
     generalize ss.getD j z42=s at *
     obtain ⟨g0,g1,g2,g3,g4⟩:=s
     dsimp only at k0 k1 k2 k3 k4
     go_upto_region 9 with (fail)
     obtain ⟨w6,hw6⟩ : ∃ w6,w6=wr.alloc (.cells #[.int .i64 g0,.int .i64 g1,.int .i64 g2,.int .i64 g3,.int .i64 g4] 42):=⟨_,rfl⟩
     rw [← hw6]
     obtain ⟨k9,hk9⟩ : ∃ b,b=wr.heap.size:=⟨_,rfl⟩
     rw [← hk9]
     have HB6:=hid (show Below w4.heap.size w4 w6 by rw [hw6];exact below_step HBR.out (below_alloc (Below.refl _ _) _))
     have HX6:=hid (show w6.heap[k9]? = some (.cells #[.int .i64 g0,.int .i64 g1,.int .i64 g2,.int .i64 g3,.int .i64 g4] 42 (0,0)) by rw [hw6,hk9];exact blk_new wr _)
     have HR6:=hid (show Kd.R k42 42 w6 w4.heap.size (fun _=>True) (.slice A8 n8 c8) ((ss.take j).filter (mB ls.length)) by rw [hw6];exact Kd.R_below HRR.out (below_alloc (Below.refl _ _) _))
     clear hw6 hk9 k0 k1 k2 k3 k4
     have x0:=blk_cell HX6.out 0
     have x1:=blk_cell HX6.out 1
     have x2:=blk_cell HX6.out 2
     have x3:=blk_cell HX6.out 3
     have x4:=blk_cell HX6.out 4
     have s1:IntKind.i64.wrap ((ls.length:Int) - 1)=(ls.length:Int) - 1:=IntWalk.i64_in _ (by have:=HI.out;omega)
     go_cut [57] from 42 to 57 (fun v57 wc=>v57=.bool (mB ls.length ⟨g0,g1,g2,g3,g4⟩)∧w6=wc)
     case first =>
      by_cases h0:g0=0
      ·subst h0
       by_cases h1:0<g1
       ·have q1:decide (g1 > 0)=true:=decide_eq_true h1
        by_cases h2:g1<(ls.length:Int) - 1
        ·have q2:decide (g1<(ls.length:Int) - 1)=true:=decide_eq_true h2
         go_wp2_with fail
         go_meet
         case rel=>exact ⟨by simp [mB,h1,h2],rfl⟩
        ·have q2:decide (g1<(ls.length:Int) - 1)=false:=decide_eq_false h2
         go_wp2_with fail
         go_meet
         case rel=>exact ⟨by simp only [mB,q2,Bool.and_false],rfl⟩
       ·have q1:decide (g1 > 0)=false:=decide_eq_false h1
        go_wp2_with fail
        go_meet
        case rel=>exact ⟨by simp only [mB,q1,Bool.false_and,Bool.and_false],rfl⟩
      ·have q0:(g0 == 0)=false:=beq_eq_false_iff_ne.2 h0
       clear h0
       go_wp2_with fail
       go_meet
       case rel=>exact ⟨by simp only [mB,q0,Bool.false_and],rfl⟩
     case rest =>
      obtain ⟨rfl,rfl⟩:=hcut
      obtain ⟨z,hz⟩ : ∃ z,z=mB ls.length ⟨g0,g1,g2,g3,g4⟩:=⟨_,rfl⟩
      rw [← hz]
      have HZ:=hid hz
      clear hz
      cases z with
      | true =>
       have HE:=hid (show (ss.take (j+1)).filter (mB ls.length)=(ss.take j).filter (mB ls.length)++[⟨g0,g1,g2,g3,g4⟩] by rw [HTK.out,fil_snoc,← HZ.out,if_pos rfl])
       generalize (ss.take j).filter (mB ls.length)=fl at *
       go_wp2_with (first | ((with_reducible refine gate_builtin (b:=.append) (xs:=#[.tmp 58,.tmp 60]) rfl ?_);at_builtin;refine Kd.R_append k42 (w0:=w4) w4.heap.size rfl (.tmp 58) (.tmp 60) 44 42 (.agg #[(.int .i64 0),(.int .i64 0),(.int .i64 0),(.int .i64 0),(.int .i64 0)]) 40 rfl Tryz.underlying44 info42 rfl (by decide) (by omega) (.slice A8 n8 c8) fl ⟨g0,g1,g2,g3,g4⟩ [.int .i64 g0,.int .i64 g1,.int .i64 g2,.int .i64 g3,.int .i64 g4] (fun _=>True) (fun _=>False) rfl rfl ?aP (fun _ hk=>hk.elim) ?aF ?aO ?aB ?aS ?aL ?_;(case aP=>exact k42_mkM _ _ _ ⟨g0,g1,g2,g3,g4⟩);(case aB=>exact HB6.out);(case aF=>exact (fun _ _=>trivial));(case aO=>exact HR6.out);(case aS=>exact HB6.out.size);(case aL=>(have:=HFL.out;omega));intro v7 w7 ho hb hg hat;obtain ⟨n7,A7,c7,hv⟩ : ∃ n A c,v7=.slice A n c:=(by obtain ⟨A,c,e⟩:=Kd.R_slice ho;exact ⟨_,A,c,e⟩);subst hv;have HR7:=hid ho;have HB7:=hid hb;clear ho hb hg hat))
       go_roundg (gk - 1)
       case measure=>exact HGK.out.1
       case rel=>exact ⟨j+1,n7,A7,c7,rfl,rfl,⟨HGK.out.2,HB7.out,by rw [HE.out];exact HR7.out⟩⟩
      | false =>
       have HE:=hid (show (ss.take (j+1)).filter (mB ls.length)=(ss.take j).filter (mB ls.length) by rw [HTK.out,fil_snoc,← HZ.out,if_neg (by decide),List.append_nil])
       go_wp2_with fail
       go_roundg (gk - 1)
       case measure=>exact HGK.out.1
       case rel=>exact ⟨j+1,n8,A8,c8,rfl,rfl,⟨HGK.out.2,HB6.out,by rw [HE.out];exact HR6.out⟩⟩
    ·have d1:decide ((j:Int)<(ss.length:Int))=false:=decide_eq_false (by omega)
     have HB6:=hid (below_step HB4.out HBR.out)
     have hrr:=HRR.out
     rw [List.take_of_length_le (by omega)] at hrr
     obtain ⟨us,hus⟩ : ∃ us,us=ss.filter (mB ls.length):=⟨_,rfl⟩
     rw [← hus] at hrr
     have HUS:=hid (show us.length≤200000∧(∀ s∈us,s.f0=0∧1≤s.f1∧s.f1.toNat+1<ls.length∧0≤s.f3∧s.f3≤1000)∧∀ s∈us,MidS (ls.map (·.map tbOf)) s from ⟨by rw [hus];exact Nat.le_trans (List.length_filter_le _ _) HSS.out,fun s hs=>by
      rw [hus] at hs
      have h1:=List.mem_filter.1 hs
      have h2:=mB_mid h1.2
      exact ⟨h2.1,h2.2.1,h2.2.2,(HSO.out s h1.1).2.2.2.1⟩,fun s hs=>by
      rw [hus] at hs
      have h2:=mB_mid (List.mem_filter.1 hs).2
      exact ⟨h2.1,by rw [List.length_map];exact h2.2.2⟩⟩)
     have hn8:us.length=n8:=((Kd.R_reads' hrr).1).symm
     subst hn8
     have HR6:=hid hrr
     have HO6:=hid ((HBR.out.block _ (blk_lt HO4.out)).trans HO4.out)
     have K31:=hid (run_calls (w:=wr) (A0:=A0) (As:=A8) (L:=ls.length) (c0:=c0) (n:=us.length) (cs0:=c8) (m:=m) (a:=a) (b:=b) (c:=c) (d:=d) (e:=e) (f:=f) (g:=g) (rs:=runF (Fm (ls.map (·.map tbOf))) Dn ls (st0 (ls.map (·.map tbOf)).length) us) (by rw [runF_len]) (fun W hW=>by
      have K:=mid_runs (w:=W) (As:=A8) (cs0:=c8) (ss:=us) (Kd.C_below (Kd.C_below HC.out HB6.out) hW) (Kd.C_below (Kd.R_reads' HR6.out).2.2 hW) HC0.out HLV.out HTS.out HUS.out.1 HUS.out.2.1
      rw [List.length_map]
      exact K))
     clear hrr hus HBR HRR HJK
     have o0:=blk_cell HO6.out 0
     have o1:=blk_cell HO6.out 1
     have o2:=blk_cell HO6.out 2
     have o3:=blk_cell HO6.out 3
     have o4:=blk_cell HO6.out 4
     have o5:=blk_cell HO6.out 5
     have o6:=blk_cell HO6.out 6
     have o7:=blk_cell HO6.out 7
     go_wp2_with fail
     refine K31.out.mono ?_
     rintro en w9 ⟨A7,k7,rfl,hr,hb9⟩
     have HB9:=hid (show Below w.heap.size w w9 from below_step HB6.out hb9)
     have hrl:(runF (Fm (ls.map (·.map tbOf))) Dn ls (st0 (ls.map (·.map tbOf)).length) us).length=us.length:=runF_len us _
     have hr7:=(Kd.R_reads' hr).2
     have HNC:=hid (show ∀ (j k:Nat) (s u:S42) (c d:S46),j<k→us[k]? = some s→us[j]? = some u→(runF (Fm (ls.map (·.map tbOf))) Dn ls (st0 (ls.map (·.map tbOf)).length) us)[k]? = some c→(runF (Fm (ls.map (·.map tbOf))) Dn ls (st0 (ls.map (·.map tbOf)).length) us)[j]? = some d→c.f0=true→d.f0=true→s.f1=u.f1→Op.bytesLess d.f7.toList c.f5.toList=false→Op.bytesLess c.f7.toList d.f5.toList=true from fun j k s u c d=>no_common HUS.out.2.2)
     have HR9:=hid (Kd.R_below HR6.out hb9)
     generalize runF (Fm (ls.map (·.map tbOf))) Dn ls (st0 (ls.map (·.map tbOf)).length) us=rs at *
     rw [hrl] at hr7
     have HRL:=hid hrl
     have HRC:=hid hr7.2
     have HCP:=hid hr7.1
     clear hr hb9 hrl hr7 K31 o0 o1 o2 o3 o4 o5 o6 o7
     go_wp2_with fail
     go_loopg [74] us.length (fun kq v74 wr=>∃ k:Nat,v74=.int .i64 (k:Int)∧Aside0 (k+kq=us.length∧Below w9.heap.size w9 wr))
     case atStart=>exact ⟨0,rfl,⟨by omega,Below.refl _ _⟩⟩
     case round =>
      obtain ⟨wq,rfl⟩ : ∃ wq,wq=wr:=⟨_,rfl⟩
      obtain ⟨gq,rfl⟩ : ∃ gq,gq=gk:=⟨_,rfl⟩
      obtain ⟨k,rfl,HQK⟩:=hrel
      have HKQ:=hid HQK.out.1
      have HBQ:=hid HQK.out.2
      clear HQK
      by_cases hk:k<us.length
      ·have d2:decide ((k:Int)<(us.length:Int))=true:=decide_eq_true (by omega)
       have sk:IntKind.i64.wrap ((k:Int)+1)=((k+1:Nat):Int):=by rw [IntWalk.i64_in _ (by have:=HUS.out.1;omega)];omega
       have HGK:=hid (show gq - 1<gq∧k+1+(gq - 1)=us.length by have:=HKQ.out;omega)
       obtain ⟨ad7,A3,c3,A4,c4,A10,c10,eA,x0,x1,x2,x3,x4,x5,x6,x7,x8,x9,x10⟩:=at_T46 (Kd.C_below HRC.out HBQ.out) (k:Int) (by omega) (by omega)
       subst eA
       have hck:rs[k]? = some (rs.getD k z46):=by
        have:=HRL.out
        simp [show k<rs.length by omega]
       have er:rd_T46 rs (k:Int)=rs.getD k z46:=by unfold rd_T46;rw [Int.toNat_natCast]
       rw [er] at x0 x1 x2 x3 x4 x5 x6 x7 x8 x9 x10
       rw [Int.toNat_natCast] at x0 x1 x2 x3 x4 x5 x6 x7 x8 x9 x10
       generalize rs.getD k z46=ck at *
       have HCK:=hid hck
       have hkc:(k:Int)≤(k7:Int):=by have:=HCP.out;omega
       have hkc2:k≤k7:=by omega
       clear er hck
       go_upto_region 18 with (fail)
       obtain ⟨w10,hw10⟩ : ∃ w10,w10=wq.alloc (.cells #[.bool ck.f0,.int .i64 ck.f1,.int .i64 ck.f2,.slice A3 ck.f3.length c3,.slice A4 ck.f4.length c4,.string ck.f5,.int .i64 ck.f6,.string ck.f7,.int .i64 ck.f8,.bool ck.f9,.slice A10 ck.f10.length c10] 46):=⟨_,rfl⟩
       rw [← hw10]
       obtain ⟨k13,hk13⟩ : ∃ b,b=wq.heap.size:=⟨_,rfl⟩
       rw [← hk13]
       have HB10:=hid (show Below w9.heap.size w9 w10 by rw [hw10];exact below_step HBQ.out (below_alloc (Below.refl _ _) _))
       have HX10:=hid (show w10.heap[k13]? = some (.cells #[.bool ck.f0,.int .i64 ck.f1,.int .i64 ck.f2,.slice A3 ck.f3.length c3,.slice A4 ck.f4.length c4,.string ck.f5,.int .i64 ck.f6,.string ck.f7,.int .i64 ck.f8,.bool ck.f9,.slice A10 ck.f10.length c10] 46 (0,0)) by rw [hw10,hk13];exact blk_new wq _)
       clear hw10 hk13 x0 x1 x2 x3 x4 x5 x6 x7 x8 x9 x10
       go_wp2_with fail
       go_loopg [83] k (fun kq v83 wr=>∃ j:Nat,v83=.int .i64 (j:Int)∧Aside0 (j+kq=k∧Below w10.heap.size w10 wr))
       case atStart=>exact ⟨0,rfl,⟨by omega,Below.refl _ _⟩⟩
       case round =>
        obtain ⟨wz,rfl⟩ : ∃ wz,wz=wr:=⟨_,rfl⟩
        obtain ⟨j2,rfl,HQJ⟩:=hrel
        have HJ2:=hid HQJ.out.1
        have HBZ:=hid HQJ.out.2
        clear HQJ
        by_cases hj2:j2<k
        ·have d3:decide ((j2:Int)<(k:Int))=true:=decide_eq_true (by omega)
         have sj2:IntKind.i64.wrap ((j2:Int)+1)=((j2+1:Nat):Int):=by rw [IntWalk.i64_in _ (by have:=HUS.out.1;omega)];omega
         have HGJ:=hid (show gk - 1<gk∧j2+1+(gk - 1)=k by have:=HJ2.out;omega)
         have HBW:=hid (below_step HB10.out HBZ.out)
         obtain ⟨ad8,B3,b3',B4,b4',B10,b10',eA,x0,x1,x2,x3,x4,x5,x6,x7,x8,x9,x10⟩:=at_T46 (Kd.C_below HRC.out HBW.out) (j2:Int) (by omega) (by omega)
         injection eA with eA
         subst eA
         have hcj:rs[j2]? = some (rs.getD j2 z46):=by
          have:=HRL.out
          simp [show j2<rs.length by omega]
         have er:rd_T46 rs (j2:Int)=rs.getD j2 z46:=by unfold rd_T46;rw [Int.toNat_natCast]
         rw [er] at x0 x1 x2 x3 x4 x5 x6 x7 x8 x9 x10
         rw [Int.toNat_natCast] at x0 x1 x2 x3 x4 x5 x6 x7 x8 x9 x10
         generalize rs.getD j2 z46=cj at *
         have HCJ:=hid hcj
         clear er hcj
         go_upto_region 21 with (fail)
         obtain ⟨w12,hw12⟩ : ∃ w12,w12=wz.alloc (.cells #[.bool cj.f0,.int .i64 cj.f1,.int .i64 cj.f2,.slice B3 cj.f3.length b3',.slice B4 cj.f4.length b4',.string cj.f5,.int .i64 cj.f6,.string cj.f7,.int .i64 cj.f8,.bool cj.f9,.slice B10 cj.f10.length b10'] 46):=⟨_,rfl⟩
         rw [← hw12]
         obtain ⟨k15,hk15⟩ : ∃ b,b=wz.heap.size:=⟨_,rfl⟩
         rw [← hk15]
         have HB12:=hid (show Below w10.heap.size w10 w12 by rw [hw12];exact below_step HBZ.out (below_alloc (Below.refl _ _) _))
         have HX12:=hid (show w12.heap[k15]? = some (.cells #[.bool cj.f0,.int .i64 cj.f1,.int .i64 cj.f2,.slice B3 cj.f3.length b3',.slice B4 cj.f4.length b4',.string cj.f5,.int .i64 cj.f6,.string cj.f7,.int .i64 cj.f8,.bool cj.f9,.slice B10 cj.f10.length b10'] 46 (0,0)) by rw [hw12,hk15];exact blk_new wz _)
         have HX13:=hid ((HB12.out.block _ (blk_lt HX10.out)).trans HX10.out)
         clear hw12 hk15 x0 x1 x2 x3 x4 x5 x6 x7 x8 x9 x10
         have y0:w12.cell? ⟨k13,0,none⟩=some (.bool ck.f0):=blk_cell HX13.out 0
         have y5:w12.cell? ⟨k13,5,none⟩=some (.string ck.f5):=blk_cell HX13.out 5
         have y7:w12.cell? ⟨k13,7,none⟩=some (.string ck.f7):=blk_cell HX13.out 7
         have z0:w12.cell? ⟨k15,0,none⟩=some (.bool cj.f0):=blk_cell HX12.out 0
         have z5:w12.cell? ⟨k15,5,none⟩=some (.string cj.f5):=blk_cell HX12.out 5
         have z7:w12.cell? ⟨k15,7,none⟩=some (.string cj.f7):=blk_cell HX12.out 7
         have HC9:=(Kd.R_reads' (Kd.R_below HR9.out (below_step HB10.out HB12.out))).2.2
         obtain ⟨ad9,e9,-,p1,-,-,-⟩:=at_T42 HC9 (k:Int) (by omega) (by omega)
         obtain ⟨ad9',e9',-,p2,-,-,-⟩:=at_T42 HC9 (j2:Int) (by omega) (by omega)
         rw [e9] at e9'
         injection e9' with e9'
         subst e9'
         subst e9
         have r1:rd_T42 us (k:Int)=us.getD k z42:=by unfold rd_T42;rw [Int.toNat_natCast]
         have r2:rd_T42 us (j2:Int)=us.getD j2 z42:=by unfold rd_T42;rw [Int.toNat_natCast]
         have h1:us[k]? = some (us.getD k z42):=by simp [hk]
         have h2:us[j2]? = some (us.getD j2 z42):=by simp [show j2<us.length by omega]
         rw [r1,Int.toNat_natCast] at p1
         rw [r2,Int.toNat_natCast] at p2
         generalize us.getD k z42=sk2 at *
         generalize us.getD j2 z42=sj3 at *
         have HNO:=hid (HNC.out j2 k sk2 sj3 ck cj hj2 h1 h2 HCK.out HCJ.out)
         have dk1:(k:Int)<(us.length:Int):=by omega
         have dk2:(j2:Int)<(us.length:Int):=by omega
         have dk3:j2<us.length:=by omega
         clear HC9 r1 r2 h1 h2
         obtain ⟨ck0,ck1,ck2,ck3,ck4,ck5,ck6,ck7,ck8,ck9,ck10⟩:=ck
         obtain ⟨cj0,cj1,cj2,cj3,cj4,cj5,cj6,cj7,cj8,cj9,cj10⟩:=cj
         dsimp only at y0 y5 y7 z0 z5 z7 HNO
         have dk4:k<us.length:=hk
         have dk5:(0:Int)≤(k:Int):=by omega
         have dk6:(0:Int)≤(j2:Int):=by omega
         cases ck0 with
         | false =>
          go_wp2_with fail
          go_quiet (fail)
          go_wp2_with fail
          go_roundg (gk - 1)
          case measure=>exact HGJ.out.1
          case rel=>exact ⟨j2+1,rfl,⟨HGJ.out.2,below_step HB12.out (pw_below_drewN (Below.refl _ _) _)⟩⟩
         | true =>
          cases cj0 with
          | false =>
           go_wp2_with fail
           go_quiet (fail)
           go_wp2_with fail
           go_roundg (gk - 1)
           case measure=>exact HGJ.out.1
           case rel=>exact ⟨j2+1,rfl,⟨HGJ.out.2,below_step HB12.out (pw_below_drewN (Below.refl _ _) _)⟩⟩
          | true =>
           by_cases hl:sk2.f1=sj3.f1
           ·have ql:(sk2.f1 == sj3.f1)=true:=beq_iff_eq.2 hl
            cases g1:Op.bytesLess cj7.toList ck5.toList with
            | true =>
             obtain ⟨qa,qb⟩:=le_f g1
             go_wp2_with fail
             go_quiet (fail)
             go_wp2_with fail
             go_roundg (gk - 1)
             case measure=>exact HGJ.out.1
             case rel=>exact ⟨j2+1,rfl,⟨HGJ.out.2,below_step HB12.out (pw_below_drewN (Below.refl _ _) _)⟩⟩
            | false =>
             have g2:=HNO.out rfl rfl hl g1
             obtain ⟨qa,qb⟩:=le_f g2
             have qc:=le_t g1
             go_wp2_with fail
             go_quiet (fail)
             go_wp2_with fail
             go_roundg (gk - 1)
             case measure=>exact HGJ.out.1
             case rel=>exact ⟨j2+1,rfl,⟨HGJ.out.2,below_step HB12.out (pw_below_drewN (Below.refl _ _) _)⟩⟩
           ·have ql:(sk2.f1 == sj3.f1)=false:=beq_eq_false_iff_ne.2 hl
            go_wp2_with fail
            go_quiet (fail)
            go_wp2_with fail
            go_roundg (gk - 1)
            case measure=>exact HGJ.out.1
            case rel=>exact ⟨j2+1,rfl,⟨HGJ.out.2,below_step HB12.out (pw_below_drewN (Below.refl _ _) _)⟩⟩
        ·have d3:decide ((j2:Int)<(k:Int))=false:=decide_eq_false (by omega)
         have d4:decide (j2<k)=false:=decide_eq_false hj2
         have HBW:=hid (below_step HB10.out HBZ.out)
         go_wp2_with fail
         go_roundg (gq - 1)
         case measure=>exact HGK.out.1
         case rel=>exact ⟨k+1,rfl,⟨HGK.out.2,HBW.out⟩⟩
      ·have d2:decide ((k:Int)<(us.length:Int))=false:=decide_eq_false (by omega)
       have d2n:decide (k<us.length)=false:=decide_eq_false hk
       have HB13:=hid (below_step HB9.out HBQ.out)
       go_wp2_with fail
       refine (K24.out wq).mono ?_
       rintro en wz ⟨rfl,hbz⟩
       have HBZ:=hid (below_step HB13.out hbz)
       clear hbz
       go_wp2_with fail
       rw [HQ.out]
       exact ⟨rfl,HBZ.out⟩
end Go.Proofs.YtnineoajmgneiaaGreat.fnFillApart
