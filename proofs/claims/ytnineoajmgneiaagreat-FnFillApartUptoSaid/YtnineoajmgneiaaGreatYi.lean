/- StepsOk, and what the laws make of a step. What the laws of Fill share: run, fill, oneOk. Levels in the middle: which tables a chain of choices takes, plainly. fillTables at a level in the middle: the first table, by its newest version, whose ranges are free. Levels that are told of: a level in the middle is chosen from as the plain choice says. Small facts for the laws: sizes of arguments, equal lists. An argument that is a list of steps, read; what it weighs. Facts of the program that every row of the levels asks, once. -/
import Derived.Test.YtnineoajmgneiaaGreatYd
import Derived.Test.YtnineoajmgneiaaGreatYg
import Derived.Test.YtnineoajmgneiaaGreatYf
import Derived.Test.YtnineoajmgneiaaGreatRows
import Derived.ProofKit
import Derived.JoinedCond
set_option linter.unusedSimpArgs false
set_option linter.unusedVariables false
namespace Go.Proofs.YtnineoajmgneiaaGreat.L
open Go.RowKit Go.Proofs.YtnineoajmgneiaaGreatW.PrintWords Go.Proofs.YtnineoajmgneiaaGreatW.PrintLast Go.Proofs.YtnineoajmgneiaaGreatW.PrintMore
theorem k42_mk (w:World) (x:S42)  : k42.K w x [.int .i64 x.f0,.int .i64 x.f1,.int .i64 x.f2,.int .i64 x.f3,.int .i64 x.f4]:=⟨[.int .i64 x.f0],[.int .i64 x.f1,.int .i64 x.f2,.int .i64 x.f3,.int .i64 x.f4],rfl,rfl,⟨[.int .i64 x.f1],[.int .i64 x.f2,.int .i64 x.f3,.int .i64 x.f4],rfl,rfl,⟨[.int .i64 x.f2],[.int .i64 x.f3,.int .i64 x.f4],rfl,rfl,⟨[.int .i64 x.f3],[.int .i64 x.f4],rfl,rfl,rfl⟩⟩⟩⟩
end Go.Proofs.YtnineoajmgneiaaGreat.L
namespace Go.Proofs.YtnineoajmgneiaaGreat.Rg
open Lib (hid)
open Go.RowKit YtnineoajmgneiaaGreatW YtnineoajmgneiaaGreatW.PrintWords YtnineoajmgneiaaGreatW.PrintLast YtnineoajmgneiaaGreatW.PrintMore Fr L Ky Tm Lm It Lk
/-- A step that is told of. -/
def SOk (q:Int) (s:S42):Prop:=(s.f0=0∨s.f0=1)∧(0≤s.f1∧s.f1≤q)∧(0≤s.f2∧s.f2≤100)∧(0≤s.f3∧s.f3≤1000)∧0≤s.f4∧s.f4≤1099511627776
/-- Level 0 is filled by the compactor 0. -/
def isZ (s:S42):Bool:=s.f0 == 0 && (s.f1 == 0 && s.f2 == 0)
def zc (ss:List S42):Nat:=(ss.filter isZ).length
theorem zc_snoc (ss:List S42) (s:S42):zc (ss++[s])=zc ss+if isZ s then 1 else 0:=by
 unfold zc
 rw [List.filter_append,List.length_append]
 cases h:isZ s<;>simp [h]
theorem zc_le (ss:List S42):zc ss≤ss.length:=List.length_filter_le _ _
theorem st_take {l:List S42} {j:Nat} (h:j<l.length):l.take (j+1)=l.take j++[l.getD j z42]:=by
 rw [List.take_succ_eq_append_getElem h]
 simp [h]
def SOkP (w:World) (q:Int) (ss:List S42) (e:Ending) (w':World):Prop:=∃ r,e=.returned (.bool r)∧(r=true→(∀ s∈ss,SOk q s)∧zc ss≤1)∧Below w.heap.size w w'
theorem within_calls {w:World} (a b c:Int):Calls Tryz.prog 46 #[.int .i64 a,.int .i64 b,.int .i64 c] w fun e w'=>e=.returned (.bool (decide (b≤a∧a≤c)))∧Below w.heap.size w w':=
 (spec_Within.calls a b c _ w (within a b c)).mono fun e w' h=>⟨h.1,h.2.below⟩
set_option maxRecDepth 100000 in
set_option maxHeartbeats 4000000 in
theorem steps_calls {w:World} {As:Option Addr} {cs0:Nat} {ss:List S42} {m a b c d e f g q:Int} (hS:Kd.C k42 w As ss.length ss) (hss:ss.length≤2000000000) (hq:IntKind.i64.wrap (m - 1)=q) :
  Calls Tryz.prog 33 #[.slice As ss.length cs0,.agg #[.int .i64 m,.int .i64 a,.int .i64 b,.int .i64 c,.int .i64 d,.int .i64 e,.int .i64 f,.int .i64 g]] w (SOkP w q ss):=by
 obtain ⟨Q,hQ⟩ : ∃ Q,Q=SOkP w q ss:=⟨_,rfl⟩
 rw [← hQ]
 have HQ:=hid hQ
 have HS:=hid hS
 have HL:=hid (And.intro hss hq)
 clear hQ hS hss hq
 go_enter Tryz.func33,Tryz.ntmps33
 go_upto_region 1 with (fail)
 obtain ⟨w1,hw1⟩ : ∃ w1,w1=w.alloc (.cells #[.int .i64 m,.int .i64 a,.int .i64 b,.int .i64 c,.int .i64 d,.int .i64 e,.int .i64 f,.int .i64 g] 24):=⟨_,rfl⟩
 rw [← hw1]
 obtain ⟨b3,hb3⟩ : ∃ b3,b3=w.heap.size:=⟨_,rfl⟩
 rw [← hb3]
 have HB1:=hid (show Below w.heap.size w w1 by rw [hw1];exact below_alloc (Below.refl _ _) _)
 have HO1:=hid (show w1.heap[b3]? = some (.cells #[.int .i64 m,.int .i64 a,.int .i64 b,.int .i64 c,.int .i64 d,.int .i64 e,.int .i64 f,.int .i64 g] 24 (0,0)) by rw [hw1,hb3];exact blk_new w _)
 clear hw1 hb3
 go_wp2_with fail
 go_loopg [5,10] ss.length (fun kq v5 v10 wr=>∃ j:Nat,v5=.int .i64 (zc (ss.take j):Int)∧v10=.int .i64 (j:Int)∧Aside0 (j+kq=ss.length∧Below w1.heap.size w1 wr∧∀ s∈ss.take j,SOk q s))
 case atStart=>exact ⟨0,rfl,rfl,⟨by omega,Below.refl _ _,fun s hs=>by simp at hs⟩⟩
 case round =>
  obtain ⟨j,rfl,rfl,HJ⟩:=hrel
  have HJK:=hid HJ.out.1
  have HBR:=hid HJ.out.2.1
  have HSO:=hid HJ.out.2.2
  clear HJ
  by_cases hj:j<ss.length
  ·have d1:decide ((j:Int)<(ss.length:Int))=true:=decide_eq_true (by omega)
   have sj:IntKind.i64.wrap ((j:Int)+1)=((j+1:Nat):Int):=by rw [IntWalk.i64_in _ (by have:=HL.out.1;omega)];omega
   have HGK:=hid (show gk - 1<gk∧j+1+(gk - 1)=ss.length by have:=HJK.out;omega)
   obtain ⟨ad1,hA1,k0,k1,k2,k3,k4⟩:=at_T42 (Kd.C_below (Kd.C_below HS.out HB1.out) HBR.out) (j:Int) (by omega) (by omega)
   subst hA1
   have e0:rd_T42 ss (j:Int)=ss.getD j z42:=by unfold rd_T42;rw [Int.toNat_natCast]
   rw [e0] at k0 k1 k2 k3 k4
   rw [Int.toNat_natCast] at k0 k1 k2 k3 k4
   have HTK:=hid (st_take hj)
   have HZL:=hid (show zc (ss.take j)≤2000000000 from Nat.le_trans (zc_le _) (by rw [List.length_take];have:=HL.out.1;omega))
   clear e0
   generalize ss.getD j z42=s at *
   obtain ⟨g0,g1,g2,g3,g4⟩:=s
   dsimp only at k0 k1 k2 k3 k4
   obtain ⟨zn,hzn⟩ : ∃ n,n=zc (ss.take j):=⟨_,rfl⟩
   rw [← hzn] at HZL
   rw [← hzn]
   have HZN:=hid hzn
   clear hzn
   go_upto_region 5 with (fail)
   obtain ⟨w2,hw2⟩ : ∃ w2,w2=wr.alloc (.cells #[.int .i64 g0,.int .i64 g1,.int .i64 g2,.int .i64 g3,.int .i64 g4] 42):=⟨_,rfl⟩
   rw [← hw2]
   obtain ⟨k7,hk7⟩ : ∃ b,b=wr.heap.size:=⟨_,rfl⟩
   rw [← hk7]
   have HB2:=hid (show Below w1.heap.size w1 w2 by rw [hw2];exact below_step HBR.out (below_alloc (Below.refl _ _) _))
   have HX2:=hid (show w2.heap[k7]? = some (.cells #[.int .i64 g0,.int .i64 g1,.int .i64 g2,.int .i64 g3,.int .i64 g4] 42 (0,0)) by rw [hw2,hk7];exact blk_new wr _)
   clear hw2 hk7 k0 k1 k2 k3 k4
   have x0:=blk_cell HX2.out 0
   have x1:=blk_cell HX2.out 1
   have x2:=blk_cell HX2.out 2
   have x3:=blk_cell HX2.out 3
   have x4:=blk_cell HX2.out 4
   have o0:w2.cell? ⟨b3,0,none⟩=some (.int .i64 m):=blk_cell ((HB2.out.block _ (blk_lt HO1.out)).trans HO1.out) 0
   have sm:IntKind.i64.wrap (m - 1)=q:=HL.out.2
   go_upto_region 5 with (fail)
   go_cut [26] from 14 to 26 (fun v26 wc=>v26=.bool (isZ ⟨g0,g1,g2,g3,g4⟩)∧w2=wc)
   case first =>
    by_cases h0:g0=0
    ·subst h0
     by_cases h1:g1=0
     ·subst h1
      by_cases h2:g2=0
      ·subst h2
       go_wp2_with fail
       go_meet
       case rel=>exact ⟨rfl,rfl⟩
      ·have q2:(g2 == 0)=false:=beq_eq_false_iff_ne.2 h2
       clear h2
       go_wp2_with fail
       go_meet
       case rel=>exact ⟨by simp [isZ,q2],rfl⟩
     ·have q1:(g1 == 0)=false:=beq_eq_false_iff_ne.2 h1
      clear h1
      go_wp2_with fail
      go_meet
      case rel=>exact ⟨by simp [isZ,q1],rfl⟩
    ·have q0:(g0 == 0)=false:=beq_eq_false_iff_ne.2 h0
     clear h0
     go_wp2_with fail
     go_meet
     case rel=>exact ⟨by simp [isZ,q0],rfl⟩
   case rest =>
    obtain ⟨rfl,rfl⟩:=hcut
    obtain ⟨z,hz⟩ : ∃ z,z=isZ ⟨g0,g1,g2,g3,g4⟩:=⟨_,rfl⟩
    rw [← hz]
    have HZ:=hid hz
    clear hz
    go_upto_if 26 with (fail)
    go_cut [5] from 27 to 28 (fun v5 wc=>v5=.int .i64 ((zn+if z then 1 else 0:Nat):Int)∧w2=wc)
    case first =>
     cases z with
     | true =>
      have s5:IntKind.i64.wrap ((zn:Int)+1)=((zn+1:Nat):Int):=by rw [IntWalk.i64_in _ (by have:=HZL.out;omega)];omega
      go_wp2_with fail
      go_meet
      case rel=>exact ⟨rfl,rfl⟩
     | false =>
      go_wp2_with fail
      go_meet
      case rel=>exact ⟨rfl,rfl⟩
    case rest =>
     obtain ⟨rfl,rfl⟩:=hcut
     obtain ⟨zm,hzm⟩ : ∃ n,n=(zn+if z then 1 else 0:Nat):=⟨_,rfl⟩
     rw [← hzm]
     have HZM:=hid (show zc (ss.take (j+1))=zm by rw [HTK.out,zc_snoc,← HZN.out,← HZ.out,hzm])
     clear hzm
     have HBC0:=hid (Below.refl w2.heap.size w2)
     go_upto_region 7 with (fail)
     go_cut [63] from 29 to 63 (fun v63 wc=>∃ y,v63=.bool y∧Aside0 ((y=false→SOk q ⟨g0,g1,g2,g3,g4⟩)∧Below w2.heap.size w2 wc))
     case first =>
      by_cases h0:g0=0
      ·subst h0
       obtain ⟨r1,hr1⟩ : ∃ r,r=decide (0≤g1∧g1≤q):=⟨_,rfl⟩
       have KW1:=fun W=>within_calls (w:=W) g1 0 q
       rw [← hr1] at KW1
       have HKW1:=hid KW1
       have HR1:=hid hr1
       clear KW1 hr1
       go_wp2_with fail
       refine (HKW1.out _).mono ?_
       rintro e1 wc1 ⟨rfl,hbc⟩
       have HBC1:=hid (show Below w2.heap.size w2 wc1 from below_step HBC0.out hbc)
       have y1:=fun (i:Nat) (v:Value) (h:w2.cell? ⟨k7,i,none⟩=some v)=>((below_step HBC0.out hbc).cell (World.block_lt_of_cell? w2 _ h)).trans h
       have z1:=y1 1 _ x1
       have z2:=y1 2 _ x2
       have z3:=y1 3 _ x3
       have z4:=y1 4 _ x4
       clear hbc y1 HKW1
       cases r1 with
       | false =>
        go_wp2_with fail
        go_meet
        case rel=>exact ⟨true,rfl,⟨fun h=>Bool.noConfusion h,HBC1.out⟩⟩
       | true =>
        obtain ⟨r2,hr2⟩ : ∃ r,r=decide (0≤g2∧g2≤100):=⟨_,rfl⟩
        have KW2:=fun W=>within_calls (w:=W) g2 0 100
        rw [← hr2] at KW2
        have HKW2:=hid KW2
        have HR2:=hid hr2
        clear KW2 hr2
        go_wp2_with fail
        refine (HKW2.out _).mono ?_
        rintro e2 wc2 ⟨rfl,hbc⟩
        have HBC2:=hid (show Below w2.heap.size w2 wc2 from below_step HBC1.out hbc)
        have y2:=fun (i:Nat) (v:Value) (h:w2.cell? ⟨k7,i,none⟩=some v)=>((below_step HBC1.out hbc).cell (World.block_lt_of_cell? w2 _ h)).trans h
        have z1:=y2 1 _ x1
        have z2:=y2 2 _ x2
        have z3:=y2 3 _ x3
        have z4:=y2 4 _ x4
        clear hbc y2 HKW2
        cases r2 with
        | false =>
         go_wp2_with fail
         go_meet
         case rel=>exact ⟨true,rfl,⟨fun h=>Bool.noConfusion h,HBC2.out⟩⟩
        | true =>
         obtain ⟨r3,hr3⟩ : ∃ r,r=decide (0≤g3∧g3≤1000):=⟨_,rfl⟩
         have KW3:=fun W=>within_calls (w:=W) g3 0 1000
         rw [← hr3] at KW3
         have HKW3:=hid KW3
         have HR3:=hid hr3
         clear KW3 hr3
         go_wp2_with fail
         refine (HKW3.out _).mono ?_
         rintro e3 wc3 ⟨rfl,hbc⟩
         have HBC3:=hid (show Below w2.heap.size w2 wc3 from below_step HBC2.out hbc)
         have y3:=fun (i:Nat) (v:Value) (h:w2.cell? ⟨k7,i,none⟩=some v)=>((below_step HBC2.out hbc).cell (World.block_lt_of_cell? w2 _ h)).trans h
         have z1:=y3 1 _ x1
         have z2:=y3 2 _ x2
         have z3:=y3 3 _ x3
         have z4:=y3 4 _ x4
         clear hbc y3 HKW3
         cases r3 with
         | false =>
          go_wp2_with fail
          go_meet
          case rel=>exact ⟨true,rfl,⟨fun h=>Bool.noConfusion h,HBC3.out⟩⟩
         | true =>
          obtain ⟨r4,hr4⟩ : ∃ r,r=decide (0≤g4∧g4≤1099511627776):=⟨_,rfl⟩
          have KW4:=fun W=>within_calls (w:=W) g4 0 1099511627776
          rw [← hr4] at KW4
          have HKW4:=hid KW4
          have HR4:=hid hr4
          clear KW4 hr4
          go_wp2_with fail
          refine (HKW4.out _).mono ?_
          rintro e4 wc4 ⟨rfl,hbc⟩
          have HBC4:=hid (show Below w2.heap.size w2 wc4 from below_step HBC3.out hbc)
          have y4:=fun (i:Nat) (v:Value) (h:w2.cell? ⟨k7,i,none⟩=some v)=>((below_step HBC3.out hbc).cell (World.block_lt_of_cell? w2 _ h)).trans h
          have z1:=y4 1 _ x1
          have z2:=y4 2 _ x2
          have z3:=y4 3 _ x3
          have z4:=y4 4 _ x4
          clear hbc y4 HKW4
          cases r4 with
          | false =>
           go_wp2_with fail
           go_meet
           case rel=>exact ⟨true,rfl,⟨fun h=>Bool.noConfusion h,HBC4.out⟩⟩
          | true =>
           go_wp2_with fail
           go_meet
           case rel=>exact ⟨false,rfl,⟨fun _=>⟨by first | exact .inl rfl | exact .inr rfl,of_decide_eq_true HR1.out.symm,of_decide_eq_true HR2.out.symm,of_decide_eq_true HR3.out.symm,of_decide_eq_true HR4.out.symm⟩,HBC4.out⟩⟩
      ·by_cases h1:g0=1
       ·subst h1
        clear h0
        obtain ⟨r1,hr1⟩ : ∃ r,r=decide (0≤g1∧g1≤q):=⟨_,rfl⟩
        have KW1:=fun W=>within_calls (w:=W) g1 0 q
        rw [← hr1] at KW1
        have HKW1:=hid KW1
        have HR1:=hid hr1
        clear KW1 hr1
        go_wp2_with fail
        refine (HKW1.out _).mono ?_
        rintro e1 wc1 ⟨rfl,hbc⟩
        have HBC1:=hid (show Below w2.heap.size w2 wc1 from below_step HBC0.out hbc)
        have y1:=fun (i:Nat) (v:Value) (h:w2.cell? ⟨k7,i,none⟩=some v)=>((below_step HBC0.out hbc).cell (World.block_lt_of_cell? w2 _ h)).trans h
        have z1:=y1 1 _ x1
        have z2:=y1 2 _ x2
        have z3:=y1 3 _ x3
        have z4:=y1 4 _ x4
        clear hbc y1 HKW1
        cases r1 with
        | false =>
         go_wp2_with fail
         go_meet
         case rel=>exact ⟨true,rfl,⟨fun h=>Bool.noConfusion h,HBC1.out⟩⟩
        | true =>
         obtain ⟨r2,hr2⟩ : ∃ r,r=decide (0≤g2∧g2≤100):=⟨_,rfl⟩
         have KW2:=fun W=>within_calls (w:=W) g2 0 100
         rw [← hr2] at KW2
         have HKW2:=hid KW2
         have HR2:=hid hr2
         clear KW2 hr2
         go_wp2_with fail
         refine (HKW2.out _).mono ?_
         rintro e2 wc2 ⟨rfl,hbc⟩
         have HBC2:=hid (show Below w2.heap.size w2 wc2 from below_step HBC1.out hbc)
         have y2:=fun (i:Nat) (v:Value) (h:w2.cell? ⟨k7,i,none⟩=some v)=>((below_step HBC1.out hbc).cell (World.block_lt_of_cell? w2 _ h)).trans h
         have z1:=y2 1 _ x1
         have z2:=y2 2 _ x2
         have z3:=y2 3 _ x3
         have z4:=y2 4 _ x4
         clear hbc y2 HKW2
         cases r2 with
         | false =>
          go_wp2_with fail
          go_meet
          case rel=>exact ⟨true,rfl,⟨fun h=>Bool.noConfusion h,HBC2.out⟩⟩
         | true =>
          obtain ⟨r3,hr3⟩ : ∃ r,r=decide (0≤g3∧g3≤1000):=⟨_,rfl⟩
          have KW3:=fun W=>within_calls (w:=W) g3 0 1000
          rw [← hr3] at KW3
          have HKW3:=hid KW3
          have HR3:=hid hr3
          clear KW3 hr3
          go_wp2_with fail
          refine (HKW3.out _).mono ?_
          rintro e3 wc3 ⟨rfl,hbc⟩
          have HBC3:=hid (show Below w2.heap.size w2 wc3 from below_step HBC2.out hbc)
          have y3:=fun (i:Nat) (v:Value) (h:w2.cell? ⟨k7,i,none⟩=some v)=>((below_step HBC2.out hbc).cell (World.block_lt_of_cell? w2 _ h)).trans h
          have z1:=y3 1 _ x1
          have z2:=y3 2 _ x2
          have z3:=y3 3 _ x3
          have z4:=y3 4 _ x4
          clear hbc y3 HKW3
          cases r3 with
          | false =>
           go_wp2_with fail
           go_meet
           case rel=>exact ⟨true,rfl,⟨fun h=>Bool.noConfusion h,HBC3.out⟩⟩
          | true =>
           obtain ⟨r4,hr4⟩ : ∃ r,r=decide (0≤g4∧g4≤1099511627776):=⟨_,rfl⟩
           have KW4:=fun W=>within_calls (w:=W) g4 0 1099511627776
           rw [← hr4] at KW4
           have HKW4:=hid KW4
           have HR4:=hid hr4
           clear KW4 hr4
           go_wp2_with fail
           refine (HKW4.out _).mono ?_
           rintro e4 wc4 ⟨rfl,hbc⟩
           have HBC4:=hid (show Below w2.heap.size w2 wc4 from below_step HBC3.out hbc)
           have y4:=fun (i:Nat) (v:Value) (h:w2.cell? ⟨k7,i,none⟩=some v)=>((below_step HBC3.out hbc).cell (World.block_lt_of_cell? w2 _ h)).trans h
           have z1:=y4 1 _ x1
           have z2:=y4 2 _ x2
           have z3:=y4 3 _ x3
           have z4:=y4 4 _ x4
           clear hbc y4 HKW4
           cases r4 with
           | false =>
            go_wp2_with fail
            go_meet
            case rel=>exact ⟨true,rfl,⟨fun h=>Bool.noConfusion h,HBC4.out⟩⟩
           | true =>
            go_wp2_with fail
            go_meet
            case rel=>exact ⟨false,rfl,⟨fun _=>⟨by first | exact .inl rfl | exact .inr rfl,of_decide_eq_true HR1.out.symm,of_decide_eq_true HR2.out.symm,of_decide_eq_true HR3.out.symm,of_decide_eq_true HR4.out.symm⟩,HBC4.out⟩⟩
       ·have q0:(g0 != 0)=true:=by simpa using h0
        have q1:(g0 != 1)=true:=by simpa using h1
        clear h0 h1
        go_wp2_with fail
        go_meet
        case rel=>exact ⟨true,rfl,⟨fun h=>Bool.noConfusion h,HBC0.out⟩⟩
     case rest =>
      obtain ⟨y,rfl,hcut⟩:=hcut
      have HY:=hid hcut.out.1
      have HBY:=hid (below_step HB2.out hcut.out.2)
      clear hcut x0 x1 x2 x3 x4 o0
      cases y with
      | true =>
       go_wp2_with fail
       rw [HQ.out]
       exact ⟨false,rfl,fun h=>Bool.noConfusion h,below_step HB1.out HBY.out⟩
      | false =>
       have HSN:=hid (show ∀ s∈ss.take (j+1),SOk q s from fun s hs=>by
        rw [HTK.out] at hs
        rcases List.mem_append.1 hs with hs | hs
        ·exact HSO.out s hs
        ·rw [List.mem_singleton.1 hs]
         exact HY.out rfl)
       go_wp2_with fail
       go_roundg (gk - 1)
       case measure=>exact HGK.out.1
       case rel=>exact ⟨j+1,by rw [HZM.out],rfl,⟨HGK.out.2,HBY.out,HSN.out⟩⟩
  ·have d1:decide ((j:Int)<(ss.length:Int))=false:=decide_eq_false (by omega)
   have HE:=hid (show SOkP w q ss (.returned (.bool (decide ((zc (ss.take j):Int)≤1)))) wr by
    have h1:=HSO.out
    rw [List.take_of_length_le (by omega)] at h1 ⊢
    exact ⟨_,rfl,fun h=>⟨h1,by have:=of_decide_eq_true h;omega⟩,below_step HB1.out HBR.out⟩)
   go_wp2_with fail
   rw [HQ.out]
   exact HE.out
end Go.Proofs.YtnineoajmgneiaaGreat.Rg
namespace Go.Proofs.YtnineoajmgneiaaGreat.Rg
open Lib (hid)
open Go.RowKit YtnineoajmgneiaaGreatW YtnineoajmgneiaaGreatW.PrintWords YtnineoajmgneiaaGreatW.PrintLast YtnineoajmgneiaaGreatW.PrintMore Fr L Ky Tm Lm It Lk
def RunP (w:World) (rs:List S46) (e:Ending) (w':World):Prop:=∃ v,e=.returned v∧Kd.R k46 46 w' w.heap.size (fun _=>True) v rs∧Below w.heap.size w w'
set_option maxRecDepth 100000 in
set_option maxHeartbeats 2000000 in
theorem run_calls {w:World} {A0 As:Option Addr} {L c0 n cs0:Nat} {m a b c d e f g:Int} {rs:List S46} (hlen:rs.length=n) (K:∀ W,Below w.heap.size w W→Calls Tryz.prog 55 #[.slice A0 L c0,.agg #[.int .i64 m,.int .i64 a,.int .i64 b,.int .i64 c,.int .i64 d,.int .i64 e,.int .i64 f,.int .i64 g],.slice As n cs0] W (RunP W rs)) :
  Calls Tryz.prog 31 #[.slice A0 L c0,.agg #[.int .i64 m,.int .i64 a,.int .i64 b,.int .i64 c,.int .i64 d,.int .i64 e,.int .i64 f,.int .i64 g],.slice As n cs0] w fun e w'=>∃ A k,e=.returned (.tuple #[.slice A n k,.bool true])∧Kd.R k46 46 w' w.heap.size (fun _=>True) (.slice A n k) rs∧Below w.heap.size w w':=by
 obtain ⟨Q,hQ⟩ : ∃ Q:Ending→World→Prop,Q=fun e w'=>∃ A k,e=.returned (.tuple #[.slice A n k,.bool true])∧Kd.R k46 46 w' w.heap.size (fun _=>True) (.slice A n k) rs∧Below w.heap.size w w':=⟨_,rfl⟩
 rw [← hQ]
 have HQ:=hid hQ
 have HK:=hid K
 have HL:=hid hlen
 clear hQ K hlen
 go_enter Tryz.func31,Tryz.ntmps31
 go_upto_region 1 with (fail)
 obtain ⟨w1,hw1⟩ : ∃ w1,w1=w.alloc (.cells #[.int .i64 m,.int .i64 a,.int .i64 b,.int .i64 c,.int .i64 d,.int .i64 e,.int .i64 f,.int .i64 g] 24):=⟨_,rfl⟩
 rw [← hw1]
 obtain ⟨b3,hb3⟩ : ∃ b3,b3=w.heap.size:=⟨_,rfl⟩
 rw [← hb3]
 have HB1:=hid (show Below w.heap.size w w1 by rw [hw1];exact below_alloc (Below.refl _ _) _)
 have hO1:w1.heap[b3]? = some (.cells #[.int .i64 m,.int .i64 a,.int .i64 b,.int .i64 c,.int .i64 d,.int .i64 e,.int .i64 f,.int .i64 g] 24 (0,0)):=by rw [hw1,hb3];exact blk_new w _
 clear hw1 hb3
 have o0:=blk_cell hO1 0
 have o1:=blk_cell hO1 1
 have o2:=blk_cell hO1 2
 have o3:=blk_cell hO1 3
 have o4:=blk_cell hO1 4
 have o5:=blk_cell hO1 5
 have o6:=blk_cell hO1 6
 have o7:=blk_cell hO1 7
 go_wp2_with fail
 refine (HK.out w1 HB1.out).mono ?_
 rintro e2 w2 ⟨v,rfl,hr,hb2⟩
 obtain ⟨A,k,hv⟩:=Kd.R_slice hr
 rw [HL.out] at hv
 subst hv
 have HE:=hid (show ∃ A2 k2,Ending.returned (.tuple #[.slice A n k,.bool true])=.returned (.tuple #[.slice A2 n k2,.bool true])∧Kd.R k46 46 w2 w.heap.size (fun _=>True) (.slice A2 n k2) rs∧Below w.heap.size w w2 from ⟨A,k,rfl,Kd.R_lower hr HB1.out.size,below_step HB1.out hb2⟩)
 have dn:((n:Int) == (n:Int))=true:=by simp
 clear hr hb2 o0 o1 o2 o3 o4 o5 o6 o7 hO1
 go_wp2_with fail
 rw [HQ.out]
 exact HE.out
/-- The step that the laws choose with. -/
def fS (i comp:Int):S42:=⟨0,i,comp,20,0⟩
def OneP (w:World) (ls:List (List S68)) (m a b c d e f g i comp:Int) (en:Ending) (w':World):Prop:=∃ r,en=.returned (.bool r)∧(r=true→LvOk ls m a b c d e f g∧SOk (m - 1) (fS i comp))∧Below w.heap.size w w'
end Go.Proofs.YtnineoajmgneiaaGreat.Rg
namespace Go.Proofs.YtnineoajmgneiaaGreat.Rg
open Go.RowKit YtnineoajmgneiaaGreatW YtnineoajmgneiaaGreatW.PrintWords YtnineoajmgneiaaGreatW.PrintLast YtnineoajmgneiaaGreatW.PrintMore Fr L Ky Tm Lm It
theorem take_z (x:List UInt8):(uk x++z8).take ((uk x++z8).length - 8)=uk x:=by
 rw [List.length_append,z8_len,Nat.add_sub_cancel,List.take_left]
theorem take_f (x:List UInt8):(uk x++f8).take ((uk x++f8).length - 8)=uk x:=by
 rw [List.length_append,f8_len,Nat.add_sub_cancel,List.take_left]
theorem drop_z (x:List UInt8):(uk x++z8).drop ((uk x++z8).length - 8)=z8:=by
 rw [List.length_append,z8_len,Nat.add_sub_cancel,List.drop_left]
theorem drop_f (x:List UInt8):(uk x++f8).drop ((uk x++f8).length - 8)=f8:=by
 rw [List.length_append,f8_len,Nat.add_sub_cancel,List.drop_left]
theorem zf_neg:cmpU z8 f8<0:=by decide +kernel
/-- The least key of one, the greatest of the other. -/
theorem lo_hi (x y:List UInt8):0<cmpK (uk x++z8) (uk y++f8)↔0<cmpU (uk x) (uk y):=by
 unfold cmpK
 rw [take_z,take_f,drop_z,drop_f]
 have:=zf_neg
 by_cases h:cmpU (uk x) (uk y)=0
 ·rw [if_neg (by omega)]
  omega
 ·rw [if_pos h]
theorem hi_lo (x y:List UInt8):cmpK (uk x++f8) (uk y++z8)<0↔cmpU (uk x) (uk y)<0:=by
 rw [Oo.cmpK_neg (uk y++z8) (uk x++f8),Oo.cmpU_neg (uk y) (uk x)]
 have:=lo_hi y x
 omega
theorem one_full (t:Tb):emptyR (rgOf [t])=false:=by
 have h:8≤(rgOf [t]).lo.length:=by simp only [rgOf,List.length_append,z8_len];omega
 unfold emptyR isE
 have e:((rgOf [t]).lo.length == 0)=false:=beq_eq_false_iff_ne.2 (by omega)
 simp [show ¬ (rgOf [t]).lo.length=0 by omega]
theorem ov_one (t u:Tb):ovR (rgOf [t]) (rgOf [u])=false↔0<cmpU (uk t.small) (uk u.big)∨cmpU (uk t.big) (uk u.small)<0:=by
 unfold ovR
 rw [one_full,one_full]
 have h1:=lo_hi t.small u.big
 have h2:=hi_lo t.big u.small
 have e1:(rgOf [t]).lo=uk t.small++z8:=rfl
 have e2:(rgOf [t]).hi=uk t.big++f8:=rfl
 have e3:(rgOf [u]).lo=uk u.small++z8:=rfl
 have e4:(rgOf [u]).hi=uk u.big++f8:=rfl
 have i1:(rgOf [t]).inf=false:=rfl
 have i2:(rgOf [u]).inf=false:=rfl
 rw [e1,e2,e3,e4,i1,i2,← h1,← h2]
 unfold ovG
 by_cases a:0<cmpK (uk t.small++z8) (uk u.big++f8)
 ·simp [a]
 ·by_cases b:cmpK (uk t.big++f8) (uk u.small++z8)<0
  ·simp [a,b]
  ·simp [a,b]
theorem hit_of {rgs:List (List Rg)} {i:Nat} {r d:Rg} (h:r∈rgAt rgs i) (ho:ovR r d=true):hitR rgs i d=true:=List.any_eq_true.2 ⟨r,h,ho⟩
theorem hit_no {rgs:List (List Rg)} {i:Nat} {d:Rg} (h:hitR rgs i d=false):∀ r∈rgAt rgs i,ovR r d=false:=fun r hr=>by
 cases e:ovR r d with
 | false=>rfl
 | true=>rw [hit_of hr e] at h;cases h
/-- The choice at a level in the middle. -/
def Fm (xs:List (List Tb)) (st:PS) (s:S42):Option Ch:=chMd xs st.rgs s.f1.toNat
def Dn (st:PS) (s:S42):Option PS:=none
theorem enter_at {rgs:List (List Rg)} {i j:Nat} {r1 r2:Rg} (hi:i<rgs.length) (hj:i+1<rgs.length):rgAt (enter2 rgs i (i+1) r1 r2) j=if j=i+1 then rgAt rgs (i+1)++[r2] else if j=i then rgAt rgs i++[r1] else rgAt rgs j:=by
 unfold enter2
 rw [rgAt_push (by rw [push_len];exact hj),rgAt_push hi,rgAt_push hi]
 by_cases e:j=i+1
 ·rw [if_pos e,if_pos e,if_neg (by omega)]
 ·rw [if_neg e,if_neg e]
theorem at_enter {rgs:List (List Rg)} {i j:Nat} {r1 r2 r:Rg} (hi:i<rgs.length) (hj:i+1<rgs.length) (h:r∈rgAt rgs j):r∈rgAt (enter2 rgs i (i+1) r1 r2) j:=by
 rw [enter_at hi hj]
 split
 ·rename_i e
  rw [e] at h
  exact List.mem_append_left _ h
 ·split
  ·rename_i e
   rw [e] at h
   exact List.mem_append_left _ h
  ·exact h
/-! ### as many as there are tables -/
structure OutI (xs:List (List Tb)) (s:S42) (k:Nat) (st:PS) (C:List Tb):Prop where
 len:C.length=k
 nd:C.Nodup
 sub:∀ t∈C,t∈xs.getD s.f1.toNat []
 rg:∀ t∈C,rgOf [t]∈rgAt st.rgs s.f1.toNat
 lr:st.rgs.length=xs.length
/-! ### one, where nothing runs -/
/-! ### apart -/
theorem cho_f {n:Nat} {x:Ch} {ys:List Int} (h:x.r1.inf=false):(choC n x ys).f5=txt x.r1.lo∧(choC n x ys).f7=txt x.r1.hi:=by
 unfold choC
 rw [if_neg (by rw [h];decide)]
 exact ⟨rfl,rfl⟩
/-- Steps at levels in the middle. -/
def MidS (xs:List (List Tb)) (s:S42):Prop:=s.f0=0∧s.f1.toNat+1<xs.length
theorem mid_step {xs:List (List Tb)} {st:PS} {s:S42} (hl:st.rgs.length=xs.length) (hs:MidS xs s):(stepF (Fm xs) Dn st s).1.rgs.length=xs.length∧(∀ j,∀ r∈rgAt st.rgs j,r∈rgAt (stepF (Fm xs) Dn st s).1.rgs j)∧∀ ys,((stepF (Fm xs) Dn st s).2 ys).f0=true→∃ t,t∈xs.getD s.f1.toNat []∧((stepF (Fm xs) Dn st s).2 ys).f5=txt (rgOf [t]).lo∧((stepF (Fm xs) Dn st s).2 ys).f7=txt (rgOf [t]).hi∧(∀ r∈rgAt st.rgs s.f1.toNat,ovR r (rgOf [t])=false)∧rgOf [t]∈rgAt (stepF (Fm xs) Dn st s).1.rgs s.f1.toNat:=by
 rw [step_fill hs.1]
 have h2:=hs.2
 cases e:Fm xs st s with
 | none=>exact ⟨hl,fun _ _ h=>h,fun ys h=>by cases h⟩
 | some x =>
  obtain ⟨t,ht,rfl,h1,_⟩:=mid_some e
  have ht:=sorted_mem (verLt_sw _ _) ht
  refine ⟨(enter_len _ _ _ _ _).trans hl,fun j r hr=>at_enter (by omega) (by omega) hr,fun ys _=>⟨t,ht,(cho_f (ys:=ys) rfl).1,(cho_f (ys:=ys) rfl).2,hit_no h1,?_⟩⟩
  show rgOf [t]∈rgAt (enter2 _ _ _ _ _) _
  rw [enter_at (by omega) (by omega),if_neg (by omega),if_pos rfl]
  exact List.mem_append_right _ (List.mem_singleton.2 rfl)
theorem apart_at {xs:List (List Tb)} {ls:List (List S68)}:∀ (ss:List S42) (st:PS),st.rgs.length=xs.length→(∀ s∈ss,MidS xs s)→∀ (k:Nat) (s:S42) (c:S46),ss[k]? = some s→(runF (Fm xs) Dn ls st ss)[k]? = some c→c.f0=true→∃ t,t∈xs.getD s.f1.toNat []∧c.f5=txt (rgOf [t]).lo∧c.f7=txt (rgOf [t]).hi∧∀ r∈rgAt st.rgs s.f1.toNat,ovR r (rgOf [t])=false
 | [],st,hl,hs,k,s,c,h1,_,_=>by simp at h1
 | s0 :: ss,st,hl,hs,0,s,c,h1,h2,h3=>by
  simp only [List.getElem?_cons_zero,Option.some.injEq] at h1
  subst h1
  simp only [runF,List.getElem?_cons_zero,Option.some.injEq] at h2
  subst h2
  obtain ⟨t,g1,g2,g3,g4,_⟩:=(mid_step hl (hs _ List.mem_cons_self)).2.2 _ h3
  exact ⟨t,g1,g2,g3,g4⟩
 | s0 :: ss,st,hl,hs,k+1,s,c,h1,h2,h3=>by
  simp only [List.getElem?_cons_succ] at h1
  simp only [runF,List.getElem?_cons_succ] at h2
  have hm:=mid_step hl (hs _ List.mem_cons_self)
  obtain ⟨t,g1,g2,g3,g4⟩:=apart_at ss _ hm.1 (fun x hx=>hs x (List.mem_cons_of_mem _ hx)) k s c h1 h2 h3
  exact ⟨t,g1,g2,g3,fun r hr=>g4 r (hm.2.1 _ r hr)⟩
theorem apart_two {xs:List (List Tb)} {ls:List (List S68)}:∀ (ss:List S42) (st:PS),st.rgs.length=xs.length→(∀ s∈ss,MidS xs s)→∀ (j k:Nat) (s u:S42) (c d:S46),j<k→ss[k]? = some s→ss[j]? = some u→(runF (Fm xs) Dn ls st ss)[k]? = some c→(runF (Fm xs) Dn ls st ss)[j]? = some d→c.f0=true→d.f0=true→s.f1=u.f1 →
  ∃ t v,t∈xs.getD s.f1.toNat []∧v∈xs.getD s.f1.toNat []∧c.f5=txt (rgOf [t]).lo∧c.f7=txt (rgOf [t]).hi∧d.f5=txt (rgOf [v]).lo∧d.f7=txt (rgOf [v]).hi∧ovR (rgOf [v]) (rgOf [t])=false
 | [],st,hl,hs,j,k,s,u,c,d,hj,h1,_,_,_,_,_,_=>by simp at h1
 | s0 :: ss,st,hl,hs,j,0,s,u,c,d,hj,_,_,_,_,_,_,_=>by omega
 | s0 :: ss,st,hl,hs,0,k+1,s,u,c,d,hj,h1,h2,h3,h4,h5,h6,he=>by
  simp only [List.getElem?_cons_zero,Option.some.injEq] at h2
  subst h2
  simp only [runF,List.getElem?_cons_zero,Option.some.injEq] at h4
  subst h4
  simp only [List.getElem?_cons_succ] at h1
  simp only [runF,List.getElem?_cons_succ] at h3
  have hm:=mid_step hl (hs _ List.mem_cons_self)
  obtain ⟨v,g1,g2,g3,g4,g5⟩:=hm.2.2 _ h6
  obtain ⟨t,k1,k2,k3,k4⟩:=apart_at ss _ hm.1 (fun x hx=>hs x (List.mem_cons_of_mem _ hx)) k s c h1 h3 h5
  rw [← he] at g1 g5
  exact ⟨t,v,k1,g1,k2,k3,g2,g3,k4 _ g5⟩
 | s0 :: ss,st,hl,hs,j+1,k+1,s,u,c,d,hj,h1,h2,h3,h4,h5,h6,he=>by
  simp only [List.getElem?_cons_succ] at h1 h2
  simp only [runF,List.getElem?_cons_succ] at h3 h4
  have hm:=mid_step hl (hs _ List.mem_cons_self)
  exact apart_two ss _ hm.1 (fun x hx=>hs x (List.mem_cons_of_mem _ hx)) j k s u c d (by omega) h1 h2 h3 h4 h5 h6 he
end Go.Proofs.YtnineoajmgneiaaGreat.Rg
namespace Go.Proofs.YtnineoajmgneiaaGreat.Rg
open Lib (hid)
open List renaming setIfInBounds_toArray → zA,set_cons_zero → zB,set_cons_succ → zC
open Go.RowKit YtnineoajmgneiaaGreatW YtnineoajmgneiaaGreatW.PrintWords YtnineoajmgneiaaGreatW.PrintLast YtnineoajmgneiaaGreatW.PrintMore Fr L Ky Tm Lm It
/-- What is the same all along, and where the tables lie. -/
structure MidI [Ghost] (w wr:World) (S:Nat→Prop) (n0 sb ob mb:Nat) (lv cv:Value) (hs:List Hd) (cs:List Nat) (o:Lm.Op) (rgs:List (List Rg)) (run:List Int) (cdb:Nat) (c d:Cd) (A:Option Addr) (k:Nat) (qs:List Nat):Prop where
 ph:Ph w wr S n0 sb ob mb lv cv hs cs o rgs run cdb d
 sx:SameX c d
 nl:d.nl=c.nl
 row:ptrK.R 140 wr w.heap.size (fun _=>True) (.slice A qs.length k) qs
theorem sameX_tl {c d:Cd} (h:SameX c d):d.tl=c.tl:=h.2.2.2.2.2.2.2.2.2.2.1
theorem rg_full {ts:List Tb} (hp:0<ts.length) (hk:∀ t∈ts,KLen t):(8≤(rgOf ts).lo.length∧(rgOf ts).lo.length≤100000100)∧8≤(rgOf ts).hi.length∧(rgOf ts).hi.length≤100000100:=(iv_of hp hk).1
theorem ph_of [Ghost] {w w1:World} {S:Nat→Prop} {n0 sb ob mb:Nat} {lv cv:Value} {hs:List Hd} {cs:List Nat} {o:Lm.Op} {rgs:List (List Rg)} {run:List Int} {cdb:Nat} {c:Cd} (h:Cor w S n0 sb ob mb lv cv hs cs o rgs run) (hb:w.heap[cdb]? = some (.cells (cdC c) 129 (0,0))) (hw:Below w.heap.size w w1):Ph w w1 S n0 sb ob mb lv cv hs cs o rgs run cdb c:=
 ⟨hw.mono (Nat.zero_le _),fun b hb2 _=>hw.block b hb2,(hw.block _ (blk_lt hb)).trans hb,h.below hw⟩
/-- A world in which all older blocks are as they were: of a row's frame. -/
theorem below_kp {w w1 w2:World} {v:Value} {ps:List Nat} (hb:Below w.heap.size w w1) (hk:Kp w1 w2 (fun i=>v.ownBlock=some i)) (hr:ptrK.R 140 w1 w.heap.size (fun _=>True) v ps):Below w.heap.size w w2:=
 hb.trans (hk.toBelowB hb.size (fun i hi=>Kd.R_base hr i hi))
theorem tabH_nb {w w1:World} {cdb p:Nat} {arr:Array Value} {t:Tb} (h:Ls.TabH w p t) (hn:Nb w w1 cdb) (hb:w.heap[cdb]? = some (.cells arr 129 (0,0))):Ls.TabH w1 p t:=by
 obtain ⟨b,c,h1,h2,h3⟩:=h
 exact ⟨b,c,(hn.ty hb _ _ _ h1 (by decide)).trans h1,(hn.ty hb _ _ _ h2 (by decide)).trans h2,(hn.ty hb _ _ _ h3 (by decide)).trans h3⟩
/-- A compaction was entered. -/
theorem caa_true [Ghost] {w wx w':World} {S:Nat→Prop} {n0 sb ob mb i k cdb:Nat} {lv cv:Value} {hs:List Hd} {cs:List Nat} {o:Lm.Op} {rgs:List (List Rg)} {run:List Int} {c d:Cd} {tops bots:List Nat} {tt bt:List Tb} {hk:Hd} (PX:Ph w wx S n0 sb ob mb lv cv hs cs o rgs run cdb d) (HC:CdOk wx.drew n0 d tops bots tt bt hk.hp) (hO:OwnF d w.heap.size) (hsx:SameX c d) (hek:hs[k]? = some hk)
  (hc:Cor w' S n0 sb ob mb lv cv hs cs o (pushR (pushR rgs i d.r1) k d.r2) ((tt++bt).foldl (fun r t=>putR r t.num) run)) (ht:ptrK.R 140 w' n0 (fun _=>True) (.slice d.pA d.pn d.pc) tops) (hkp:KeepC wx.drew w' (Value.slice d.pA d.pn d.pc).ownBlock) :
  TryP w S n0 sb ob mb lv cv hs cs o rgs run c cdb (fun b=>b=cdb) (some ⟨tt,bt,k,d.r1,d.r2,enter2 rgs i k d.r1 d.r2⟩) (.returned (.bool true)) w':=by
 have hown:∀ q,(Value.slice d.pA d.pn d.pc).ownBlock=some q→w.heap.size≤q∧q≠cdb:=fun q hq=>⟨hO q (.inl hq),fun e=>by
  obtain ⟨cs2,hc2⟩:=Kd.R_typed HC.top q hq
  rw [e,show wx.drew.heap[cdb]? = _ from PX.blk] at hc2
  injection hc2 with hc2
  injection hc2 with _ e _
  exact absurd e (by decide)⟩
 have keep:KeepC w w' (some cdb):=⟨PX.bel.trans ((below_drew (Below.refl 0 wx)).trans hkp.1),fun b arr t hb ht hG=>by
  have hbl:=blk_lt hb
  have e1:=PX.far b hbl (fun e=>hG (by rw [e]))
  refine (hkp.2 b arr t (show wx.drew.heap[b]? = _ from e1.trans hb) ht (fun e=>?_)).trans e1
  have:=(hown b e).1
  omega⟩
 have hblk:w'.heap[cdb]? = some (.cells (cdC d) 129 (0,0)):=(hkp.2 cdb _ _ (show wx.drew.heap[cdb]? = _ from PX.blk) (by decide) (fun e=>(hown cdb e).2 rfl)).trans PX.blk
 exact ⟨keep.toF rfl,rfl,hc,d,tops,bots,hk,hek,hsx,rfl,rfl,hblk,cdok_keep HC hkp (fun q hq=>.inl hq) ht,hO⟩
theorem tabs_one {w:World} {p:Nat} {t:Tb} (h:Ls.TabH w p t):Ls.Tabs w [p] [t]:=⟨rfl,fun i q u h1 h2=>by
 match i,h1,h2 with
 | 0,h1,h2 =>
  injection h1 with h1
  injection h2 with h2
  rw [← h1,← h2]
  exact h⟩
theorem ch_skip {rgs:List (List Rg)} {i:Nat} {bs us:List Tb} {t:Tb} (h:(hitR rgs i (rgOf [t]) || hitR rgs (i+1) (nextR (rgOf [t]) (botL bs (rgOf [t]))))=true):chMid rgs i bs (t :: us)=chMid rgs i bs us:=by
 rw [chMid,if_pos h]
theorem ch_take {rgs:List (List Rg)} {i:Nat} {bs us:List Tb} {t:Tb} (h:(hitR rgs i (rgOf [t]) || hitR rgs (i+1) (nextR (rgOf [t]) (botL bs (rgOf [t]))))=false):chMid rgs i bs (t :: us)=some ⟨[t],botL bs (rgOf [t]),i+1,rgOf [t],nextR (rgOf [t]) (botL bs (rgOf [t])),enter2 rgs i (i+1) (rgOf [t]) (nextR (rgOf [t]) (botL bs (rgOf [t])))⟩:=by
 rw [chMid,if_neg (by rw [h];decide)]
set_option maxRecDepth 100000 in
set_option maxHeartbeats 8000000 in
theorem mid_calls [Ghost] {w:World} {S:Nat→Prop} {n0 sb ob mb i:Nat} {lv cv:Value} {hs:List Hd} {cs:List Nat} {o:Lm.Op} {rgs:List (List Rg)} {run:List Int} {c:Cd} {cdb:Nat} {hi hn:Hd}
  (h:Cor w S n0 sb ob mb lv cv hs cs o rgs run) (hb:w.heap[cdb]? = some (.cells (cdC c) 129 (0,0))) (hcd:n0≤cdb) (ei:hs[i]? = some hi) (en:hs[i+1]? = some hn) (etl:c.tl=hi.hp) (enl:c.nl=some ⟨hn.hp,0,none⟩)
  (hsz:∀ x∈hs,x.ts.length≤10000∧∀ t∈x.ts,KLen t) (hlen:hs.length=cs.length) (hl:cs.length≤1000) (hmax:o.max=(hs.length:Int)) (hr:RgsOk rgs) (hm:∀ t∈hi.ts,Mono hn.ts (rgOf [t])∧ltN hn.ts (rgOf [t])≤rtN hn.ts (rgOf [t])) :
  Calls Tryz.prog 74 #[.pointer (some ⟨sb,0,none⟩),.pointer (some ⟨cdb,0,none⟩)] w (TryP w S n0 sb ob mb lv cv hs cs o rgs run c cdb (fun b=>b=cdb) (chMid rgs i hn.ts (sorted (verLt hi.ts) hi.ts))):=by
 obtain ⟨Q,hQ⟩ : ∃ Q,Q=TryP w S n0 sb ob mb lv cv hs cs o rgs run c cdb (fun b=>b=cdb) (chMid rgs i hn.ts (sorted (verLt hi.ts) hi.ts)):=⟨_,rfl⟩
 rw [← hQ]
 have HQ:=hid hQ
 obtain ⟨k1,hk1⟩ : ∃ k,k=i+1:=⟨_,rfl⟩
 have HK1:=hid hk1
 rw [← hk1] at en
 have H0:=hid h
 have HB0:=hid hb
 have HR:=hid hr
 have HM:=hid hm
 have HEI:=hid ei
 have HEN:=hid en
 have HTL:=hid etl
 have HNL:=hid enl
 have HSZ:=hid hsz
 have hnlt:=(List.getElem?_eq_some_iff.1 en).1
 have HN:=hid (show n0≤cdb∧hs.length=cs.length∧cs.length≤1000∧i<cs.length∧k1<cs.length from ⟨hcd,hlen,hl,by omega,by omega⟩)
 have hli:=hsz hi (List.mem_of_getElem? ei)
 obtain ⟨Ai,ci,hLi⟩:=lrow_of (h.st.lev i hi ei) (by have:=hli.1;omega)
 have hmx:w.cell? ⟨ob,0,none⟩=some (.int .i64 (((hs.length - 1:Nat):Int)+1)):=by
  have h0:w.cell? ⟨ob,0,none⟩=some (.int .i64 o.max):=blk_cell h.st.opt.2 0
  rw [h0,hmax,show (((hs.length - 1:Nat):Int)+1)=(hs.length:Int) by omega]
 have K73:=hid (fun (W:World) (hW:Below w.heap.size w W)=>Rn.isLast_calls (w:=W) (hp:=hi.hp) (ob:=ob) (i:=i) (m:=hs.length - 1) (r:=false) ((hW.cell (World.block_lt_of_cell? w _ hLi.c3)).trans hLi.c3) (by
  have h4:w.cell? ⟨hi.hp,4,none⟩=some (ptr ob):=blk_cell (h.st.lev i hi ei).blk 4
  exact (hW.cell (World.block_lt_of_cell? w _ h4)).trans h4) ((hW.cell (World.block_lt_of_cell? w _ hmx)).trans hmx) (by omega) (beq_eq_false_iff_ne.2 (by omega)))
 have HLI:=hid hLi
 have HKI:=hid hli
 have hc11:w.cell? ⟨cdb,11,none⟩=some (.pointer (some ⟨hi.hp,0,none⟩)):=by
  have h1:=blk_cell hb 11
  have e:(cdC c)[11]? = some (.pointer (some ⟨c.tl,0,none⟩)):=rfl
  rw [h1,e,etl]
 have k0:=hLi.c0
 obtain ⟨n,hn0⟩ : ∃ n,n=hi.ts.length:=⟨_,rfl⟩
 have HNN:=hid (show n=hi.ts.length∧n≤10000 from ⟨hn0,by rw [hn0];exact hli.1⟩)
 rw [← hn0] at k0
 have HTB:=hid (show ∀ W:World,Cor W S n0 sb ob mb lv cv hs cs o rgs run→Ls.Tabs W ((Od.ord hi.ps.length (verLt hi.ts)).map fun i=>hi.ps.getD i 0) (sorted (verLt hi.ts) hi.ts) from fun W hc=>by
  obtain ⟨A2,c2,hL2⟩:=lrow_of (hc.st.lev i hi HEI.out) (by have:=HKI.out.1;omega)
  exact tabs_ord hL2.tb (verLt_sw _ _))
 have hpl:hi.ps.length=n:=by rw [hLi.pl,hn0]
 clear hQ hk1 h hb hr hm ei en etl enl hsz hnlt hcd hlen hl hmax hli hLi hmx hn0
 go_enter Tryz.func74,Tryz.ntmps74
 go_upto_region 2 with (first | ((with_reducible refine gate_dst (N:=18) rfl ?_);refine Kd.R_make ptrO (w0:=w) w.heap.size 140 ?hg (N:=18) ?hd 124 (.tmp 17) (.tmp 17) rfl (n:Int) ?hx ?hy Tryz.underlying124 (.pointer none) 8 info140 rfl (by decide) (by decide) none (okp:=fun _=>False) (ok:=fun _=>True) ?hz (fun _ h=>h.elim) trivial ?h0 ?hl (Below.refl _ _) (Nat.le_refl _) ?_;(case hg=>rfl);(case hd=>rfl);(case hx=>rfl);(case hy=>rfl);(case hz=>rfl);(case h0=>omega);(case hl=>(rw [Int.toNat_natCast];have:=HNN.out.2;omega));intro v1 w1 ho hb hg hnew;have HR1:=hid ho;have HB1:=hid hb;clear ho hb hg hnew;obtain ⟨A5,n5,c5,hv1⟩ : ∃ A n c,v1=.slice A n c:=(by obtain ⟨A,c,e⟩:=Kd.R_slice HR1.out;exact ⟨A,_,c,e⟩);subst hv1))
 have hn5:n5=n:=by have h:=(Kd.R_reads' HR1.out).1;rw [Int.toNat_natCast,List.length_replicate] at h;exact h
 subst hn5
 rw [Int.toNat_natCast] at HR1
 have c11':w1.cell? ⟨cdb,11,none⟩=some (.pointer (some ⟨hi.hp,0,none⟩)):=(HB1.out.cell (World.block_lt_of_cell? w _ hc11)).trans hc11
 have k0':w1.cell? ⟨hi.hp,0,none⟩=some (.slice Ai n5 ci):=(HB1.out.cell (World.block_lt_of_cell? w _ k0)).trans k0
 have HMC:=hid (show ptrO.C w1 Ai n5 (hi.ps.map some) from optC_ptr (by have h:=(HLI.out.below HB1.out).pc;rw [← HNN.out.1] at h;exact h))
 clear k0
 go_upto_region 3 with (first | ((with_reducible refine gate_builtin (b:=.copy) (xs:=#[.tmp 19,.tmp 26]) rfl ?_);refine Kd.R_copy (enc:=ptrV) (h1:=fun _=>rfl) none (w0:=w) w.heap.size rfl (.tmp 19) (.tmp 26) 124 124 140 rfl Tryz.underlying124 (by kernel_rfl) (.slice A5 n5 c5) (List.replicate n5 none) (hi.ps.map some) Ai n5 ci (fun _=>True) rfl rfl HR1.out HMC.out HB1.out HB1.out.size ?_;intro w2 ho hb2 hg2;rw [copy_all (by rw [List.length_map];exact hpl)] at ho;have HR2:=hid (optR_ptr ho);have HB2:=hid hb2;clear ho hb2 hg2))
 clear HR1 HB1 HMC c11' k0'
 have hy12:w.cell? ⟨cdb,12,none⟩=some (.pointer (some ⟨hn.hp,0,none⟩)):=by
  have h1:=blk_cell HB0.out 12
  have e:(cdC c)[12]? = some (.pointer c.nl):=rfl
  rw [h1,e,HNL.out]
 have HY:=hid (And.intro hc11 hy12)
 clear hc11 hy12
 have hc11:w2.cell? ⟨cdb,11,none⟩=some (.pointer (some ⟨hi.hp,0,none⟩)):=(HB2.out.cell (World.block_lt_of_cell? w _ HY.out.1)).trans HY.out.1
 by_cases hz:n5=0
 ·have d1:((n5:Int) == 0)=true:=by rw [hz];rfl
  have HCH:=hid (show chMid rgs i hn.ts (sorted (verLt hi.ts) hi.ts)=none by
   have e:sorted (verLt hi.ts) hi.ts=[]:=List.length_eq_zero_iff.1 (by rw [sorted_len (verLt_sw _ _),← HNN.out.1];exact hz)
   rw [e]
   rfl)
  clear hz hc11
  go_wp2_with fail
  rw [HQ.out,HCH.out]
  exact ⟨(keepC_below HB2.out _).toF rfl,rfl,H0.out.below HB2.out⟩
 ·have d1:((n5:Int) == 0)=false:=beq_eq_false_iff_ne.2 (by omega)
  have HZ:=hid hz
  clear hz
  go_upto_region 5 with (fail)
  go_wp2_with fail
  refine (K73.out _ HB2.out).mono ?_
  rintro e w3 ⟨rfl,q3,hw3⟩
  have HB3:=hid (show Below w.heap.size w w3 by rw [hw3];exact pw_below_drewN HB2.out q3)
  have HR3:=hid (show ptrK.R 140 w3 w.heap.size (fun _=>True) (.slice A5 n5 c5) hi.ps by rw [hw3];exact Kd.R_drewN HR2.out q3)
  clear hw3 HR2 HB2 hc11 K73
  have K93:=heur_calls (w:=w3) (base:=w.heap.size) (cdb:=cdb) (A:=A5) (c:=c5) (sv:=.pointer (some ⟨sb,0,none⟩)) (ps:=hi.ps) (ts:=hi.ts) (nb:=hn.hp) (by rw [hpl];exact HR3.out) (by rw [hpl];have:=HNN.out.2;omega) (by rw [hpl];have:=HZ.out;omega) (HLI.out.below HB3.out).tb ((HB3.out.cell (World.block_lt_of_cell? w _ HY.out.2)).trans HY.out.2)
  rw [hpl] at K93
  have HK93:=hid K93
  clear K93
  go_wp2_with fail
  refine HK93.out.mono ?_
  rintro e w4 ⟨rfl,h4,h5⟩
  have HB4:=hid (below_kp HB3.out h5 HR3.out)
  have HUM:=hid (show ∀ t∈sorted (verLt hi.ts) hi.ts,t∈hi.ts from fun t ht=>sorted_mem (verLt_sw _ _) ht)
  have hul:(sorted (verLt hi.ts) hi.ts).length=n5:=by rw [sorted_len (verLt_sw _ _),← HNN.out.1]
  have hql:((Od.ord hi.ps.length (verLt hi.ts)).map fun i=>hi.ps.getD i 0).length=n5:=by rw [List.length_map,Od.ord_length (verLt_sw _ _),hpl]
  have HR4:=hid (show ptrK.R 140 w4 w.heap.size (fun _=>True) (.slice A5 n5 c5) ((Od.ord hi.ps.length (verLt hi.ts)).map fun i=>hi.ps.getD i 0) from h4)
  clear h4 h5 HB3 HR3 HK93 hpl
  generalize ((Od.ord hi.ps.length (verLt hi.ts)).map fun i=>hi.ps.getD i 0)=qs at *
  generalize hus:sorted (verLt hi.ts) hi.ts=us at *
  subst hql
  have HUL:=hid hul
  have HI0:=hid (show MidI w w4 S n0 sb ob mb lv cv hs cs o rgs run cdb c c A5 c5 qs from ⟨ph_of H0.out HB0.out HB4.out,⟨rfl,rfl,rfl,rfl,rfl,rfl,rfl,rfl,rfl,rfl,rfl,rfl,rfl,rfl⟩,rfl,HR4.out⟩)
  clear hul hus HB4 HR4 d1
  go_upto_block 0 with (fail)
  go_wp2_with fail
  go_loopg [7,8,9,46] qs.length (fun kq v7 v8 v9 v46 wr=>∃ (j:Nat) (d:Cd),v46=.int .i64 (j:Int)∧Aside0 (j+kq=qs.length)∧Aside0 (MidI w wr S n0 sb ob mb lv cv hs cs o rgs run cdb c d A5 c5 qs∧chMid rgs i hn.ts us=chMid rgs i hn.ts (us.drop j)))
  case atStart=>exact ⟨0,c,rfl,⟨by omega⟩,⟨HI0.out,rfl⟩⟩
  case round =>
   clear HI0
   obtain ⟨j,d,rfl,HJ,HQJ⟩:=hrel
   have HI:=hid HQJ.out.1
   have HCH:=hid HQJ.out.2
   clear HQJ
   by_cases hj:j<qs.length
   ·have d1:decide ((j:Int)<(qs.length:Int))=true:=decide_eq_true (by omega)
    have HGK:=hid (show gk - 1<gk∧j+1+(gk - 1)=qs.length by have:=HJ.out;omega)
    have s3:IntKind.i64.wrap ((j:Int)+1)=((j+1:Nat):Int):=by rw [IntWalk.i64_in _ (by have:=HNN.out.2;omega)];omega
    obtain ⟨blk,c2,e,hcell⟩:=row_at HI.out.row hj
    injection e with e1 e2 e3
    subst e1
    subst e3
    have hju:j<us.length:=by rw [HUL.out];exact hj
    have htw:∀ W:World,Cor W S n0 sb ob mb lv cv hs cs o rgs run→Ls.TabH W (qs.getD j 0) (Ls.tAt us j):=fun W hc=>Ls.tabs_at (HTB.out W hc) hj
    have htb:=htw wr HI.out.ph.cor
    have hdr:=drop_at hju
    have HMEM:=hid (HUM.out _ (It.tAt_mem hju))
    have HCT:=HCH.out
    rw [hdr] at HCT
    have HCU:=hid HCT
    clear HCT hdr hju e2
    generalize qs.getD j 0=p at *
    generalize Ls.tAt us j=t at *
    have HT:=hid htb
    have HTW:=hid htw
    clear htw
    obtain ⟨bs,bb,t1,t2,t3⟩:=htb
    have K94:=hid (size_calls (w:=wr) (p:=p) (v:=.int .i64 t.bytes) (blk_cell t1 3))
    clear t1 t2 t3
    simp only [ptr] at hcell
    have x24:wr.cell? ⟨cdb,24,none⟩=some (.int .i64 d.sz):=blk_cell HI.out.ph.blk 24
    have f24:=blk_frozen HI.out.ph.blk 24
    go_wp2_with fail
    refine K94.out.mono ?_
    rintro e w5 ⟨rfl,rfl⟩
    go_upto_region 12 with (fail)
    obtain ⟨w5,hw5⟩ : ∃ w5,w5=wr.setCell ⟨cdb,24,none⟩ (.int .i64 t.bytes):=⟨_,rfl⟩
    rw [← hw5]
    have P5:=hid (HI.out.ph.set (c':={ d with sz:=t.bytes }) HN.out.1 24 (.int .i64 t.bytes) rfl)
    have HR5:=hid (row_nb HI.out.row (nb_1 wr cdb 24 (.int .i64 t.bytes)) HI.out.ph.blk)
    rw [← hw5] at P5 HR5
    have HT5:=hid (tabH_nb HT.out (nb_1 wr cdb 24 (.int .i64 t.bytes)) HI.out.ph.blk)
    rw [← hw5] at HT5
    have HKT:=hid ((HSZ.out hi (List.mem_of_getElem? HEI.out)).2 t HMEM.out)
    have hmt:=HM.out t HMEM.out
    have hdtl:d.tl=hi.hp:=(sameX_tl HI.out.sx).trans HTL.out
    have hdnl:d.nl=some ⟨hn.hp,0,none⟩:=HI.out.nl.trans HNL.out
    have HD:=hid (And.intro HI.out.sx (And.intro hdtl hdnl))
    have HWS:=hid HI.out.ph.bel.size
    have K95:=hid (range_calls (w:=w5.alloc (.cells #[.pointer (some ⟨p,0,none⟩)] 140)) (A:=some ⟨w5.heap.size,0,none⟩) (c:=1) (ts:=[t]) (fun i hi=>by
     have hi0:i=0:=by simpa using hi
     subst hi0
     exact ⟨w5.heap.size,p,rfl,by rw [blk_cell (blk_new w5 _)];rfl,Nw.tab_below (below_alloc (Below.refl _ _) _) HT5.out⟩) (by simp) (by intro u hu;rw [List.mem_singleton.1 hu];exact HKT.out))
    have hok1:=rg_full (ts:=[t]) (by simp) (by intro u hu;rw [List.mem_singleton.1 hu];exact HKT.out)
    obtain ⟨R1,hR1⟩ : ∃ R,R=rgOf [t]:=⟨_,rfl⟩
    rw [← hR1] at K95 hok1 hmt
    have HMT:=hid hmt
    have HRO:=hid hok1
    have HR1E:=hid hR1
    clear hw5 x24 f24 hcell K94 HT hok1 hR1 hdtl hdnl hmt
    go_wp2_with fail
    refine K95.out.mono ?_
    rintro e w6 ⟨A1,B1,rfl,q1,q2,hb6⟩
    have hb56:Below w5.heap.size w5 w6:=below_step (below_alloc (Below.refl _ _) _) hb6
    have P6:=hid (P5.out.below hb56)
    have HR6:=hid (Kd.R_below HR5.out hb56)
    have hnw:n0≤(w5.alloc (.cells #[.pointer (some ⟨p,0,none⟩)] 140)).heap.size:=by rw [Nw.szA];have:=P5.out.cor.nb;omega
    have HQ16:=hid (q1.mono (ok':=fun k=>n0≤k) (fun b hb2 _ _=>Nat.le_trans hnw hb2))
    have HQ26:=hid (q2.mono (ok':=fun k=>n0≤k) (fun b hb2 _ _=>Nat.le_trans hnw hb2))
    clear q1 q2 hb6 hb56 K95 hnw P5 HR5 HT5
    simp only [rgC]
    have f15:=blk_frozen P6.out.blk 15
    have f16:=blk_frozen P6.out.blk 16
    have f17:=blk_frozen P6.out.blk 17
    have f18:=blk_frozen P6.out.blk 18
    have x15:w6.cell? ⟨cdb,15,none⟩=some (.slice d.a1 d.r1.lo.length d.r1.lo.length):=blk_cell P6.out.blk 15
    have x16:w6.cell? ⟨cdb,16,none⟩=some (.slice d.b1 d.r1.hi.length d.r1.hi.length):=blk_cell P6.out.blk 16
    have x17:w6.cell? ⟨cdb,17,none⟩=some (.bool d.r1.inf):=blk_cell P6.out.blk 17
    have x18:w6.cell? ⟨cdb,18,none⟩=some (.int .i64 0):=blk_cell P6.out.blk 18
    go_upto_region 13 with (fail)
    rw [wR1_eq w6 cdb A1 B1 R1]
    obtain ⟨w7,hw7⟩ : ∃ w7,w7=wR1 w6 cdb A1 B1 R1:=⟨_,rfl⟩
    rw [← hw7]
    have P7:=hid (P6.out.r1 HN.out.1 A1 B1 R1)
    have HR7:=hid (row_nb HR6.out (nb_r1 w6 cdb A1 B1 R1) P6.out.blk)
    have HQ17:=hid (kb_nb HQ16.out (nb_r1 w6 cdb A1 B1 R1) P6.out.blk)
    have HQ27:=hid (kb_nb HQ26.out (nb_r1 w6 cdb A1 B1 R1) P6.out.blk)
    rw [← hw7] at P7 HR7 HQ17 HQ27
    clear hw7 f15 f16 f17 f18 x15 x16 x17 x18 P6 HR6 HQ16 HQ26
    obtain ⟨x1,hx1⟩ : ∃ x,x=hitR rgs i R1:=⟨_,rfl⟩
    have K96:=hid (hit_calls (w:=w7.drew) (i:=i) (A2:=A1) (B2:=B1) (d:=R1) (P7.out.cor.below (below_drew (Below.refl _ _))) (by have:=HN.out;omega) HR.out ((HQ17.out.mono (fun _ _ _ _=>trivial)).below (below_drew (Below.refl _ _))) ((HQ27.out.mono (fun _ _ _ _=>trivial)).below (below_drew (Below.refl _ _))) (.inr HRO.out))
    rw [← hx1] at K96
    simp only [rgC] at K96
    have HX1:=hid hx1
    have y11:w7.cell? ⟨cdb,11,none⟩=some (.pointer (some ⟨hi.hp,0,none⟩)):=by
     rw [← HD.out.2.1]
     exact blk_cell P7.out.blk 11
    have y3:w7.cell? ⟨hi.hp,3,none⟩=some (.int .i64 (i:Int)):=blk_cell (P7.out.cor.st.lev i hi HEI.out).blk 3
    have y15:w7.cell? ⟨cdb,15,none⟩=some (.slice A1 R1.lo.length R1.lo.length):=blk_cell P7.out.blk 15
    have y16:w7.cell? ⟨cdb,16,none⟩=some (.slice B1 R1.hi.length R1.hi.length):=blk_cell P7.out.blk 16
    have y17:w7.cell? ⟨cdb,17,none⟩=some (.bool R1.inf):=blk_cell P7.out.blk 17
    have y18:w7.cell? ⟨cdb,18,none⟩=some (.int .i64 0):=blk_cell P7.out.blk 18
    clear hx1
    refine wp_region_still_tail 14 (by kernel_rfl) (by kernel_rfl) ?_
    simp only [List.take_succ_cons,List.take_zero,List.drop_succ_cons,List.drop_zero]
    repeat still_step
    refine wpStill_nil ?_
    change wpList _ _ _ _ _ w7.drew
    go_wp2_with fail
    refine K96.out.mono ?_
    rintro e w8 ⟨rfl,hb8⟩
    have hb78:Below w7.heap.size w7 w8:=below_step (below_drew (Below.refl _ _)) hb8
    have P8:=hid (P7.out.below hb78)
    have HR8:=hid (Kd.R_below HR7.out hb78)
    have HQ18:=hid (HQ17.out.below hb78)
    have HQ28:=hid (HQ27.out.below hb78)
    clear hb8 hb78 P7 HR7 HQ17 HQ27 y11 y3 y15 y16 y17 y18 K96
    cases x1 with
    | true =>
     have HCJ:=hid (HCU.out.trans (ch_skip (by rw [← HR1E.out,← HX1.out,Bool.true_or])))
     have HM8:=hid (show MidI w w8 S n0 sb ob mb lv cv hs cs o rgs run cdb c { d with sz:=t.bytes,a1:=A1,b1:=B1,r1:=R1 } (some ⟨blk,0,none⟩) c5 qs from ⟨P8.out,HD.out.1,HI.out.nl,HR8.out⟩)
     go_wp2_with fail
     go_roundg (gk - 1)
     case measure=>exact HGK.out.1
     case rel=>exact ⟨j+1,{ d with sz:=t.bytes,a1:=A1,b1:=B1,r1:=R1 },rfl,⟨HGK.out.2⟩,⟨HM8.out,HCJ.out⟩⟩
    | false =>
     have f13:=blk_frozen P8.out.blk 13
     have x13:w8.cell? ⟨cdb,13,none⟩=some (.slice d.pA d.pn d.pc):=blk_cell P8.out.blk 13
     go_upto_region 15 with (first | ((with_reducible refine gate_dst (N:=78) rfl ?_);refine Kd.R_lit ptrK (w0:=w8) w8.heap.size 140 ?hg (N:=78) ?hd (xs:=[p]) (inner:=[ptr p]) (ok:=fun _=>True) (okp:=fun _=>True) ?hr ?hp (fun _ hk=>hk) trivial (Below.refl _ _) (Nat.le_refl _) (by simp) ?_;(case hd=>rfl);(case hg=>rfl);(case hr=>first | (go_simp;done) | (go_simp;rfl));(case hp=>exact Reps.one rfl (Reps.none _ _));intro v9 w9 ho hb hg_ hn_;have HR9:=hid ho;have HB9:=hid hb;clear hg_ hn_ ho hb;obtain ⟨A6,n6,c6,hv9⟩:=Nw.slice3 HR9.out;subst hv9;have f13:=blk_frozen ((HB9.out.block _ (blk_lt P8.out.blk)).trans P8.out.blk) 13;have x13:w9.cell? ⟨cdb,13,none⟩=some (.slice d.pA d.pn d.pc):=blk_cell ((HB9.out.block _ (blk_lt P8.out.blk)).trans P8.out.blk) 13))
     obtain ⟨w10,hw10⟩ : ∃ w10,w10=w9.setCell ⟨cdb,13,none⟩ (.slice A6 n6 c6):=⟨_,rfl⟩
     rw [← hw10]
     have P9:=P8.out.below HB9.out
     have P10:=hid (P9.set (c':={ d with sz:=t.bytes,a1:=A1,b1:=B1,r1:=R1,pA:=A6,pn:=n6,pc:=c6 }) HN.out.1 13 (.slice A6 n6 c6) rfl)
     have HRT10:=hid (row_nb HR9.out (nb_1 w9 cdb 13 (.slice A6 n6 c6)) P9.blk)
     have HR10:=hid (row_nb (Kd.R_below HR8.out HB9.out) (nb_1 w9 cdb 13 (.slice A6 n6 c6)) P9.blk)
     have HQ110:=hid (kb_nb (HQ18.out.below HB9.out) (nb_1 w9 cdb 13 (.slice A6 n6 c6)) P9.blk)
     have HQ210:=hid (kb_nb (HQ28.out.below HB9.out) (nb_1 w9 cdb 13 (.slice A6 n6 c6)) P9.blk)
     rw [← hw10] at P10 HRT10 HR10 HQ110 HQ210
     have hw8:w.heap.size≤w8.heap.size:=P8.out.bel.size
     have HW8:=hid hw8
     clear hw10 f13 x13 P9 P8 HR8 HQ18 HQ28 HR9 HB9 hw8
     obtain ⟨ka,eka,hka,oka⟩:=kb_key HQ110.out (by have:=HRO.out;omega)
     obtain ⟨kc,ekc,hkc,okc⟩:=kb_key HQ210.out (by have:=HRO.out;omega)
     subst eka
     subst ekc
     obtain ⟨An,cn,hLn⟩:=lrow_of (P10.out.cor.st.lev k1 hn HEN.out) (by have:=(HSZ.out hn (List.mem_of_getElem? HEN.out)).1;omega)
     have K97:=hid (overTabs_calls (w:=w10.drew) (r:=R1) (a:=ka) (b:=kc) hLn.c0 (hLn.below (below_drew (Below.refl _ _))).tr (by have:=(HSZ.out hn (List.mem_of_getElem? HEN.out)).1;omega) (HSZ.out hn (List.mem_of_getElem? HEN.out)).2 hka hkc HRO.out.1 HRO.out.2 HMT.out.1)
     simp only [rgC] at K97
     clear hLn hka hkc
     have u0:w10.cell? ⟨cdb,12,none⟩=some (.pointer (some ⟨hn.hp,0,none⟩)):=by
      rw [← HD.out.2.2]
      exact blk_cell P10.out.blk 12
     have u1:w10.cell? ⟨cdb,15,none⟩=some (.slice (some ⟨ka,0,none⟩) R1.lo.length R1.lo.length):=blk_cell P10.out.blk 15
     have u2:w10.cell? ⟨cdb,16,none⟩=some (.slice (some ⟨kc,0,none⟩) R1.hi.length R1.hi.length):=blk_cell P10.out.blk 16
     have u3:w10.cell? ⟨cdb,17,none⟩=some (.bool R1.inf):=blk_cell P10.out.blk 17
     have u4:w10.cell? ⟨cdb,18,none⟩=some (.int .i64 0):=blk_cell P10.out.blk 18
     refine start_ (n:=15) (S:=fun w'=>w'.cell? ⟨cdb,12,none⟩=some (.pointer (some ⟨hn.hp,0,none⟩))∧w'.cell? ⟨cdb,15,none⟩=some (.slice (some ⟨ka,0,none⟩) R1.lo.length R1.lo.length)∧w'.cell? ⟨cdb,16,none⟩=some (.slice (some ⟨kc,0,none⟩) R1.hi.length R1.hi.length)∧w'.cell? ⟨cdb,17,none⟩=some (.bool R1.inf)∧w'.cell? ⟨cdb,18,none⟩=some (.int .i64 0)) (ds:=[]) #[false,false,false,false,false,false,false,false,false,false,false,false,false,false,false] (by kernel_rfl) rfl rfl ⟨u0,u1,u2,u3,u4⟩ (fun hHeld=>?_)
     refine pure_ (i:=0) (N:=some 82) (v:=?_) (a':=?_) #[true,false,false,false,false,false,false,false,false,false,false,false,false,false,false] rfl rfl (by kernel_rfl) (fun _ _ _ h=>h) (Or.inl ⟨by rfl,?_⟩) ?_ ?_
     rotate_left
     ·intro w'
      go_simp
      with_reducible rfl
     rotate_left
     ·simp only [Act.put,zA,zB,zC,i64_w,i32_w]
      rfl
     refine pure_ (i:=1) (N:=some 83) (v:=?_) (a':=?_) #[true,true,false,false,false,false,false,false,false,false,false,false,false,false,false] rfl rfl (by kernel_rfl) (fun _ _ _ h=>h) (Or.inl ⟨by rfl,?_⟩) ?_ ?_
     rotate_left
     ·intro w'
      go_simp
      with_reducible rfl
     rotate_left
     ·simp only [Act.put,zA,zB,zC,i64_w,i32_w]
      rfl
     refine pure_ (i:=2) (N:=some 84) (v:=?_) (a':=?_) #[true,true,true,false,false,false,false,false,false,false,false,false,false,false,false] rfl rfl (by kernel_rfl) (fun _ _ _ h=>h) (Or.inl ⟨by rfl,?_⟩) ?_ ?_
     rotate_left
     ·intro w'
      go_simp
      with_reducible rfl
     rotate_left
     ·simp only [Act.put,zA,zB,zC,i64_w,i32_w]
      rfl
     refine pure_ (i:=4) (N:=some 86) (v:=?_) (a':=?_) #[true,true,true,false,true,false,false,false,false,false,false,false,false,false,false] rfl rfl (by kernel_rfl) (fun _ _ _ h=>h) (Or.inl ⟨by rfl,?_⟩) ?_ ?_
     rotate_left
     ·intro w'
      go_simp
      with_reducible rfl
     rotate_left
     ·simp only [Act.put,zA,zB,zC,i64_w,i32_w]
      rfl
     refine pure_ (i:=5) (N:=some 87) (v:=?_) (a':=?_) #[true,true,true,false,true,true,false,false,false,false,false,false,false,false,false] rfl rfl (by kernel_rfl) (fun _ _ _ h=>h) (Or.inl ⟨by rfl,?_⟩) ?_ ?_
     rotate_left
     ·intro w'
      go_simp
      with_reducible rfl
     rotate_left
     ·simp only [Act.put,zA,zB,zC,i64_w,i32_w]
      rfl
     refine pure_ (i:=6) (N:=some 88) (v:=?_) (a':=?_) #[true,true,true,false,true,true,true,false,false,false,false,false,false,false,false] rfl rfl (by kernel_rfl) (fun _ _ _ h=>h) (Or.inl ⟨by rfl,?_⟩) ?_ ?_
     rotate_left
     ·intro w'
      go_simp
      with_reducible rfl
     rotate_left
     ·simp only [Act.put,zA,zB,zC,i64_w,i32_w]
      rfl
     refine pure_ (i:=7) (N:=some 89) (v:=?_) (a':=?_) #[true,true,true,false,true,true,true,true,false,false,false,false,false,false,false] rfl rfl (by kernel_rfl) (fun _ _ _ h=>h) (Or.inl ⟨by rfl,?_⟩) ?_ ?_
     rotate_left
     ·intro w'
      go_simp
      with_reducible rfl
     rotate_left
     ·simp only [Act.put,zA,zB,zC,i64_w,i32_w]
      rfl
     refine take_ (i:=3) (N:=some 85) (v:=?_) (a':=?_) #[true,true,true,true,true,true,true,true,false,false,false,false,false,false,false] rfl rfl (by kernel_rfl) (fun _ _ _ h=>h) (Or.inl ⟨by rfl,?_⟩) hHeld ?_ ?_
     rotate_left
     ·rintro w' ⟨s0,s1,s2,s3,s4⟩
      go_simp
      with_reducible rfl
     rotate_left
     ·simp only [Act.put,zA,zB,zC,i64_w,i32_w]
      rfl
     refine take_ (i:=8) (N:=some 90) (v:=?_) (a':=?_) #[true,true,true,true,true,true,true,true,true,false,false,false,false,false,false] rfl rfl (by kernel_rfl) (fun _ _ _ h=>h) (Or.inl ⟨by rfl,?_⟩) hHeld ?_ ?_
     rotate_left
     ·rintro w' ⟨s0,s1,s2,s3,s4⟩
      go_simp
      with_reducible rfl
     rotate_left
     ·simp only [Act.put,zA,zB,zC,i64_w,i32_w]
      rfl
     refine one_ (i:=9) (N:=some 91) #[true,true,true,true,true,true,true,true,true,true,false,false,false,false,false] rfl rfl (by kernel_rfl) (by decide) (fun K hK=>?_)
     refine goes_ Tryz.func97 (by kernel_rfl) rfl #[.pointer (some ⟨hn.hp,0,none⟩),.agg #[],.agg #[.slice (some ⟨ka,0,none⟩) R1.lo.length R1.lo.length,.slice (some ⟨kc,0,none⟩) R1.hi.length R1.hi.length,.bool R1.inf,.int .i64 0]] (by rfl) rfl rfl (by simp only [List.map_toArray,List.map_cons,List.map_nil];rfl) ?_
     with_reducible refine (K97.out).mono ?_
     rintro e w11 ⟨rfl,hb11⟩
     refine ⟨_,rfl,?_⟩
     have HB11:=hid (show Below w10.heap.size w10 w11 from below_step (below_drew (Below.refl _ _)) hb11)
     refine hK.out _ _ ⟨(HB11.out.cell (World.block_lt_of_cell? w10 _ u0)).trans u0,(HB11.out.cell (World.block_lt_of_cell? w10 _ u1)).trans u1,(HB11.out.cell (World.block_lt_of_cell? w10 _ u2)).trans u2,(HB11.out.cell (World.block_lt_of_cell? w10 _ u3)).trans u3,(HB11.out.cell (World.block_lt_of_cell? w10 _ u4)).trans u4⟩ (fun hHeld=>?_)
     clear hK K
     refine norm_ (a':=?_) ?_ ?_
     rotate_left
     ·show Act.put _ (some 91) _=_
      simp only [Act.put,zA,zB,zC,i64_w,i32_w]
      rfl
     refine pure_ (i:=10) (N:=some 81) (v:=?_) (a':=?_) #[true,true,true,true,true,true,true,true,true,true,true,false,false,false,false] rfl rfl (by kernel_rfl) (fun _ _ _ h=>h) (Or.inl ⟨by rfl,?_⟩) ?_ ?_
     rotate_left
     ·intro w'
      go_simp
      with_reducible rfl
     rotate_left
     ·simp only [Act.put,zA,zB,zC,i64_w,i32_w]
      rfl
     refine pure_ (i:=11) (N:=some 92) (v:=?_) (a':=?_) #[true,true,true,true,true,true,true,true,true,true,true,true,false,false,false] rfl rfl (by kernel_rfl) (fun _ _ _ h=>h) (Or.inl ⟨by rfl,?_⟩) ?_ ?_
     rotate_left
     ·intro w'
      go_simp
      with_reducible rfl
     rotate_left
     ·simp only [Act.put,zA,zB,zC,i64_w,i32_w]
      rfl
     refine pure_ (i:=12) (N:=some 93) (v:=?_) (a':=?_) #[true,true,true,true,true,true,true,true,true,true,true,true,true,false,false] rfl rfl (by kernel_rfl) (fun _ _ _ h=>h) (Or.inl ⟨by rfl,?_⟩) ?_ ?_
     rotate_left
     ·intro w'
      go_simp
      with_reducible rfl
     rotate_left
     ·simp only [Act.put,zA,zB,zC,i64_w,i32_w]
      rfl
     refine pure_ (i:=13) (N:=some 8) (v:=?_) (a':=?_) #[true,true,true,true,true,true,true,true,true,true,true,true,true,true,false] rfl rfl (by kernel_rfl) (fun _ _ _ h=>h) (Or.inl ⟨by rfl,?_⟩) ?_ ?_
     rotate_left
     ·intro w'
      go_simp
      with_reducible rfl
     rotate_left
     ·simp only [Act.put,zA,zB,zC,i64_w,i32_w]
      rfl
     refine pure_ (i:=14) (N:=some 9) (v:=?_) (a':=?_) #[true,true,true,true,true,true,true,true,true,true,true,true,true,true,true] rfl rfl (by kernel_rfl) (fun _ _ _ h=>h) (Or.inl ⟨by rfl,?_⟩) ?_ ?_
     rotate_left
     ·intro w'
      go_simp
      with_reducible rfl
     rotate_left
     ·simp only [Act.put,zA,zB,zC,i64_w,i32_w]
      rfl
     refine done_ (by kernel_rfl) ?_
     have P11:=hid (P10.out.below HB11.out)
     have HRT11:=hid (Kd.R_below HRT10.out HB11.out)
     have HR11:=hid (Kd.R_below HR10.out HB11.out)
     have HQ111:=hid (HQ110.out.below HB11.out)
     have HQ211:=hid (HQ210.out.below HB11.out)
     clear hHeld u0 u1 u2 u3 u4 hb11 HB11 P10 HRT10 HR10 HQ110 HQ210 K97
     obtain ⟨l,hl⟩ : ∃ l,l=ltN hn.ts R1:=⟨_,rfl⟩
     obtain ⟨rr,hrr⟩ : ∃ r,r=rtN hn.ts R1:=⟨_,rfl⟩
     rw [← hl,← hrr]
     have HKn:=hid (HSZ.out hn (List.mem_of_getElem? HEN.out))
     have HLR:=hid (show l≤rr∧rr≤hn.ts.length from ⟨by rw [hl,hrr];exact HMT.out.2,by rw [hrr];exact ltrt_le _ _⟩)
     have HBL:=hid (show botL hn.ts R1=(hn.ts.take rr).drop l by rw [hl,hrr];rfl)
     clear hl hrr
     have s5:IntKind.i64.wrap ((rr:Int) - (l:Int))=((rr - l:Nat):Int):=by rw [IntWalk.i64_in _ (by have:=HLR.out;have:=HKn.out.1;omega)];have:=HLR.out;omega
     have HK:=hid (show rr - l≤10000 by have:=HLR.out;have:=HKn.out.1;omega)
     obtain ⟨k,hk⟩ : ∃ k,k=rr - l:=⟨_,rfl⟩
     rw [← hk] at s5 HK
     have HKL:=hid hk
     clear hk
     have f14:=blk_frozen P11.out.blk 14
     have x14:w11.cell? ⟨cdb,14,none⟩=some (.slice d.qA d.qn d.qc):=blk_cell P11.out.blk 14
     have HN6:=hid (show n0≤w11.heap.size∧w.heap.size≤w11.heap.size∧cdb<w11.heap.size from ⟨P11.out.cor.nb,P11.out.bel.size,blk_lt P11.out.blk⟩)
     go_upto_region 17 with (first | ((with_reducible refine gate_dst (N:=98) rfl ?_);refine Kd.R_make ptrO (w0:=w11) w11.heap.size 140 ?hg (N:=98) ?hd 124 (.tmp 97) (.tmp 97) rfl (k:Int) ?hx ?hy Tryz.underlying124 (.pointer none) 8 info140 rfl (by decide) (by decide) none (okp:=fun _=>False) (ok:=fun _=>True) ?hz (fun _ h=>h.elim) trivial ?h0 ?hl (Below.refl _ _) (Nat.le_refl _) ?_;(case hg=>rfl);(case hd=>rfl);(case hx=>rfl);(case hy=>rfl);(case hz=>rfl);(case h0=>omega);(case hl=>(rw [Int.toNat_natCast];have:=HK.out;omega));intro v12 w12 ho hb hg hnew;have HR12:=hid ho;have HB12:=hid hb;clear ho hb hg hnew;obtain ⟨A7,n7,c7,hv7⟩ : ∃ A n c,v12=.slice A n c:=(by obtain ⟨A,c,e⟩:=Kd.R_slice HR12.out;exact ⟨A,_,c,e⟩);subst hv7;have f14:=blk_frozen ((HB12.out.block _ (blk_lt P11.out.blk)).trans P11.out.blk) 14;have x14:w12.cell? ⟨cdb,14,none⟩=some (.slice d.qA d.qn d.qc):=blk_cell ((HB12.out.block _ (blk_lt P11.out.blk)).trans P11.out.blk) 14))
     obtain ⟨w13,hw13⟩ : ∃ w13,w13=w12.setCell ⟨cdb,14,none⟩ (.slice A7 n7 c7):=⟨_,rfl⟩
     rw [← hw13]
     have P12:=P11.out.below HB12.out
     have P13:=hid (P12.set (c':={ d with sz:=t.bytes,a1:=some ⟨ka,0,none⟩,b1:=some ⟨kc,0,none⟩,r1:=R1,pA:=A6,pn:=n6,pc:=c6,qA:=A7,qn:=n7,qc:=c7 }) HN.out.1 14 (.slice A7 n7 c7) rfl)
     have HRT13:=hid (row_nb (Kd.R_below HRT11.out HB12.out) (nb_1 w12 cdb 14 (.slice A7 n7 c7)) P12.blk)
     have HRS13:=hid (row_nb (Kd.R_below HR11.out HB12.out) (nb_1 w12 cdb 14 (.slice A7 n7 c7)) P12.blk)
     have HQ113:=hid (kb_nb (HQ111.out.below HB12.out) (nb_1 w12 cdb 14 (.slice A7 n7 c7)) P12.blk)
     have HQ213:=hid (kb_nb (HQ211.out.below HB12.out) (nb_1 w12 cdb 14 (.slice A7 n7 c7)) P12.blk)
     have HR13:=hid (Kd.R_set (j:=14) (u:=.slice A7 n7 c7) HR12.out P12.blk (by intro q hq;have:q∈[140]:=hq;rw [List.mem_singleton.1 this];decide))
     have HZ13:=hid (show w11.heap.size≤w13.heap.size by rw [hw13];simpa using HB12.out.size)
     have HTL6:=hid (show (∀ q,(Value.slice A6 n6 c6).ownBlock=some q→q<w11.heap.size)∧∀ q,(Value.slice (some ⟨blk,0,none⟩) qs.length c5).ownBlock=some q→q<w11.heap.size from ⟨Kd.R_lt HRT11.out,Kd.R_lt HR11.out⟩)
     rw [← hw13] at P13 HRT13 HRS13 HQ113 HQ213 HR13
     clear hw13 P12 f14 x14 HR12 HB12 P11 HRT11 HR11 HQ111 HQ211
     have hkn:n7=k:=by have h:=(Kd.R_reads' HR13.out).1;rw [Int.toNat_natCast,List.length_replicate] at h;exact h
     subst hkn
     rw [Int.toNat_natCast] at HR13
     obtain ⟨An,cn,hLn⟩:=lrow_of (P13.out.cor.st.lev k1 hn HEN.out) (by have:=HKn.out.1;omega)
     obtain ⟨i0,hi0,hzz⟩:=Option.map_eq_some_iff.1 info140
     simp only [Prod.mk.injEq] at hzz
     obtain ⟨Am,hmid,hmr,hmc⟩:=print_mid_of ptr 0 124 140 .i64 .i64 Tryz.underlying124 hi0 hzz.2.1 An cn hn.ps (l:Int) (rr:Int) (by omega) (by have:=HLR.out;omega) (by rw [hLn.pl];have:=HLR.out;omega) (by rw [hLn.pl];exact hLn.le)
     have HMC:=hid (optC_ptr (Kd.C_of_reads (hmr w13.drew (by
      have h:=Kd.reads_of_C (enc:=ptr) (h1:=fun _=>rfl) (d:=0) hLn.pc
      rw [← hLn.pl] at h
      exact h))))
     rw [Int.toNat_natCast,Int.toNat_natCast] at HMC
     have HPM:=hid (show ((hn.ps.take rr).drop l).length=n7 by rw [List.length_drop,List.length_take,hLn.pl];have:=HLR.out;have:=HKL.out;omega)
     rw [Int.toNat_natCast,Int.toNat_natCast,HPM.out,hLn.pl] at hmid
     rw [HPM.out] at HMC
     have HTB8:=hid (tabs_mid hLn.tb l rr)
     have x14:w13.cell? ⟨cdb,14,none⟩=some (.slice A7 n7 c7):=blk_cell P13.out.blk 14
     have x12:w13.cell? ⟨cdb,12,none⟩=some (.pointer (some ⟨hn.hp,0,none⟩)):=by
      rw [← HD.out.2.2]
      exact blk_cell P13.out.blk 12
     have k0:=hLn.c0
     clear hmr hmc hi0 hzz hLn
     refine wp_region_still_tail 14 (by kernel_rfl) (by kernel_rfl) ?_
     simp only [List.take_succ_cons,List.take_zero,List.drop_succ_cons,List.drop_zero]
     repeat still_step
     refine wpStill_nil ?_
     change wpList _ _ _ _ _ w13.drew
     refine Kd.R_copy (enc:=ptrV) (h1:=fun _=>rfl) none (w0:=w13) w11.heap.size rfl (.tmp 104) (.tmp 114) 124 124 140 rfl Tryz.underlying124 (by kernel_rfl) (.slice A7 n7 c7) (List.replicate n7 none) (((hn.ps.take rr).drop l).map some) Am n7 (cn - l) (fun _=>True) rfl rfl (Kd.R_drew HR13.out) HMC.out (below_drew (Below.refl _ w13)) HZ13.out ?_
     intro w14 ho hb14 hg14
     rw [copy_all (by rw [List.length_map];exact HPM.out)] at ho
     have HB14:=hid (optR_ptr ho)
     have P14:=hid (Ph.grown (wr:=w13.drew) (P13.out.below (below_drew (Below.refl _ _))) (Kd.R_drew HR13.out) HN6.out.1 HN6.out.2.1 hg14)
     have HT14:=hid (ptr_frame HRT13.out (fun q _ e=>hb14.block q (HTL6.out.1 q e)))
     have HS14:=hid (ptr_frame HRS13.out (fun q _ e=>hb14.block q (HTL6.out.2 q e)))
     have HQ114:=hid (kb_grown (wr:=w13.drew) (HQ113.out.below (below_drew (Below.refl _ _))) (Kd.R_drew HR13.out) hg14)
     have HQ214:=hid (kb_grown (wr:=w13.drew) (HQ213.out.below (below_drew (Below.refl _ _))) (Kd.R_drew HR13.out) hg14)
     have hb14s:=hid (show w13.heap.size≤w14.heap.size from hg14.size)
     clear ho hb14 hg14 x14 x12 k0 hmid HMC P13 HRT13 HRS13 HQ113 HQ213 HR13 HTB8
     obtain ⟨An,cn,hLn⟩:=lrow_of (P14.out.cor.st.lev k1 hn HEN.out) (by have:=HKn.out.1;omega)
     have HTB9:=hid (tabs_mid hLn.tb l rr)
     have HTBB:=hid (show ∀ W:World,Cor W S n0 sb ob mb lv cv hs cs o rgs run→Ls.Tabs W ((hn.ps.take rr).drop l) (botL hn.ts R1) from fun W hc=>by
      obtain ⟨A3,c3,hL3⟩:=lrow_of (hc.st.lev k1 hn HEN.out) (by have:=HKn.out.1;omega)
      rw [HBL.out]
      exact tabs_mid hL3.tb l rr)
     have HZ14:=hid (show w11.heap.size≤w14.heap.size from Nat.le_trans HZ13.out hb14s.out)
     rw [← HBL.out] at HTB9
     clear hLn hb14s
     generalize (hn.ps.take rr).drop l=bs at *
     have x14:w14.cell? ⟨cdb,14,none⟩=some (.slice A7 n7 c7):=blk_cell P14.out.blk 14
     go_upto_if 121 with (fail)
     obtain ⟨q0,hq0⟩ : ∃ q,q=((n7:Int) == 0):=⟨_,rfl⟩
     rw [← hq0]
     have HQ0:=hid hq0
     clear hq0
     have HPB:=hid (show bs.length≤10000 by have h:=HPM.out;have:=HK.out;omega)
     cases q0 with
     | true =>
       have hz:bs.length=0:=by have:=beq_iff_eq.1 HQ0.out.symm;have:=HPM.out;omega
       have hb0:botL hn.ts R1=[]:=List.length_eq_zero_iff.1 (by rw [← HTB9.out.1];exact hz)
       have HB0L:=hid hb0
       have HNX:=hid (show nextR R1 (botL hn.ts R1)=R1 by
        rw [hb0]
        rfl)
       have f14:=blk_frozen P14.out.blk 14
       clear hz hb0
       go_upto_region 20 with (first | ((with_reducible refine gate_dst (N:=123) rfl ?_);refine Kd.R_lit ptrK (w0:=w14) w14.heap.size 140 ?hg (N:=123) ?hd (xs:=([]:List Nat)) (inner:=[]) (ok:=fun _=>True) (okp:=fun _=>True) ?hr ?hp (fun _ hk=>hk) trivial (Below.refl _ _) (Nat.le_refl _) (by simp) ?_;(case hd=>rfl);(case hg=>rfl);(case hr=>first | (go_simp;done) | (go_simp;rfl));(case hp=>exact Reps.none _ _);intro v15 w15 ho hb hg_ hn_;have HR15:=hid ho;have HB15:=hid hb;clear hg_ hn_ ho hb;obtain ⟨A8,n8,c8,hv15⟩:=Nw.slice3 HR15.out;subst hv15;have f14:=blk_frozen ((HB15.out.block _ (blk_lt P14.out.blk)).trans P14.out.blk) 14;have x14:w15.cell? ⟨cdb,14,none⟩=some (.slice A7 n7 c7):=blk_cell ((HB15.out.block _ (blk_lt P14.out.blk)).trans P14.out.blk) 14))
       obtain ⟨w16,hw16⟩ : ∃ w16,w16=w15.setCell ⟨cdb,14,none⟩ (.slice A8 n8 c8):=⟨_,rfl⟩
       rw [← hw16]
       have P15:=P14.out.below HB15.out
       have P16:=hid (P15.set (c':={ d with sz:=t.bytes,a1:=some ⟨ka,0,none⟩,b1:=some ⟨kc,0,none⟩,r1:=R1,pA:=A6,pn:=n6,pc:=c6,qA:=A8,qn:=n8,qc:=c8 }) HN.out.1 14 (.slice A8 n8 c8) rfl)
       have HT16:=hid (row_nb (Kd.R_below HT14.out HB15.out) (nb_1 w15 cdb 14 (.slice A8 n8 c8)) P15.blk)
       have HS16:=hid (row_nb (Kd.R_below HS14.out HB15.out) (nb_1 w15 cdb 14 (.slice A8 n8 c8)) P15.blk)
       have HB16:=hid (row_nb HR15.out (nb_1 w15 cdb 14 (.slice A8 n8 c8)) P15.blk)
       have HQ116:=hid (kb_nb (HQ114.out.below HB15.out) (nb_1 w15 cdb 14 (.slice A8 n8 c8)) P15.blk)
       have HQ216:=hid (kb_nb (HQ214.out.below HB15.out) (nb_1 w15 cdb 14 (.slice A8 n8 c8)) P15.blk)
       have HBS:=hid (show n0≤w14.heap.size∧w11.heap.size≤w14.heap.size from ⟨P14.out.cor.nb,HZ14.out⟩)
       rw [← hw16] at P16 HT16 HS16 HB16 HQ116 HQ216
       clear hw16 P15 HR15 HB15 x14 f14 P14 HT14 HS14 HB14 HQ114 HQ214
       have y15:w16.cell? ⟨cdb,15,none⟩=some (.slice (some ⟨ka,0,none⟩) R1.lo.length R1.lo.length):=blk_cell P16.out.blk 15
       have y16:w16.cell? ⟨cdb,16,none⟩=some (.slice (some ⟨kc,0,none⟩) R1.hi.length R1.hi.length):=blk_cell P16.out.blk 16
       have y17:w16.cell? ⟨cdb,17,none⟩=some (.bool R1.inf):=blk_cell P16.out.blk 17
       have y18:w16.cell? ⟨cdb,18,none⟩=some (.int .i64 0):=blk_cell P16.out.blk 18
       have y19:w16.cell? ⟨cdb,19,none⟩=some (.slice d.a2 d.r2.lo.length d.r2.lo.length):=blk_cell P16.out.blk 19
       have y20:w16.cell? ⟨cdb,20,none⟩=some (.slice d.b2 d.r2.hi.length d.r2.hi.length):=blk_cell P16.out.blk 20
       have y21:w16.cell? ⟨cdb,21,none⟩=some (.bool d.r2.inf):=blk_cell P16.out.blk 21
       have y22:w16.cell? ⟨cdb,22,none⟩=some (.int .i64 0):=blk_cell P16.out.blk 22
       have f19:=blk_frozen P16.out.blk 19
       have f20:=blk_frozen P16.out.blk 20
       have f21:=blk_frozen P16.out.blk 21
       have f22:=blk_frozen P16.out.blk 22
       go_upto_region 21 with (fail)
       rw [wR2_eq w16 cdb (some ⟨ka,0,none⟩) (some ⟨kc,0,none⟩) R1]
       obtain ⟨wx,hwx⟩ : ∃ wx,wx=wR2 w16 cdb (some ⟨ka,0,none⟩) (some ⟨kc,0,none⟩) R1:=⟨_,rfl⟩
       rw [← hwx]
       have PX:=hid (P16.out.r2 HN.out.1 (some ⟨ka,0,none⟩) (some ⟨kc,0,none⟩) R1)
       have HTX:=hid (row_nb HT16.out (nb_r2 w16 cdb (some ⟨ka,0,none⟩) (some ⟨kc,0,none⟩) R1) P16.out.blk)
       have HSX:=hid (row_nb HS16.out (nb_r2 w16 cdb (some ⟨ka,0,none⟩) (some ⟨kc,0,none⟩) R1) P16.out.blk)
       have HBX:=hid (row_nb HB16.out (nb_r2 w16 cdb (some ⟨ka,0,none⟩) (some ⟨kc,0,none⟩) R1) P16.out.blk)
       have HX1:=hid (kb_nb HQ116.out (nb_r2 w16 cdb (some ⟨ka,0,none⟩) (some ⟨kc,0,none⟩) R1) P16.out.blk)
       have HX2:=hid (kb_nb HQ216.out (nb_r2 w16 cdb (some ⟨ka,0,none⟩) (some ⟨kc,0,none⟩) R1) P16.out.blk)
       rw [← hwx] at PX HTX HSX HBX HX1 HX2
       have HX3:=hid HX1.out
       have HX4:=hid HX2.out
       have HRN:=hid (show RgOk R1 from .inr HRO.out)
       have HPB:=hid (show ([]:List Nat).length≤10000 by simp)
       have HBT:=hid (show Ls.Tabs wx.drew [] (botL hn.ts R1) by
        rw [HB0L.out]
        exact ⟨rfl,fun i q u h1 _=>by cases h1⟩)
       clear hwx y15 y16 y17 y18 y19 y20 y21 y22 f19 f20 f21 f22 P16 HT16 HS16 HB16 HQ116 HQ216
       have HCO:=hid (show CdOk wx.drew n0 { d with sz:=t.bytes,a1:=some ⟨ka,0,none⟩,b1:=some ⟨kc,0,none⟩,r1:=R1,pA:=A6,pn:=n6,pc:=c6,qA:=A8,qn:=n8,qc:=c8,a2:=some ⟨ka,0,none⟩,b2:=some ⟨kc,0,none⟩,r2:=R1 } [p] [] [t] (botL hn.ts R1) hn.hp from
        ⟨HD.out.2.2,Kd.R_drew (Kd.R_lower HTX.out (Nat.le_trans H0.out.nb HW8.out)),Kd.R_drew (Kd.R_lower HBX.out HBS.out.1),fun q e1 e2=>by
         have h1:=HTL6.out.1 q e2
         have h2:=Kd.R_base HBX.out q e1
         have h3:=HBS.out.2
         omega,
        ⟨by simp,by have h:=HPB.out;simp only [List.length_cons,List.length_nil];omega⟩,tabs_one (HTW.out _ (PX.out.cor.below (below_drew (Below.refl _ _)))),HBT.out,HX1.out.below (below_drew (Below.refl _ _)),HX2.out.below (below_drew (Below.refl _ _)),HX3.out.below (below_drew (Below.refl _ _)),HX4.out.below (below_drew (Below.refl _ _)),.inr HRO.out,HRN.out⟩)
       have HOW:=hid (show OwnF { d with sz:=t.bytes,a1:=some ⟨ka,0,none⟩,b1:=some ⟨kc,0,none⟩,r1:=R1,pA:=A6,pn:=n6,pc:=c6,qA:=A8,qn:=n8,qc:=c8,a2:=some ⟨ka,0,none⟩,b2:=some ⟨kc,0,none⟩,r2:=R1 } w.heap.size from fun q hq=>by
        rcases hq with hq | hq
        ·exact Nat.le_trans HW8.out (Kd.R_base HTX.out q hq)
        ·exact Nat.le_trans HN6.out.2.1 (Nat.le_trans HBS.out.2 (Kd.R_base HBX.out q hq)))
       have K98:=hid (caa_calls (w:=wx.drew) (i:=i) (k:=k1) (PX.out.cor.below (below_drew (Below.refl _ _))) HCO.out HN.out.2.2.2.1 HN.out.2.2.2.2 (by
        show wx.cell? ⟨d.tl,3,none⟩=_
        rw [HD.out.2.1]
        exact blk_cell (PX.out.cor.st.lev i hi HEI.out).blk 3) (blk_cell (w:=wx) (PX.out.cor.st.lev k1 hn HEN.out).blk 3) HN.out.2.2.1 HR.out)
       refine wp_region_still_tail 7 (by kernel_rfl) (by kernel_rfl) ?_
       simp only [List.take_succ_cons,List.take_zero,List.drop_succ_cons,List.drop_zero]
       still_step
       still_step
       still_step
       still_step
       still_step
       still_step
       refine still_load rfl 129 (.tmp 138) rfl cdb rfl 129 (cdC { d with sz:=t.bytes,a1:=some ⟨ka,0,none⟩,b1:=some ⟨kc,0,none⟩,r1:=R1,pA:=A6,pn:=n6,pc:=c6,qA:=A8,qn:=n8,qc:=c8,a2:=some ⟨ka,0,none⟩,b2:=some ⟨kc,0,none⟩,r2:=R1 }) (0,0) _ PX.out.blk Tryz.underlying129 rfl info129 ?_
       refine wpStill_nil ?_
       change wpList _ _ _ _ _ wx.drew
       go_wp2_with fail
       refine K98.out.mono ?_
       intro e w' hp
       have HP:=hid hp
       clear hp K98
       have hp:=HP.out
       by_cases hh:(hitR rgs i R1 || hitR rgs k1 R1)=true
       ·rw [if_pos hh] at hp
        obtain ⟨rfl,hb⟩:=hp
        have hbx:=below_step (below_drew (Below.refl wx.heap.size wx)) hb
        have HCJ:=hid (HCU.out.trans (ch_skip (by rw [← HR1E.out,← HK1.out,HNX.out];exact hh)))
        have HM8:=hid (show MidI w w' S n0 sb ob mb lv cv hs cs o rgs run cdb c { d with sz:=t.bytes,a1:=some ⟨ka,0,none⟩,b1:=some ⟨kc,0,none⟩,r1:=R1,pA:=A6,pn:=n6,pc:=c6,qA:=A8,qn:=n8,qc:=c8,a2:=some ⟨ka,0,none⟩,b2:=some ⟨kc,0,none⟩,r2:=R1 } (some ⟨blk,0,none⟩) c5 qs from ⟨PX.out.below hbx,HD.out.1,HI.out.nl,Kd.R_below HSX.out hbx⟩)
        clear hh hb hbx HP
        go_wp2_with fail
        go_roundg (gk - 1)
        case measure=>exact HGK.out.1
        case rel=>exact ⟨j+1,{ d with sz:=t.bytes,a1:=some ⟨ka,0,none⟩,b1:=some ⟨kc,0,none⟩,r1:=R1,pA:=A6,pn:=n6,pc:=c6,qA:=A8,qn:=n8,qc:=c8,a2:=some ⟨ka,0,none⟩,b2:=some ⟨kc,0,none⟩,r2:=R1 },rfl,⟨HGK.out.2⟩,⟨HM8.out,HCJ.out⟩⟩
       ·rw [if_neg hh] at hp
        obtain ⟨rfl,hc,ht,hk⟩:=hp
        have HF:=hid (caa_true PX.out HCO.out HOW.out HD.out.1 HEN.out hc ht hk)
        have HCJ:=hid (show chMid rgs i hn.ts us=some ⟨[t],botL hn.ts R1,k1,R1,R1,enter2 rgs i k1 R1 R1⟩ by
         rw [HCU.out,ch_take (by rw [← HR1E.out,← HK1.out,HNX.out];exact Bool.eq_false_iff.2 hh),← HR1E.out,← HK1.out,HNX.out])
        clear hh hc ht hk HP
        go_wp2_with fail
        rw [HQ.out,HCJ.out]
        exact HF.out
     | false =>
       have hbn:¬ bs.length=0:=by have:=beq_eq_false_iff_ne.1 HQ0.out.symm;have:=HPM.out;omega
       obtain ⟨R2,hR2⟩ : ∃ R,R=rgOf (botL hn.ts R1):=⟨_,rfl⟩
       have HNX:=hid (show nextR R1 (botL hn.ts R1)=R2 by
        unfold nextR
        rw [if_neg,hR2]
        rw [← HTB9.out.1]
        exact hbn)
       have hll:(botL hn.ts R1).length=n7:=by rw [← HTB9.out.1];exact HPM.out
       have hkb:∀ u∈botL hn.ts R1,KLen u:=fun u hu=>HKn.out.2 u (by rw [HBL.out] at hu;exact List.mem_of_mem_take (List.mem_of_mem_drop hu))
       have HRN:=hid (show RgOk R2 by rw [hR2];exact rgOf_ok hkb)
       have K95:=hid (range_calls (w:=w14) (A:=A7) (c:=c7) (ts:=botL hn.ts R1) (trow_of HB14.out HTB9.out) (by rw [hll];have:=HK.out;omega) hkb)
       rw [hll,← hR2] at K95
       clear hR2 hll hbn hkb
       go_wp2_with fail
       refine K95.out.mono ?_
       rintro e w15 ⟨A2,B2,rfl,q1,q2,hb15⟩
       have hnw:n0≤w14.heap.size:=P14.out.cor.nb
       have HQ315:=hid (q1.mono (ok':=fun k=>n0≤k) (fun b hb2 _ _=>Nat.le_trans hnw hb2))
       have HQ415:=hid (q2.mono (ok':=fun k=>n0≤k) (fun b hb2 _ _=>Nat.le_trans hnw hb2))
       have P15:=hid (P14.out.below hb15)
       have HT15:=hid (Kd.R_below HT14.out hb15)
       have HS15:=hid (Kd.R_below HS14.out hb15)
       have HB15:=hid (Kd.R_below HB14.out hb15)
       have HQ115:=hid (HQ114.out.below hb15)
       have HQ215:=hid (HQ214.out.below hb15)
       clear q1 q2 hb15 hnw K95 x14 P14 HT14 HS14 HB14 HQ114 HQ214
       have y19:w15.cell? ⟨cdb,19,none⟩=some (.slice d.a2 d.r2.lo.length d.r2.lo.length):=blk_cell P15.out.blk 19
       have y20:w15.cell? ⟨cdb,20,none⟩=some (.slice d.b2 d.r2.hi.length d.r2.hi.length):=blk_cell P15.out.blk 20
       have y21:w15.cell? ⟨cdb,21,none⟩=some (.bool d.r2.inf):=blk_cell P15.out.blk 21
       have y22:w15.cell? ⟨cdb,22,none⟩=some (.int .i64 0):=blk_cell P15.out.blk 22
       have f19:=blk_frozen P15.out.blk 19
       have f20:=blk_frozen P15.out.blk 20
       have f21:=blk_frozen P15.out.blk 21
       have f22:=blk_frozen P15.out.blk 22
       simp only [rgC]
       go_upto_region 24 with (fail)
       rw [wR2_eq w15 cdb A2 B2 R2]
       obtain ⟨w16,hw16⟩ : ∃ w16,w16=wR2 w15 cdb A2 B2 R2:=⟨_,rfl⟩
       rw [← hw16]
       have P16:=hid (P15.out.r2 HN.out.1 A2 B2 R2)
       have HT16:=hid (row_nb HT15.out (nb_r2 w15 cdb A2 B2 R2) P15.out.blk)
       have HS16:=hid (row_nb HS15.out (nb_r2 w15 cdb A2 B2 R2) P15.out.blk)
       have HB16:=hid (row_nb HB15.out (nb_r2 w15 cdb A2 B2 R2) P15.out.blk)
       have HQ116:=hid (kb_nb HQ115.out (nb_r2 w15 cdb A2 B2 R2) P15.out.blk)
       have HQ216:=hid (kb_nb HQ215.out (nb_r2 w15 cdb A2 B2 R2) P15.out.blk)
       have HQ316:=hid (kb_nb HQ315.out (nb_r2 w15 cdb A2 B2 R2) P15.out.blk)
       have HQ416:=hid (kb_nb HQ415.out (nb_r2 w15 cdb A2 B2 R2) P15.out.blk)
       rw [← hw16] at P16 HT16 HS16 HB16 HQ116 HQ216 HQ316 HQ416
       clear hw16 y19 y20 y21 y22 f19 f20 f21 f22 P15 HT15 HS15 HB15 HQ115 HQ215 HQ315 HQ415
       obtain ⟨x2,hx2⟩ : ∃ x,x=hitR rgs k1 R2:=⟨_,rfl⟩
       have K96:=hid (hit_calls (w:=w16.drew) (i:=k1) (A2:=A2) (B2:=B2) (d:=R2) (P16.out.cor.below (below_drew (Below.refl _ _))) HN.out.2.2.2.2 HR.out ((HQ316.out.mono (fun _ _ _ _=>trivial)).below (below_drew (Below.refl _ _))) ((HQ416.out.mono (fun _ _ _ _=>trivial)).below (below_drew (Below.refl _ _))) HRN.out)
       rw [← hx2] at K96
       simp only [rgC] at K96
       have HXX:=hid hx2
       have y12:w16.cell? ⟨cdb,12,none⟩=some (.pointer (some ⟨hn.hp,0,none⟩)):=by
        rw [← HD.out.2.2]
        exact blk_cell P16.out.blk 12
       have y3:w16.cell? ⟨hn.hp,3,none⟩=some (.int .i64 (k1:Int)):=blk_cell (P16.out.cor.st.lev k1 hn HEN.out).blk 3
       have y19:w16.cell? ⟨cdb,19,none⟩=some (.slice A2 R2.lo.length R2.lo.length):=blk_cell P16.out.blk 19
       have y20:w16.cell? ⟨cdb,20,none⟩=some (.slice B2 R2.hi.length R2.hi.length):=blk_cell P16.out.blk 20
       have y21:w16.cell? ⟨cdb,21,none⟩=some (.bool R2.inf):=blk_cell P16.out.blk 21
       have y22:w16.cell? ⟨cdb,22,none⟩=some (.int .i64 0):=blk_cell P16.out.blk 22
       clear hx2
       refine wp_region_still_tail 14 (by kernel_rfl) (by kernel_rfl) ?_
       simp only [List.take_succ_cons,List.take_zero,List.drop_succ_cons,List.drop_zero]
       repeat still_step
       refine wpStill_nil ?_
       change wpList _ _ _ _ _ w16.drew
       go_wp2_with fail
       refine K96.out.mono ?_
       rintro e wx ⟨rfl,hbx8⟩
       have hb78:Below w16.heap.size w16 wx:=below_step (below_drew (Below.refl _ _)) hbx8
       have PX:=hid (P16.out.below hb78)
       have HTX:=hid (Kd.R_below HT16.out hb78)
       have HSX:=hid (Kd.R_below HS16.out hb78)
       have HBX:=hid (Kd.R_below HB16.out hb78)
       have HX1':=hid (HQ116.out.below hb78)
       have HX2:=hid (HQ216.out.below hb78)
       have HX3:=hid (HQ316.out.below hb78)
       have HX4:=hid (HQ416.out.below hb78)
       clear hbx8 hb78 P16 HT16 HS16 HB16 HQ116 HQ216 HQ316 HQ416 y12 y3 y19 y20 y21 y22 K96
       cases x2 with
       | true =>
        have HCJ:=hid (HCU.out.trans (ch_skip (by rw [← HR1E.out,← HK1.out,HNX.out,← HXX.out,Bool.or_true])))
        have HM8:=hid (show MidI w wx S n0 sb ob mb lv cv hs cs o rgs run cdb c { d with sz:=t.bytes,a1:=some ⟨ka,0,none⟩,b1:=some ⟨kc,0,none⟩,r1:=R1,pA:=A6,pn:=n6,pc:=c6,qA:=A7,qn:=n7,qc:=c7,a2:=A2,b2:=B2,r2:=R2 } (some ⟨blk,0,none⟩) c5 qs from ⟨PX.out,HD.out.1,HI.out.nl,HSX.out⟩)
        go_wp2_with fail
        go_roundg (gk - 1)
        case measure=>exact HGK.out.1
        case rel=>exact ⟨j+1,{ d with sz:=t.bytes,a1:=some ⟨ka,0,none⟩,b1:=some ⟨kc,0,none⟩,r1:=R1,pA:=A6,pn:=n6,pc:=c6,qA:=A7,qn:=n7,qc:=c7,a2:=A2,b2:=B2,r2:=R2 },rfl,⟨HGK.out.2⟩,⟨HM8.out,HCJ.out⟩⟩
       | false =>
        have HX1:=hid HX1'.out
        obtain ⟨An,cn,hLn⟩:=lrow_of (PX.out.cor.st.lev k1 hn HEN.out) (by have:=HKn.out.1;omega)
        have HBT:=hid (tabs_move (w1:=wx.drew) (HTBB.out wx PX.out.cor) (fun _ _ _ _ _=>rfl))
        have HBS:=hid (show n0≤w11.heap.size∧w11.heap.size≤w11.heap.size from ⟨HN6.out.1,Nat.le_refl _⟩)
        clear hLn
        go_upto_region 25 with (fail)
        have HCO:=hid (show CdOk wx.drew n0 { d with sz:=t.bytes,a1:=some ⟨ka,0,none⟩,b1:=some ⟨kc,0,none⟩,r1:=R1,pA:=A6,pn:=n6,pc:=c6,qA:=A7,qn:=n7,qc:=c7,a2:=A2,b2:=B2,r2:=R2 } [p] bs [t] (botL hn.ts R1) hn.hp from
         ⟨HD.out.2.2,Kd.R_drew (Kd.R_lower HTX.out (Nat.le_trans H0.out.nb HW8.out)),Kd.R_drew (Kd.R_lower HBX.out HBS.out.1),fun q e1 e2=>by
          have h1:=HTL6.out.1 q e2
          have h2:=Kd.R_base HBX.out q e1
          have h3:=HBS.out.2
          omega,
         ⟨by simp,by have h:=HPB.out;simp only [List.length_cons,List.length_nil];omega⟩,tabs_one (HTW.out _ (PX.out.cor.below (below_drew (Below.refl _ _)))),HBT.out,HX1.out.below (below_drew (Below.refl _ _)),HX2.out.below (below_drew (Below.refl _ _)),HX3.out.below (below_drew (Below.refl _ _)),HX4.out.below (below_drew (Below.refl _ _)),.inr HRO.out,HRN.out⟩)
        have HOW:=hid (show OwnF { d with sz:=t.bytes,a1:=some ⟨ka,0,none⟩,b1:=some ⟨kc,0,none⟩,r1:=R1,pA:=A6,pn:=n6,pc:=c6,qA:=A7,qn:=n7,qc:=c7,a2:=A2,b2:=B2,r2:=R2 } w.heap.size from fun q hq=>by
         rcases hq with hq | hq
         ·exact Nat.le_trans HW8.out (Kd.R_base HTX.out q hq)
         ·exact Nat.le_trans HN6.out.2.1 (Nat.le_trans HBS.out.2 (Kd.R_base HBX.out q hq)))
        have K98:=hid (caa_calls (w:=wx.drew) (i:=i) (k:=k1) (PX.out.cor.below (below_drew (Below.refl _ _))) HCO.out HN.out.2.2.2.1 HN.out.2.2.2.2 (by
         show wx.cell? ⟨d.tl,3,none⟩=_
         rw [HD.out.2.1]
         exact blk_cell (PX.out.cor.st.lev i hi HEI.out).blk 3) (blk_cell (w:=wx) (PX.out.cor.st.lev k1 hn HEN.out).blk 3) HN.out.2.2.1 HR.out)
        refine wp_region_still_tail 7 (by kernel_rfl) (by kernel_rfl) ?_
        simp only [List.take_succ_cons,List.take_zero,List.drop_succ_cons,List.drop_zero]
        still_step
        still_step
        still_step
        still_step
        still_step
        still_step
        refine still_load rfl 129 (.tmp 170) rfl cdb rfl 129 (cdC { d with sz:=t.bytes,a1:=some ⟨ka,0,none⟩,b1:=some ⟨kc,0,none⟩,r1:=R1,pA:=A6,pn:=n6,pc:=c6,qA:=A7,qn:=n7,qc:=c7,a2:=A2,b2:=B2,r2:=R2 }) (0,0) _ PX.out.blk Tryz.underlying129 rfl info129 ?_
        refine wpStill_nil ?_
        change wpList _ _ _ _ _ wx.drew
        go_wp2_with fail
        refine K98.out.mono ?_
        intro e w' hp
        have HP:=hid hp
        clear hp K98
        have hp:=HP.out
        by_cases hh:(hitR rgs i R1 || hitR rgs k1 R2)=true
        ·rw [if_pos hh] at hp
         obtain ⟨rfl,hb⟩:=hp
         have hbx:=below_step (below_drew (Below.refl wx.heap.size wx)) hb
         have HCJ:=hid (HCU.out.trans (ch_skip (by rw [← HR1E.out,← HK1.out,HNX.out];exact hh)))
         have HM8:=hid (show MidI w w' S n0 sb ob mb lv cv hs cs o rgs run cdb c { d with sz:=t.bytes,a1:=some ⟨ka,0,none⟩,b1:=some ⟨kc,0,none⟩,r1:=R1,pA:=A6,pn:=n6,pc:=c6,qA:=A7,qn:=n7,qc:=c7,a2:=A2,b2:=B2,r2:=R2 } (some ⟨blk,0,none⟩) c5 qs from ⟨PX.out.below hbx,HD.out.1,HI.out.nl,Kd.R_below HSX.out hbx⟩)
         clear hh hb hbx HP
         go_wp2_with fail
         go_roundg (gk - 1)
         case measure=>exact HGK.out.1
         case rel=>exact ⟨j+1,{ d with sz:=t.bytes,a1:=some ⟨ka,0,none⟩,b1:=some ⟨kc,0,none⟩,r1:=R1,pA:=A6,pn:=n6,pc:=c6,qA:=A7,qn:=n7,qc:=c7,a2:=A2,b2:=B2,r2:=R2 },rfl,⟨HGK.out.2⟩,⟨HM8.out,HCJ.out⟩⟩
        ·rw [if_neg hh] at hp
         obtain ⟨rfl,hc,ht,hk⟩:=hp
         have HF:=hid (caa_true PX.out HCO.out HOW.out HD.out.1 HEN.out hc ht hk)
         have HCJ:=hid (show chMid rgs i hn.ts us=some ⟨[t],botL hn.ts R1,k1,R1,R2,enter2 rgs i k1 R1 R2⟩ by
          rw [HCU.out,ch_take (by rw [← HR1E.out,← HK1.out,HNX.out];exact Bool.eq_false_iff.2 hh),← HR1E.out,← HK1.out,HNX.out])
         clear hh hc ht hk HP
         go_wp2_with fail
         rw [HQ.out,HCJ.out]
         exact HF.out
   ·have d1:decide ((j:Int)<(qs.length:Int))=false:=decide_eq_false (by omega)
    have HCE:=hid (show chMid rgs i hn.ts us=none by
     rw [HCH.out,List.drop_of_length_le (by rw [HUL.out];omega)]
     rfl)
    go_wp2_with fail
    rw [HQ.out,HCE.out]
    exact ⟨(show KeepC w wr (some cdb) from ⟨HI.out.ph.bel,fun b arr t hb _ hG=>HI.out.ph.far b (blk_lt hb) (fun e=>hG (by rw [e]))⟩).toF rfl,rfl,HI.out.ph.cor⟩
end Go.Proofs.YtnineoajmgneiaaGreat.Rg
namespace Go.Proofs.YtnineoajmgneiaaGreat.Rg
open Go.RowKit YtnineoajmgneiaaGreatW YtnineoajmgneiaaGreatW.PrintWords YtnineoajmgneiaaGreatW.PrintLast YtnineoajmgneiaaGreatW.PrintMore Fr L Ky Tm Lm It Lk Lo Lw Pk Fl Bd Tp Nw
open YtnineoajmgneiaaGreat.Ls (tAt)
/-! ### keys -/
theorem k_le {p q:List UInt8} (h:cmpK p q≤0):cmpU (uk p) (uk q)≤0:=by
 unfold cmpK at h
 unfold uk
 by_cases e:cmpU (p.take (p.length - 8)) (q.take (q.length - 8))=0
 ·omega
 ·rw [if_pos e] at h
  exact h
theorem k_lt {p q:List UInt8} (h:cmpU (uk p) (uk q)<0):cmpK p q<0:=by
 unfold cmpK
 unfold uk at h
 rw [if_pos (by omega)]
 exact h
theorem u_le_lt {p q r:List UInt8} (h:cmpU p q≤0) (k:cmpU q r<0):cmpU p r<0:=by
 by_cases e:cmpU p q=0
 ·rw [Oo.cmpU_zero e];exact k
 ·exact Oo.cmpU_trans (by omega) k
theorem u_lt_le {p q r:List UInt8} (h:cmpU p q<0) (k:cmpU q r≤0):cmpU p r<0:=by
 by_cases e:cmpU q r=0
 ·rw [← Oo.cmpU_zero e];exact h
 ·exact Oo.cmpU_trans h (by omega)
theorem u_le_le {p q r:List UInt8} (h:cmpU p q≤0) (k:cmpU q r≤0):cmpU p r≤0:=by
 by_cases e:cmpU p q=0
 ·rw [Oo.cmpU_zero e];exact k
 ·exact Int.le_of_lt (u_lt_le (by omega) k)
theorem full_max:∀ (x:List UInt8) (n:Nat),x.length≤n→0≤cmpU (List.replicate n 255) x
 | [],0,_=>by simp [cmpU]
 | [],n+1,_=>by simp [List.replicate_succ,cmpU]
 | b :: t,0,h=>by simp at h
 | b :: t,n+1,h=>by
  rw [List.replicate_succ,cmpU]
  have hb:¬ (255:UInt8)<b:=fun k=>by
   have:=UInt8.lt_iff_toNat_lt.1 k
   have h2:=b.toNat_lt
   have:(255:UInt8).toNat=255:=rfl
   omega
  rw [if_neg hb]
  split
  ·exact full_max t n (by simpa using h)
  ·omega
theorem f8_full:f8=List.replicate 8 255:=by decide +kernel
/-- Tables in the order of their keys, no key in two. -/
structure Lvl (ts:List Tb):Prop where
 one:∀ t∈ts,cmpU (uk t.small) (uk t.big)≤0
 two:∀ a b,a<b→b<ts.length→cmpU (uk (tAt ts a).big) (uk (tAt ts b).small)<0
theorem lvl_mono {ts:List Tb} (h:Lvl ts) (hk:∀ t∈ts,KLen t) {x y:List UInt8} (hxy:cmpU (uk x) (uk y)≤0):Mono ts ⟨uk x++z8,uk y++f8,false⟩∧ltN ts ⟨uk x++z8,uk y++f8,false⟩≤rtN ts ⟨uk x++z8,uk y++f8,false⟩:=by
 have ez:uk (uk x++z8)=uk x:=take_z x
 have ef:uk (uk y++f8)=uk y:=take_f y
 have mem:∀ a,a<ts.length→tAt ts a∈ts:=fun a ha=>It.tAt_mem ha
 refine ⟨⟨fun a b hab hb h1=>?_,fun a b hab hb h1=>?_⟩,List.countP_mono_left (fun i hi h1=>?_)⟩
 ·by_cases e:a=b
  ·rw [← e];exact h1
  ·have h2:=k_le (of_decide_eq_true h1)
   rw [ez] at h2
   exact decide_eq_true (Int.le_of_lt (k_lt (by rw [ez];exact u_le_lt h2 (u_lt_le (h.two a b (by omega) hb) (h.one _ (mem b hb))))))
 ·by_cases e:a=b
  ·rw [← e];exact h1
  ·have h2:=k_le (Int.le_of_lt (of_decide_eq_true h1))
   rw [ef] at h2
   exact decide_eq_true (k_lt (by rw [ef];exact u_le_lt h2 (u_le_lt (h.one _ (mem a (by omega))) (h.two a b (by omega) hb))))
 ·have hl:=List.mem_range.1 hi
  have h1:¬ cmpK (uk x++z8) (tAt ts i).big≤0:=fun k=>by simp [k] at h1
  show (!decide (cmpK (uk y++f8) (tAt ts i).small<0))=true
  rw [Bool.not_eq_true']
  refine decide_eq_false (fun k=>?_)
  have h2:cmpU (uk (tAt ts i).big) (uk x)≤0:=by
   have:=k_le (p:=(tAt ts i).big) (q:=uk x++z8) (by rw [Oo.cmpK_neg (uk x++z8) (tAt ts i).big];omega)
   rwa [ez] at this
  have h3:=k_le (Int.le_of_lt k)
  rw [ef] at h3
  have h4:=h.one _ (mem i hl)
  by_cases e:cmpU (uk y) (uk (tAt ts i).small)=0
  ·unfold cmpK at k
   have e2:cmpU ((uk y++f8).take ((uk y++f8).length - 8)) ((tAt ts i).small.take ((tAt ts i).small.length - 8))=0:=by rw [take_f];exact e
   rw [if_neg (by rw [e2];omega),drop_f,f8_full] at k
   have:=full_max ((tAt ts i).small.drop ((tAt ts i).small.length - 8)) 8 (by rw [List.length_drop];omega)
   omega
  ·have h5:=u_le_lt hxy (show cmpU (uk y) (uk (tAt ts i).small)<0 by omega)
   have h6:=u_lt_le h5 (u_le_le h4 h2)
   rw [cmpU_self] at h6
   omega
theorem lvl_tab {ts:List Tb} (h:Lvl ts) (hk:∀ t∈ts,KLen t) {t:Tb} (ht:cmpU (uk t.small) (uk t.big)≤0):Mono ts (rgOf [t])∧ltN ts (rgOf [t])≤rtN ts (rgOf [t]):=lvl_mono h hk ht
/-! ### of levels that are told of -/
theorem uk_key (s:ByteArray) (v:Int):uk (Tm.keyOf s v)=s.toList:=Oo.take_key s v
theorem tok_le {t:S68} (h:TOk t):cmpU (uk (tbOf t).small) (uk (tbOf t).big)≤0:=by
 show cmpU (uk (Tm.keyOf t.f1 t.f2)) (uk (Tm.keyOf t.f3 t.f4))≤0
 rw [uk_key,uk_key]
 rcases h.o with h | h
 ·rw [Oo.less_cmp] at h
  exact Int.le_of_lt (of_decide_eq_true h)
 ·rw [h,cmpU_self]
  omega
theorem adj_lt {i:Nat} {l:List S68} (hi:i≠0) (h:RowOk i l):∀ (d a:Nat),(hb:a+d+1<l.length)→cmpU (l[a]'(by omega)).f3.toList (l[a+d+1]).f1.toList<0
 | 0,a,hb=>by
  have:=(h.adj a _ _ (List.getElem?_eq_getElem (by omega)) (List.getElem?_eq_getElem hb)).2 hi
  rw [Oo.less_cmp] at this
  exact of_decide_eq_true this
 | d+1,a,hb=>by
  have h1:=adj_lt hi h d a (by omega)
  have h2:=le_lt (h.tab _ (List.getElem_mem (show a+d+1<l.length by omega))).o ((h.adj (a+d+1) _ _ (List.getElem?_eq_getElem (by omega)) (List.getElem?_eq_getElem hb)).2 hi)
  exact Oo.cmpU_trans h1 h2
theorem row_lvl {i:Nat} {l:List S68} (hi:i≠0) (h:RowOk i l):Lvl (l.map tbOf):=by
 refine ⟨fun t ht=>?_,fun a b hab hb=>?_⟩
 ·obtain ⟨t0,h0,rfl⟩:=List.mem_map.1 ht
  exact tok_le (h.tab t0 h0)
 ·rw [List.length_map] at hb
  obtain ⟨d,rfl⟩ : ∃ d,b=a+d+1:=⟨b - a - 1,by omega⟩
  rw [tat (show a<l.length by omega),tat hb]
  show cmpU (uk (Tm.keyOf _ _)) (uk (Tm.keyOf _ _))<0
  rw [uk_key,uk_key]
  exact adj_lt hi h d a hb
theorem flt (tn:Int) (h:0≤tn∧tn≤1000):FloatH tn (dq tn 10):=
 ⟨floatOfInt FloatKind.f64 tn,fun W=>run_convert_int_float W 3 62 .i64 .f64 tn (by kernel_rfl) (by kernel_rfl),fun W=>by
  have h:=run_dq (a:=tn) (b:=10) (by omega) (by omega) W
  rw [ten] at h
  exact h⟩
section
variable {ls:List (List S68)} {m a b c d e f g:Int}
theorem xs_at (i:Nat):((ls.map (·.map tbOf)).getD i [])=(ls.getD i []).map tbOf:=by
 by_cases h:i<ls.length
 ·simp [h]
 ·rw [List.getD_eq_getElem?_getD,List.getD_eq_getElem?_getD,List.getElem?_eq_none (by simpa using h),List.getElem?_eq_none (by omega)]
  rfl
theorem ok_row (h:LvOk ls m a b c d e f g) {i:Nat} (hi:i<ls.length):RowOk i (ls.getD i []):=h.row i _ (by simp [hi])
theorem xs_lvl (h:LvOk ls m a b c d e f g) {i:Nat} (h0:i≠0) (hi:i<ls.length):Lvl ((ls.map (·.map tbOf)).getD i []):=by
 rw [xs_at]
 exact row_lvl h0 (ok_row h hi)
theorem xs_tab (h:LvOk ls m a b c d e f g) (hts:∀ l∈ls,∀ t∈l,t.f1.size≤2000000∧t.f3.size≤2000000):∀ l∈ls.map (·.map tbOf),l.length≤10000∧∀ t∈l,KLen t∧Fit t:=by
 intro l hl
 obtain ⟨l0,h0,rfl⟩:=List.mem_map.1 hl
 refine ⟨by rw [List.length_map];have:=(ok_mem h h0).1;omega,fun t ht=>?_⟩
 obtain ⟨t0,h1,rfl⟩:=List.mem_map.1 ht
 have hi:=ok_in h hts l0 h0 t0 h1
 have k:=(tb_ok hi).1
 exact ⟨⟨⟨k.s0,k.s1⟩,k.b0,k.b1⟩,(tb_ok hi).2⟩
/-- A choice at a level in the middle. -/
theorem mid_step_ok (h:LvOk ls m a b c d e f g) (hts:∀ l∈ls,∀ t∈l,t.f1.size≤2000000∧t.f3.size≤2000000) {s:S42} (h0:s.f0=0) (h1:1≤s.f1) (h2:s.f1.toNat+1<ls.length) (h3:0≤s.f3∧s.f3≤1000) {n:Nat} {st:PS} (hpi:PInv (ls.map (·.map tbOf)).length n st) (hn2:n≤200000):StepH (ls.map (·.map tbOf)) ⟨m,a,b,c,d,e,f,g⟩ (Fm (ls.map (·.map tbOf))) Dn s st:=by
 have hxl:(ls.map (·.map tbOf)).length=ls.length:=List.length_map ..
 have hxt:=xs_tab h hts
 have hkl:∀ l∈ls.map (·.map tbOf),l.length≤10000∧∀ t∈l,KLen t:=fun l hl=>⟨(hxt l hl).1,fun t ht=>((hxt l hl).2 t ht).1⟩
 refine ⟨⟨dq s.f3 10,flt s.f3 h3,fun _=>?_⟩,fun hn=>absurd h0 hn,fun x hx=>md_ok hx (by rw [hxl];exact h2) hkl,fun n st' hp hd=>by cases hd⟩
 intro gh w S n0 lp sb ob mb lv cv hs cs hhs hlen hsta
 have hl:hs.length=ls.length:=by rw [← hxl,← hhs,List.length_map]
 obtain ⟨i,hi⟩ : ∃ i:Nat,s.f1=(i:Int):=⟨s.f1.toNat,by omega⟩
 have hit:s.f1.toNat=i:=by omega
 rw [hit] at h2 ⊢
 rw [hi]
 have tot:(hs.map fun x=>total x.ts)=(ls.map (·.map tbOf)).map total:=by rw [← hhs,List.map_map];rfl
 obtain ⟨hI,eI⟩ : ∃ x,hs[i]? = some x:=⟨_,List.getElem?_eq_getElem (by omega)⟩
 obtain ⟨hn,en⟩ : ∃ x,hs[i+1]? = some x:=⟨_,List.getElem?_eq_getElem (by omega)⟩
 have eIt:hI.ts=(ls.map (·.map tbOf)).getD i []:=by rw [← hhs];simp [eI]
 have ent:hn.ts=(ls.map (·.map tbOf)).getD (i+1) []:=by rw [← hhs];simp [en]
 have b4:=Tg.bl4_range ⟨m,a,b,c,d,e,f,g⟩ (hs.map fun x=>total x.ts) (by rw [List.length_map];omega)
 rw [List.length_map] at b4
 have hsz:∀ x∈hs,x.ts.length≤10000∧∀ t∈x.ts,KLen t:=fun x hx=>hkl _ (by rw [← hhs];exact List.mem_map_of_mem hx)
 have hF:Fm (ls.map (·.map tbOf)) st s=chMd (ls.map (·.map tbOf)) st.rgs i:=by unfold Fm;rw [hit]
 have hm:=h.opt.m
 have ha:=h.opt.a
 have hd:=h.opt.d
 have hll:=h.len
 have hI0:i≠0:=by omega
 refine fill_calls (n:=(Tg.bl4 ⟨m,a,b,c,d,e,f,g⟩ (hs.map fun x=>total x.ts)).toNat) hsta (by have:=hpi.ds;omega) eI (by omega) (by omega) (by omega) (by show 2≤a;omega) (by show 0≤d;omega) (by show m=_;omega) (by omega) (by omega) (by rw [tot];exact sizes_ok (fun l hl=>⟨by have:=(hxt l hl).1;omega,fun t ht=>((hxt l hl).2 t ht).2⟩)) hsz hlen (fun x hx=>by rw [hF] at hx;rw [hhs];exact md_ok hx (by omega) hkl) (fun x hx _=>?_) ?_
 ·rw [hF] at hx
  obtain ⟨t,ht,rfl,_,_⟩:=mid_some hx
  have ht:=sorted_mem (verLt_sw _ _) ht
  have m1:=getD_mem ht
  have m2:(ls.map (·.map tbOf)).getD (i+1) []∈ls.map (·.map tbOf):=by
   rw [xs_at]
   exact List.mem_map_of_mem (by simp [h2])
  have i1:IvR (rgOf [t]):=iv_of (by simp) (fun u hu=>by rw [List.mem_singleton.1 hu];exact (hkl _ m1).2 t ht)
  exact ⟨i1,iv_next i1 (fun u hu=>(hkl _ m2).2 u (botL_sub hu))⟩
 ·intro w2 N cdb tc fc tA fA nx hnx hcor hblk hcd hN hfl
  have hnn:nx=hn:=by
   unfold nxt at hnx
   rw [if_neg hI0,if_neg (by omega),en] at hnx
   injection hnx with hnx
   exact hnx.symm
  subst hnn
  rw [if_neg hI0,hF]
  have hch:chMd (ls.map (·.map tbOf)) st.rgs i=chMid st.rgs i nx.ts (sorted (verLt hI.ts) hI.ts):=by unfold chMd;rw [eIt,ent]
  rw [hch]
  refine (mid_calls hcor hblk hcd eI en rfl rfl hsz hlen (by omega) (by show m=_;omega) (hpi.ok (by omega)) (fun t ht=>?_)).mono (fun e w' hp=>hp.mono (fun b hb=>by rw [hb];exact hN))
  rw [eIt] at ht
  rw [ent]
  exact lvl_tab (xs_lvl h (by omega) h2) (fun u hu=>(hkl _ (getD_mem hu)).2 u hu) ((xs_lvl h hI0 (by omega)).one t ht)
set_option maxRecDepth 10000 in
/-- Steps at levels in the middle. -/
theorem mid_runs {w:World} {A0 As:Option Addr} {c0 cs0:Nat} {ss:List S42} (hC:Kd.C (Kd.slice 68 k68) w A0 ls.length ls) (hS:Kd.C k42 w As ss.length ss) (hc0:ls.length≤c0) (h:LvOk ls m a b c d e f g) (hts:∀ l∈ls,∀ t∈l,t.f1.size≤2000000∧t.f3.size≤2000000) (hss:ss.length≤200000) (hs:∀ s∈ss,s.f0=0∧1≤s.f1∧s.f1.toNat+1<ls.length∧0≤s.f3∧s.f3≤1000) :
  Calls Tryz.prog 55 #[.slice A0 ls.length c0,.agg #[.int .i64 m,.int .i64 a,.int .i64 b,.int .i64 c,.int .i64 d,.int .i64 e,.int .i64 f,.int .i64 g],.slice As ss.length cs0] w fun e w'=>∃ v,e=.returned v∧Kd.R k46 46 w' w.heap.size (fun _=>True) v (runF (Fm (ls.map (·.map tbOf))) Dn ls (st0 ls.length) ss)∧Below w.heap.size w w':=by
 have hxl:(ls.map (·.map tbOf)).length=ls.length:=List.length_map ..
 have hxt:=xs_tab h hts
 have hl:=ok_len h
 have:=runs_calls (F:=Fm (ls.map (·.map tbOf))) (D:=Dn) (cs0:=cs0) (m:=m) (a:=a) (b:=b) (c:=c) (d:=d) (e:=e) (f:=f) (g:=g) rfl hC hS hc0 (by rw [hxl];exact h.len.symm) (by omega) hl.1 (fun l hl=>by have:=(ok_mem h hl).1;omega) (ok_in h hts) (ok_ord h) (Lo.u64_in h.opt.g) (fun l hl t ht=>((hxt l hl).2 t ht).1) hss (fun j s hs2 hp=>by
  obtain ⟨g1,g2,g3,g4⟩:=hs s (List.mem_of_getElem? hs2)
  exact mid_step_ok h hts g1 g2 g3 g4 hp (by have:=(List.getElem?_eq_some_iff.1 hs2).1;omega))
 rw [hxl] at this
 exact this
end
end Go.Proofs.YtnineoajmgneiaaGreat.Rg
namespace Go.Proofs.YtnineoajmgneiaaGreat.Lo
open Go.RowKit YtnineoajmgneiaaGreatW YtnineoajmgneiaaGreatW.PrintWords YtnineoajmgneiaaGreatW.PrintLast YtnineoajmgneiaaGreatW.PrintMore Fr L Ky Tm Lm It Tg Tp Tl Lk
theorem fits8 (t:S68) (h:t.f1.size≤2000000∧t.f3.size≤2000000):laws_zzFits8.f t.f0 t.f1 t.f2 t.f3 t.f4 t.f5 t.f6 t.f7 t.f8=some true:=by
 unfold laws_zzFits8.f
 rw [if_neg (by omega),if_neg (by omega)]
theorem fits7_at {l:List S68} (hl:l.length≤2000000) (h:∀ t∈l,t.f1.size≤2000000∧t.f3.size≤2000000):∀ (m j k:Nat),j+m=l.length→m+1≤k→laws_zzFits7.l0 k l (l.length:Int) (j:Int)=some true
 | 0,j,k,hj,hk=>by
  obtain ⟨k,rfl⟩ : ∃ q,k=q+1:=⟨k - 1,by omega⟩
  rw [laws_zzFits7.l0,if_neg (by omega)]
 | m+1,j,k,hj,hk=>by
  obtain ⟨k,rfl⟩ : ∃ q,k=q+1:=⟨k - 1,by omega⟩
  have hjl:j<l.length:=by omega
  have e:rd_T68 l (j:Int)=l[j]:=by simp [rd_T68,hjl]
  rw [laws_zzFits7.l0,if_pos (by omega),if_pos (by omega),if_pos (by omega),e,fits8 _ (h _ (List.getElem_mem hjl)),Option.bind_some,if_pos rfl,show wrap64 ((j:Int)+1)=((j+1:Nat):Int) by unfold wrap64;omega]
  exact fits7_at hl h m (j+1) k (by omega) (by omega)
theorem fits7 {l:List S68} (hl:l.length≤2000000) (h:∀ t∈l,t.f1.size≤2000000∧t.f3.size≤2000000) {k:Nat} (hk:2000001≤k):laws_zzFits7.f k l=some true:=by
 unfold laws_zzFits7.f
 rw [if_neg (by omega)]
 exact fits7_at hl h l.length 0 k (by omega) (by omega)
theorem fits6_at {ls:List (List S68)} (hl:ls.length≤2000000) (h1:∀ l∈ls,l.length≤2000000) (h:∀ l∈ls,∀ t∈l,t.f1.size≤2000000∧t.f3.size≤2000000):∀ (m j k:Nat),j+m=ls.length→m+2000002≤k→laws_zzFits6.l0 k ls (ls.length:Int) (j:Int)=some true
 | 0,j,k,hj,hk=>by
  obtain ⟨k,rfl⟩ : ∃ q,k=q+1:=⟨k - 1,by omega⟩
  rw [laws_zzFits6.l0,if_neg (by omega)]
 | m+1,j,k,hj,hk=>by
  obtain ⟨k,rfl⟩ : ∃ q,k=q+1:=⟨k - 1,by omega⟩
  have hjl:j<ls.length:=by omega
  have e:rd_L3 ls (j:Int)=ls[j]:=by simp [rd_L3,hjl]
  rw [laws_zzFits6.l0,if_pos (by omega),if_pos (by omega),if_pos (by omega),e,fits7 (h1 _ (List.getElem_mem hjl)) (h _ (List.getElem_mem hjl)) (by omega),Option.bind_some,if_pos rfl,show wrap64 ((j:Int)+1)=((j+1:Nat):Int) by unfold wrap64;omega]
  exact fits6_at hl h1 h m (j+1) k (by omega) (by omega)
theorem fits6 {ls:List (List S68)} (hl:ls.length≤2000000) (h1:∀ l∈ls,l.length≤2000000) (h:∀ l∈ls,∀ t∈l,t.f1.size≤2000000∧t.f3.size≤2000000):laws_zzFits6.f (ls.length+2000002) ls=some true:=by
 unfold laws_zzFits6.f
 rw [if_neg (by omega)]
 exact fits6_at hl h1 h ls.length 0 _ (by omega) (by omega)
end Go.Proofs.YtnineoajmgneiaaGreat.Lo
namespace Go.Proofs.YtnineoajmgneiaaGreat.Rs
open Go.ChangeShapes Go.WideShapes Go.ChangeAt Go.RowKit Go.Deep YtnineoajmgneiaaGreatW.PrintWords L
theorem six_sum (l:List S42):(l.map fun _:S42=>6).sum=6*l.length:=by
 induction l with
 | nil=>rfl
 | cons a t ih =>
  simp only [List.map_cons,List.sum_cons,ih,List.length_cons]
  omega
theorem open_steps {H:Type} {enc:TypeId × Value→H} {w:World} {A:Option Addr} {len cap:Nat} {d:DataW H} {p:List MemPlace} (h:DataW.Trod enc Tryz.prog w 0 (fun _=>true) true 44 (.slice A len cap) d p) :
  ∃ l:List S42,l.length=len∧len≤cap∧Kd.C k42 w A len l∧6*len≤Rows.uptoBulk d:=by
 obtain ⟨fuel,hf⟩:=h
 rcases Rw.open_slice_fields Tryz.underlying44 Tryz.underlying42 (by kernel_rfl) (by kernel_rfl) hf with ⟨hcs,hd⟩ | ⟨a,len',cap',m,D,Pl,hcs,hb,hl,hm,hmm,hx,hi⟩
 ·simp [Value.cells] at hcs
  obtain ⟨rfl,rfl,rfl⟩:=hcs
  exact ⟨[],rfl,Nat.le_refl _,⟨rfl,by omega,fun h=>absurd h (by omega)⟩,by omega⟩
 ·simp [Value.cells] at hcs
  obtain ⟨rfl,rfl,rfl⟩:=hcs
  simp only [if_true] at hmm
  obtain rfl:=hmm
  have hel:∀ i,i<len→∃ s:S42,(∃ c:List Value,c.length=5∧k42.K w s c∧∀ j u,c[j]? = some u→w.cell? (a.add (i*5+j))=some u)∧6≤Rows.uptoBulk (D i):=by
   intro i hil
   obtain ⟨ys,n,hD,hP,hlen,hfld⟩:=hi i (by omega)
   obtain ⟨v0,y0,c0,hy0,t0⟩:=hfld 0 _ rfl
   obtain ⟨v1,y1,c1,hy1,t1⟩:=hfld 1 _ rfl
   obtain ⟨v2,y2,c2,hy2,t2⟩:=hfld 2 _ rfl
   obtain ⟨v3,y3,c3,hy3,t3⟩:=hfld 3 _ rfl
   obtain ⟨v4,y4,c4,hy4,t4⟩:=hfld 4 _ rfl
   obtain ⟨n0,e0,_,_⟩:=DataW.trod_int Tryz.underlying3 t0
   obtain ⟨n1,e1,_,_⟩:=DataW.trod_int Tryz.underlying3 t1
   obtain ⟨n2,e2,_,_⟩:=DataW.trod_int Tryz.underlying3 t2
   obtain ⟨n3,e3,_,_⟩:=DataW.trod_int Tryz.underlying3 t3
   obtain ⟨n4,e4,_,_⟩:=DataW.trod_int Tryz.underlying3 t4
   injection e0 with e0
   subst e0
   injection e1 with e1
   subst e1
   injection e2 with e2
   subst e2
   injection e3 with e3
   subst e3
   injection e4 with e4
   subst e4
   refine ⟨⟨n0,n1,n2,n3,n4⟩,⟨_,rfl,k42_mk w ⟨n0,n1,n2,n3,n4⟩,fun j u hj=>?_⟩,?_⟩
   ·match j,hj with
    | 0,hj=>simp at hj;rw [← hj];exact c0
    | 1,hj=>simp at hj;rw [← hj];exact c1
    | 2,hj=>simp at hj;rw [← hj];exact c2
    | 3,hj=>simp at hj;rw [← hj];exact c3
    | 4,hj=>simp at hj;rw [← hj];exact c4
    | j+5,hj=>simp at hj
   ·have h5:ys.length=5:=hlen
    rw [hD]
    match ys,h5 with
    | [z0,z1,z2,z3,z4],_ =>
     have:=Rw.one_le z0.1
     have:=Rw.one_le z1.1
     have:=Rw.one_le z2.1
     have:=Rw.one_le z3.1
     have:=Rw.one_le z4.1
     simp only [List.map_cons,List.map_nil,Rows.uptoBulk,Rows.uptoBulkAll]
     omega
  obtain ⟨l,hll,hlp⟩:=Rw.list_of len hel
  refine ⟨l,hll,hl,⟨hll,by simp [maxLen] at hm;omega,fun _=>⟨a,rfl,fun j s hj=>(hlp j s hj).1⟩⟩,?_⟩
  have hx1:d=.slice ((List.range len).map D) ((List.range (_ - len)).map fun j=>D (len+j)):=congrArg Prod.fst hx
  rw [hx1]
  simp only [Rows.uptoBulk]
  have h6:=Rw.sum_bulk (fun _:S42=>6) D len l hll (fun i s hs=>(hlp i s hs).2)
  have h7:=six_sum l
  omega
end Go.Proofs.YtnineoajmgneiaaGreat.Rs
namespace Go.Proofs.YtnineoajmgneiaaGreat.Gl
open Go
set_option maxRecDepth 100000
theorem and2 {a b:Bool} (h:a=true) (k:b=true):(a && b)=true:=by rw [h,k];rfl
noncomputable abbrev P:Program:=Tryz.pinned.checked.prog
/-- The words of the program's name, as numbers of letters. -/
def w1:List Char:=([104,97,114,110,101,115,115]:List Nat).map Char.ofNat
def w2:List Char:=([100,98,54,50,52,48,53,98,48,48,52,50,98,97,57,50,52,102,57,57,52,54,49,101,55,53,100,98,49,50,99,55,98,53,98,102,100,52,99,99,101,100,49,51,98,100,53,50,54,54,102,57,55,50,52,57,50,53,101,54,100,97,51,101]:List Nat).map Char.ofNat
def w3:List Char:=([99,117,116]:List Nat).map Char.ofNat
def rest:List Char:=([97,116,32,108,111,111,112,46,101,120,97,109,112,108,101,47,112,117,98,45,108,101,118,101,108,115,97,110,100,109,97,114,107,115,47,108,97,119,115,46,70,110,84,97,114,103,101,116,70,105,108,101,115,32,108,111,111,112,46,101,120,97,109,112,108,101,47,112,117,98,45,108,101,118,101,108,115,97,110,100,109,97,114,107,115,47,108,97,119,115,46,70,110,84,97,114,103,101,116,83,105,122,101,115,32,108,111,111,112,46,101,120,97,109,112,108,101,47,112,117,98,45,108,101,118,101,108,115,97,110,100,109,97,114,107,115,47,108,97,119,115,46,70,110,84,97,114,103,101,116,84,97,98,108,101,115,32,108,111,111,112,46,101,120,97,109,112,108,101,47,112,117,98,45,108,101,118,101,108,115,97,110,100,109,97,114,107,115,47,108,97,119,115,46,70,110,70,105,108,108,65,103,97,105,110,32,108,111,111,112,46,101,120,97,109,112,108,101,47,112,117,98,45,108,101,118,101,108,115,97,110,100,109,97,114,107,115,47,108,97,119,115,46,70,110,70,105,108,108,65,112,97,114,116,32,108,111,111,112,46,101,120,97,109,112,108,101,47,112,117,98,45,108,101,118,101,108,115,97,110,100,109,97,114,107,115,47,108,97,119,115,46,70,110,70,105,108,108,68,111,110,101,32,108,111,111,112,46,101,120,97,109,112,108,101,47,112,117,98,45,108,101,118,101,108,115,97,110,100,109,97,114,107,115,47,108,97,119,115,46,70,110,70,105,108,108,69,109,112,116,121,32,108,111,111,112,46,101,120,97,109,112,108,101,47,112,117,98,45,108,101,118,101,108,115,97,110,100,109,97,114,107,115,47,108,97,119,115,46,70,110,70,105,108,108,70,114,101,101,32,108,111,111,112,46,101,120,97,109,112,108,101,47,112,117,98,45,108,101,118,101,108,115,97,110,100,109,97,114,107,115,47,108,97,119,115,46,70,110,70,105,108,108,77,101,101,116,115,32,108,111,111,112,46,101,120,97,109,112,108,101,47,112,117,98,45,108,101,118,101,108,115,97,110,100,109,97,114,107,115,47,108,97,119,115,46,70,110,70,105,108,108,78,101,120,116,32,108,111,111,112,46,101,120,97,109,112,108,101,47,112,117,98,45,108,101,118,101,108,115,97,110,100,109,97,114,107,115,47,108,97,119,115,46,70,110,70,105,108,108,78,117,109,98,101,114,115,32,108,111,111,112,46,101,120,97,109,112,108,101,47,112,117,98,45,108,101,118,101,108,115,97,110,100,109,97,114,107,115,47,108,97,119,115,46,70,110,70,105,108,108,79,110,101,32,108,111,111,112,46,101,120,97,109,112,108,101,47,112,117,98,45,108,101,118,101,108,115,97,110,100,109,97,114,107,115,47,108,97,119,115,46,70,110,70,105,108,108,79,117,116,32,108,111,111,112,46,101,120,97,109,112,108,101,47,112,117,98,45,108,101,118,101,108,115,97,110,100,109,97,114,107,115,47,108,97,119,115,46,70,110,70,105,108,108,82,117,110,115,32,108,111,111,112,46,101,120,97,109,112,108,101,47,112,117,98,45,108,101,118,101,108,115,97,110,100,109,97,114,107,115,47,108,97,119,115,46,70,110,70,105,108,108,84,97,98,108,101,115,32,108,111,111,112,46,101,120,97,109,112,108,101,47,112,117,98,45,108,101,118,101,108,115,97,110,100,109,97,114,107,115,47,108,97,119,115,46,70,110,80,105,99,107,76,101,118,101,108,115,32,108,111,111,112,46,101,120,97,109,112,108,101,47,112,117,98,45,108,101,118,101,108,115,97,110,100,109,97,114,107,115,47,108,97,119,115,46,70,110,80,105,99,107,79,114,100,101,114,32,108,111,111,112,46,101,120,97,109,112,108,101,47,112,117,98,45,108,101,118,101,108,115,97,110,100,109,97,114,107,115,47,108,97,119,115,46,70,110,80,105,99,107,90,101,114,111,32,108,111,111,112,46,101,120,97,109,112,108,101,47,112,117,98,45,108,101,118,101,108,115,97,110,100,109,97,114,107,115,47,108,97,119,115,46,70,110,84,97,114,103,101,116,66,97,115,101]:List Nat).map Char.ofNat
theorem bytes:P.initOrder.toByteArray=List.utf8Encode (w1++Char.ofNat 32 :: (w2++Char.ofNat 32 :: (w3++Char.ofNat 32 :: rest))):=by kernel_rfl
theorem letters:P.initOrder.toList=w1++Char.ofNat 32 :: (w2++Char.ofNat 32 :: (w3++Char.ofNat 32 :: rest)):=by
 rw [String.toByteArray_inj.1 (bytes.trans (String.toByteArray_ofList).symm),String.toList_ofList]
theorem word:∀ (l r:List Char),(∀ c∈l,c≠Char.ofNat 32)→wordsSigns (l++Char.ofNat 32 :: r)=l :: wordsSigns r
 | [],r,_=>rfl
 | c :: l,r,h=>by
  have ih:=word l r (fun x hx=>h x (List.mem_cons_of_mem _ hx))
  rw [List.cons_append,wordsSigns,ih]
  exact h c List.mem_cons_self
theorem words:wordsSigns P.initOrder.toList=w1 :: w2 :: w3 :: wordsSigns rest:=by
 rw [letters,word _ _ (by decide),word _ _ (by decide),word _ _ (by decide)]
theorem behind:behindMainWord (wordsSigns P.initOrder.toList) = "cut".toList :: wordsSigns rest:=by
 have e1:((w1 == "harness".toList || w1 == "ownmain".toList) && isSumSigns w2)=true:=by kernel_rfl
 have e3:w3 = "cut".toList:=by kernel_rfl
 rw [words,behindMainWord,if_pos e1,e3]
theorem b1:(laidOutB P)=true:=by kernel_rfl
theorem b2:(mapsRowed P)=true:=by kernel_rfl
theorem b6:((P.stops == []))=true:=by kernel_rfl
theorem b8:((P.stopKnobs == []))=true:=by kernel_rfl
theorem b22:((Rows.fnTargetFilesUptoRow.plainKeys == P.plainKeys))=true:=by kernel_rfl
theorem b24:(P.stopsHeard)=true:=by kernel_rfl
theorem l1:P.laysLater=false:=by kernel_rfl
theorem l2:P.bearsReflect=false:=by kernel_rfl
theorem l3:P.doorRows=[]:=by kernel_rfl
theorem strip (R:List (List Char)):stripLifts liftWords ("cut".toList :: R)=([], "cut".toList :: R):=by kernel_rfl
theorem enter_of (Q:Program) (R:List (List Char)) (h:behindMainWord (wordsSigns Q.initOrder.toList) = "cut".toList :: R) (k1:Q.laysLater=false) (k2:Q.bearsReflect=false) (k3:Q.doorRows=[]):Q.mayEnter=true:=by
 unfold Program.mayEnter Program.doorFits
 rw [h,k1,k2,k3]
 simp only [strip]
 kernel_rfl
theorem final_of (Q:Program) (R:List (List Char)) (h:behindMainWord (wordsSigns Q.initOrder.toList) = "cut".toList :: R):Q.liftsFinal=false:=by
 unfold Program.liftsFinal Program.headLifts
 rw [h]
 simp only [strip]
 kernel_rfl
theorem make_of (Q:Program) (R:List (List Char)) (h:behindMainWord (wordsSigns Q.initOrder.toList) = "cut".toList :: R):Q.make=some .cut:=by
 unfold Program.make Program.headLifts
 rw [h]
 kernel_rfl
theorem b25:(P.mayEnter)=true:=enter_of P _ behind l1 l2 l3
theorem b26:((Rows.fnTargetFilesUptoRow.lifted == P.liftsFinal))=true:=by rw [final_of P _ behind];kernel_rfl
theorem b27:((P.make == some Rows.fnTargetFilesUptoRow.make))=true:=by rw [make_of P _ behind];kernel_rfl
end Go.Proofs.YtnineoajmgneiaaGreat.Gl
