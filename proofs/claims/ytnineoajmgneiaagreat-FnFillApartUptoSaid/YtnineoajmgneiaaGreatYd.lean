/- Printed: what the statements ask of tables and options. Printed: the wanted sizes; steps. Targets: the plain law. Running, isLastLevel, ParseKey. Ranges of keys: isEmpty, infRange. Ranges of keys: overlapsWith. Ranges of keys: equals, infRange. Ranges of keys: infRange. numTables, delSize. numbers: the tables' numbers as a row. Ranges of keys as elements of a row; the range of tables. getKeyRange: the range of tables. extend: a range grown by another one. The order of keys, plain. LevelsOk: what it says of levels; the walk. -/
import Derived.Test.YtnineoajmgneiaaGreatYa
import Derived.Test.YtnineoajmgneiaaGreatYc
import Derived.Test.YtnineoajmgneiaaGreatYb
set_option linter.unusedSimpArgs false
set_option linter.unusedVariables false
namespace Go.Proofs.YtnineoajmgneiaaGreat.L
open Go.RowKit Go.Proofs.YtnineoajmgneiaaGreatW.PrintWords Go.Proofs.YtnineoajmgneiaaGreatW.PrintLast Go.Proofs.YtnineoajmgneiaaGreatW.PrintMore
attribute [local go_sem] max2_int min2_int max_two min_two max_three min_three max_four min_four   -- for this text's walks alone
/-! ### laws_zzFits8: function 59 -/
def laws_zzFits8.f (a0_0:Int) (a0_1:ByteArray) (a0_2:Int) (a0_3:ByteArray) (a0_4:Int) (a0_5:Int) (a0_6:Int) (a0_7:Int) (a0_8:Int):Option (Bool):=if (a0_1.size:Int) > 2147483647 then (some false) else (if (a0_3.size:Int) > 2147483647 then (some false) else (some true))
set_option maxHeartbeats 8000000 in
set_option maxRecDepth 100000 in
theorem laws_zzFits8.calls (a0_0:Int) (a0_1:ByteArray) (a0_2:Int) (a0_3:ByteArray) (a0_4:Int) (a0_5:Int) (a0_6:Int) (a0_7:Int) (a0_8:Int) (r:Bool) (w:World) (h:laws_zzFits8.f a0_0 a0_1 a0_2 a0_3 a0_4 a0_5 a0_6 a0_7 a0_8=some r) :
  Calls Tryz.prog 59 #[.agg #[.int .i64 a0_0,.string a0_1,.int .i64 a0_2,.string a0_3,.int .i64 a0_4,.int .i64 a0_5,.int .i64 a0_6,.int .i64 a0_7,.int .i64 a0_8]] w fun e w'=>e=.returned (.bool r)∧Below w.heap.size w w':=by
 have hu68:=Tryz.underlying68
 have HB:=Aside0.mk (Below.refl w.heap.size w)
 have H:(if (a0_1.size:Int) > 2147483647 then (some false) else (if (a0_3.size:Int) > 2147483647 then (some false) else (some true)))=some r:=h
 clear h
 by_cases c2:(a0_1.size:Int) > 2147483647
 ·rw [if_pos c2] at H
  have c2b0:decide (2147483647<(a0_1.size:Int))=true:=decide_eq_true c2
  have c2b1:decide (2147483647<a0_1.size)=true:=decide_eq_true (by omega)
  clear c2
  obtain rfl:=Option.some.inj H
  go_enter Tryz.func59,Tryz.ntmps59
  go_wp2_with (first | ((with_reducible refine gate_dst (N:=1) rfl ?_);refine box_event ?hg (N:=1) ?hd (cs:=#[.int .i64 a0_0,.string a0_1,.int .i64 a0_2,.string a0_3,.int .i64 a0_4,.int .i64 a0_5,.int .i64 a0_6,.int .i64 a0_7,.int .i64 a0_8]) (t:=68) ?hr ?_;(case hd=>rfl);(case hg=>rfl);(case hr=>first | (go_simp;done) | (go_simp;rfl));intro gb101 hg w3 hbox hb;have n0_:=Aside0.mk (below_step (by repeat (first | (with_reducible first | exact HB.out | apply below_alloc | apply pw_below_drewN | apply below_drew1) | exact HB.out)) hb);have n1_:=Aside0.mk (hbox);have n2_:=Aside0.mk ((by rw [hg];exact (below_size (by repeat (first | (with_reducible first | exact HB.out | apply below_alloc | apply pw_below_drewN | apply below_drew1) | exact HB.out))):w.heap.size≤gb101));have n3_:=Aside0.mk ((by rw [hg];exact (below_size (by repeat (first | (with_reducible first | exact HB.out | apply below_alloc | apply pw_below_drewN | apply below_drew1) | exact HB.out))):w.heap.size≤gb101));clear HB;have HB:=n0_;have BK101:=n1_;have GW101:=n2_;have GE101:=n3_;clear n0_ n1_ n2_ n3_;clear hb hbox hg;have hcz4_0:w3.cell? ⟨gb101,0,none⟩=some (.int .i64 a0_0):=(blk_cell BK101.out 0).trans rfl;have hcz4_1:w3.cell? ⟨gb101,1,none⟩=some (.string a0_1):=(blk_cell BK101.out 1).trans rfl;have hcz4_2:w3.cell? ⟨gb101,2,none⟩=some (.int .i64 a0_2):=(blk_cell BK101.out 2).trans rfl;have hcz4_3:w3.cell? ⟨gb101,3,none⟩=some (.string a0_3):=(blk_cell BK101.out 3).trans rfl;have hcz4_4:w3.cell? ⟨gb101,4,none⟩=some (.int .i64 a0_4):=(blk_cell BK101.out 4).trans rfl;have hcz4_5:w3.cell? ⟨gb101,5,none⟩=some (.int .i64 a0_5):=(blk_cell BK101.out 5).trans rfl;have hcz4_6:w3.cell? ⟨gb101,6,none⟩=some (.int .i64 a0_6):=(blk_cell BK101.out 6).trans rfl;have hcz4_7:w3.cell? ⟨gb101,7,none⟩=some (.int .i64 a0_7):=(blk_cell BK101.out 7).trans rfl;have hcz4_8:w3.cell? ⟨gb101,8,none⟩=some (.int .i64 a0_8):=(blk_cell BK101.out 8).trans rfl;have hfz4_0:=blk_frozen BK101.out 0;have hfz4_1:=blk_frozen BK101.out 1;have hfz4_2:=blk_frozen BK101.out 2;have hfz4_3:=blk_frozen BK101.out 3;have hfz4_4:=blk_frozen BK101.out 4;have hfz4_5:=blk_frozen BK101.out 5;have hfz4_6:=blk_frozen BK101.out 6;have hfz4_7:=blk_frozen BK101.out 7;have hfz4_8:=blk_frozen BK101.out 8))
  go_ret
  exact ⟨by first | rfl | (simp [errW_none,errW_some]<;>rfl) | (simp [*,errW_none,errW_some]<;>rfl),by repeat (first | (with_reducible first | exact HB.out | apply below_alloc | apply pw_below_drewN | apply below_drew1 | refine below_set ?_ GE101.out) | exact HB.out)⟩
 ·rw [if_neg c2] at H
  have c2b0:decide (2147483647<(a0_1.size:Int))=false:=decide_eq_false c2
  have c2b1:decide (2147483647<a0_1.size)=false:=decide_eq_false (by omega)
  clear c2
  by_cases c5:(a0_3.size:Int) > 2147483647
  ·rw [if_pos c5] at H
   have c5b0:decide (2147483647<(a0_3.size:Int))=true:=decide_eq_true c5
   have c5b1:decide (2147483647<a0_3.size)=true:=decide_eq_true (by omega)
   clear c5
   obtain rfl:=Option.some.inj H
   go_enter Tryz.func59,Tryz.ntmps59
   go_wp2_with (first | ((with_reducible refine gate_dst (N:=1) rfl ?_);refine box_event ?hg (N:=1) ?hd (cs:=#[.int .i64 a0_0,.string a0_1,.int .i64 a0_2,.string a0_3,.int .i64 a0_4,.int .i64 a0_5,.int .i64 a0_6,.int .i64 a0_7,.int .i64 a0_8]) (t:=68) ?hr ?_;(case hd=>rfl);(case hg=>rfl);(case hr=>first | (go_simp;done) | (go_simp;rfl));intro gb101 hg w6 hbox hb;have n0_:=Aside0.mk (below_step (by repeat (first | (with_reducible first | exact HB.out | apply below_alloc | apply pw_below_drewN | apply below_drew1) | exact HB.out)) hb);have n1_:=Aside0.mk (hbox);have n2_:=Aside0.mk ((by rw [hg];exact (below_size (by repeat (first | (with_reducible first | exact HB.out | apply below_alloc | apply pw_below_drewN | apply below_drew1) | exact HB.out))):w.heap.size≤gb101));have n3_:=Aside0.mk ((by rw [hg];exact (below_size (by repeat (first | (with_reducible first | exact HB.out | apply below_alloc | apply pw_below_drewN | apply below_drew1) | exact HB.out))):w.heap.size≤gb101));clear HB;have HB:=n0_;have BK101:=n1_;have GW101:=n2_;have GE101:=n3_;clear n0_ n1_ n2_ n3_;clear hb hbox hg;have hcz7_0:w6.cell? ⟨gb101,0,none⟩=some (.int .i64 a0_0):=(blk_cell BK101.out 0).trans rfl;have hcz7_1:w6.cell? ⟨gb101,1,none⟩=some (.string a0_1):=(blk_cell BK101.out 1).trans rfl;have hcz7_2:w6.cell? ⟨gb101,2,none⟩=some (.int .i64 a0_2):=(blk_cell BK101.out 2).trans rfl;have hcz7_3:w6.cell? ⟨gb101,3,none⟩=some (.string a0_3):=(blk_cell BK101.out 3).trans rfl;have hcz7_4:w6.cell? ⟨gb101,4,none⟩=some (.int .i64 a0_4):=(blk_cell BK101.out 4).trans rfl;have hcz7_5:w6.cell? ⟨gb101,5,none⟩=some (.int .i64 a0_5):=(blk_cell BK101.out 5).trans rfl;have hcz7_6:w6.cell? ⟨gb101,6,none⟩=some (.int .i64 a0_6):=(blk_cell BK101.out 6).trans rfl;have hcz7_7:w6.cell? ⟨gb101,7,none⟩=some (.int .i64 a0_7):=(blk_cell BK101.out 7).trans rfl;have hcz7_8:w6.cell? ⟨gb101,8,none⟩=some (.int .i64 a0_8):=(blk_cell BK101.out 8).trans rfl;have hfz7_0:=blk_frozen BK101.out 0;have hfz7_1:=blk_frozen BK101.out 1;have hfz7_2:=blk_frozen BK101.out 2;have hfz7_3:=blk_frozen BK101.out 3;have hfz7_4:=blk_frozen BK101.out 4;have hfz7_5:=blk_frozen BK101.out 5;have hfz7_6:=blk_frozen BK101.out 6;have hfz7_7:=blk_frozen BK101.out 7;have hfz7_8:=blk_frozen BK101.out 8))
   go_ret
   exact ⟨by first | rfl | (simp [errW_none,errW_some]<;>rfl) | (simp [*,errW_none,errW_some]<;>rfl),by repeat (first | (with_reducible first | exact HB.out | apply below_alloc | apply pw_below_drewN | apply below_drew1 | refine below_set ?_ GE101.out) | exact HB.out)⟩
  ·rw [if_neg c5] at H
   have c5b0:decide (2147483647<(a0_3.size:Int))=false:=decide_eq_false c5
   have c5b1:decide (2147483647<a0_3.size)=false:=decide_eq_false (by omega)
   clear c5
   obtain rfl:=Option.some.inj H
   go_enter Tryz.func59,Tryz.ntmps59
   go_wp2_with (first | ((with_reducible refine gate_dst (N:=1) rfl ?_);refine box_event ?hg (N:=1) ?hd (cs:=#[.int .i64 a0_0,.string a0_1,.int .i64 a0_2,.string a0_3,.int .i64 a0_4,.int .i64 a0_5,.int .i64 a0_6,.int .i64 a0_7,.int .i64 a0_8]) (t:=68) ?hr ?_;(case hd=>rfl);(case hg=>rfl);(case hr=>first | (go_simp;done) | (go_simp;rfl));intro gb101 hg w8 hbox hb;have n0_:=Aside0.mk (below_step (by repeat (first | (with_reducible first | exact HB.out | apply below_alloc | apply pw_below_drewN | apply below_drew1) | exact HB.out)) hb);have n1_:=Aside0.mk (hbox);have n2_:=Aside0.mk ((by rw [hg];exact (below_size (by repeat (first | (with_reducible first | exact HB.out | apply below_alloc | apply pw_below_drewN | apply below_drew1) | exact HB.out))):w.heap.size≤gb101));have n3_:=Aside0.mk ((by rw [hg];exact (below_size (by repeat (first | (with_reducible first | exact HB.out | apply below_alloc | apply pw_below_drewN | apply below_drew1) | exact HB.out))):w.heap.size≤gb101));clear HB;have HB:=n0_;have BK101:=n1_;have GW101:=n2_;have GE101:=n3_;clear n0_ n1_ n2_ n3_;clear hb hbox hg;have hcz9_0:w8.cell? ⟨gb101,0,none⟩=some (.int .i64 a0_0):=(blk_cell BK101.out 0).trans rfl;have hcz9_1:w8.cell? ⟨gb101,1,none⟩=some (.string a0_1):=(blk_cell BK101.out 1).trans rfl;have hcz9_2:w8.cell? ⟨gb101,2,none⟩=some (.int .i64 a0_2):=(blk_cell BK101.out 2).trans rfl;have hcz9_3:w8.cell? ⟨gb101,3,none⟩=some (.string a0_3):=(blk_cell BK101.out 3).trans rfl;have hcz9_4:w8.cell? ⟨gb101,4,none⟩=some (.int .i64 a0_4):=(blk_cell BK101.out 4).trans rfl;have hcz9_5:w8.cell? ⟨gb101,5,none⟩=some (.int .i64 a0_5):=(blk_cell BK101.out 5).trans rfl;have hcz9_6:w8.cell? ⟨gb101,6,none⟩=some (.int .i64 a0_6):=(blk_cell BK101.out 6).trans rfl;have hcz9_7:w8.cell? ⟨gb101,7,none⟩=some (.int .i64 a0_7):=(blk_cell BK101.out 7).trans rfl;have hcz9_8:w8.cell? ⟨gb101,8,none⟩=some (.int .i64 a0_8):=(blk_cell BK101.out 8).trans rfl;have hfz9_0:=blk_frozen BK101.out 0;have hfz9_1:=blk_frozen BK101.out 1;have hfz9_2:=blk_frozen BK101.out 2;have hfz9_3:=blk_frozen BK101.out 3;have hfz9_4:=blk_frozen BK101.out 4;have hfz9_5:=blk_frozen BK101.out 5;have hfz9_6:=blk_frozen BK101.out 6;have hfz9_7:=blk_frozen BK101.out 7;have hfz9_8:=blk_frozen BK101.out 8))
   go_ret
   exact ⟨by first | rfl | (simp [errW_none,errW_some]<;>rfl) | (simp [*,errW_none,errW_some]<;>rfl),by repeat (first | (with_reducible first | exact HB.out | apply below_alloc | apply pw_below_drewN | apply below_drew1 | refine below_set ?_ GE101.out) | exact HB.out)⟩
/-! ### laws_zzFits7: function 29 -/
def laws_zzFits7.l0:Nat→List (S68)→Int→Int→Option (Bool)
 | 0,_,_,_=>none
 | k+1,x8,x9,x10=>if x10<x9 then (if 0≤x10 then (if x10<(x8.length:Int) then ((laws_zzFits8.f ((rd_T68 x8 x10).f0) ((rd_T68 x8 x10).f1) ((rd_T68 x8 x10).f2) ((rd_T68 x8 x10).f3) ((rd_T68 x8 x10).f4) ((rd_T68 x8 x10).f5) ((rd_T68 x8 x10).f6) ((rd_T68 x8 x10).f7) ((rd_T68 x8 x10).f8)).bind fun t104=>(if t104=true then (laws_zzFits7.l0 k x8 x9 (wrap64 (x10+1))) else (some false))) else (none)) else (none)) else (some true)
def laws_zzFits7.f (k:Nat) (l0:List (S68)):Option (Bool):=if (l0.length:Int) > 2147483647 then (some false) else (laws_zzFits7.l0 k l0 (l0.length:Int) 0)
set_option maxHeartbeats 8000000 in
set_option maxRecDepth 100000 in
theorem laws_zzFits7.calls (k:Nat) (A0:Option Addr) (c0:Nat) (l0:List (S68)) (r:Bool) (w:World) (hr0:Kd.C k68 w A0 l0.length l0) (hc0:l0.length≤c0) (h:laws_zzFits7.f k l0=some r) :
  Calls Tryz.prog 29 #[.slice A0 l0.length c0] w fun e w'=>e=.returned (.bool r)∧Below w.heap.size w w':=by
 have hu68:=Tryz.underlying68
 have HR0:=Aside0.mk hr0
 have HC0:=Aside0.mk hc0
 clear hr0 hc0
 have HB:=Aside0.mk (Below.refl w.heap.size w)
 have H:(if (l0.length:Int) > 2147483647 then (some false) else (laws_zzFits7.l0 k l0 (l0.length:Int) 0))=some r:=h
 clear h
 by_cases c2:(l0.length:Int) > 2147483647
 ·rw [if_pos c2] at H
  have c2b0:decide (2147483647<(l0.length:Int))=true:=decide_eq_true c2
  have c2b1:decide (2147483647<l0.length)=true:=decide_eq_true (by omega)
  clear c2
  obtain rfl:=Option.some.inj H
  go_enter Tryz.func29,Tryz.ntmps29
  go_wp2
  go_ret
  exact ⟨by first | rfl | (simp [errW_none,errW_some]<;>rfl) | (simp [*,errW_none,errW_some]<;>rfl),by repeat (first | (with_reducible first | exact HB.out | apply below_alloc | apply pw_below_drewN | apply below_drew1) | exact HB.out)⟩
 ·rw [if_neg c2] at H
  have c2b0:decide (2147483647<(l0.length:Int))=false:=decide_eq_false c2
  have c2b1:decide (2147483647<l0.length)=false:=decide_eq_false (by omega)
  clear c2
  have H':=Aside0.mk H
  clear H
  go_enter Tryz.func29,Tryz.ntmps29
  go_wp2
  go_loopg [10] k (fun kq v10 w'=>∃ (x10_1:Int),v10=.int .i64 x10_1∧Aside0 (laws_zzFits7.l0 kq l0 (l0.length:Int) x10_1=some r)∧Aside0 (kq≤k)∧Aside0 (Below w.heap.size w w'))
  case atStart=>exact ⟨(0),(by first | rfl | (simp;done) | (simp [*];done)),H',⟨Nat.le_refl _⟩,⟨by repeat (first | (with_reducible first | exact HB.out | apply below_alloc | apply pw_below_drewN | apply below_drew1) | exact HB.out)⟩⟩
  case round =>
   clear H'
   try clear c2
   try clear c2b0
   try clear c2b1
   try clear p2
   obtain ⟨x10_1,rfl,HA,HK1,HB⟩:=hrel
   cases gk with
   | zero=>exact absurd HA.out (by simp [laws_zzFits7.l0])
   | succ k1 =>
    have H:=HA.out
    clear HA
    simp only [laws_zzFits7.l0] at H
    by_cases c3:x10_1<(l0.length:Int)
    ·rw [if_pos c3] at H
     have c3b0:decide (x10_1<(l0.length:Int))=true:=decide_eq_true c3
     clear c3
     by_cases c4:0≤x10_1
     ·rw [if_pos c4] at H
      have c4b0:decide (0≤x10_1)=true:=decide_eq_true c4
      clear c4
      by_cases c5:x10_1<(l0.length:Int)
      ·rw [if_pos c5] at H
       have c5b0:decide (x10_1<(l0.length:Int))=true:=decide_eq_true c5
       clear c5
       replace H:=Option.bind_eq_some_iff.mp H
       obtain ⟨t104,A60,H⟩:=H
       replace H:(if t104=true then (laws_zzFits7.l0 k1 l0 (l0.length:Int) (wrap64 (x10_1+1))) else (some false))=some r:=H
       have A6:=Aside0.mk A60
       clear A60
       by_cases c7:t104=true
       ·subst c7
        have H1:(laws_zzFits7.l0 k1 l0 (l0.length:Int) (wrap64 (x10_1+1)))=some r:=by rw [if_pos rfl] at H;exact H
        clear H
        have H:=H1
        clear H1
        have H':=Aside0.mk H
        clear H
        have p102:0≤(x10_1:Int):=of_decide_eq_true (by first | (with_reducible assumption) | assumption)
        have q102:x10_1<(l0.length:Int):=of_decide_eq_true (by first | (with_reducible assumption) | assumption)
        obtain ⟨ad102,e102,hx102_0,hx102_1,hx102_2,hx102_3,hx102_4,hx102_5,hx102_6,hx102_7,hx102_8⟩:=at_T68 HR0.out x10_1 p102 q102
        cases e102
        replace hx102_0:=(HB.out.cell (World.block_lt_of_cell? w _ hx102_0)).trans hx102_0
        replace hx102_1:=(HB.out.cell (World.block_lt_of_cell? w _ hx102_1)).trans hx102_1
        replace hx102_2:=(HB.out.cell (World.block_lt_of_cell? w _ hx102_2)).trans hx102_2
        replace hx102_3:=(HB.out.cell (World.block_lt_of_cell? w _ hx102_3)).trans hx102_3
        replace hx102_4:=(HB.out.cell (World.block_lt_of_cell? w _ hx102_4)).trans hx102_4
        replace hx102_5:=(HB.out.cell (World.block_lt_of_cell? w _ hx102_5)).trans hx102_5
        replace hx102_6:=(HB.out.cell (World.block_lt_of_cell? w _ hx102_6)).trans hx102_6
        replace hx102_7:=(HB.out.cell (World.block_lt_of_cell? w _ hx102_7)).trans hx102_7
        replace hx102_8:=(HB.out.cell (World.block_lt_of_cell? w _ hx102_8)).trans hx102_8
        replace p102:=eq_true p102
        replace q102:=eq_true q102
        go_wp2_with (first | ((with_reducible refine gate_dst (N:=4) rfl ?_);refine box_event ?hg (N:=4) ?hd (cs:=#[.int .i64 0,.string (⟨#[]⟩ : ByteArray),.int .i64 0,.string (⟨#[]⟩ : ByteArray),.int .i64 0,.int .i64 0,.int .i64 0,.int .i64 0,.int .i64 0]) (t:=68) ?hr ?_;(case hd=>rfl);(case hg=>rfl);(case hr=>first | (go_simp;done) | (go_simp;rfl));intro gb103 hg w8 hbox hb;have n0_:=Aside0.mk (below_step (by repeat (first | (with_reducible first | exact HB.out | apply below_alloc | apply pw_below_drewN | apply below_drew1) | exact HB.out)) hb);have n1_:=Aside0.mk (hbox);have n2_:=Aside0.mk ((by rw [hg];exact (below_size (by repeat (first | (with_reducible first | exact HB.out | apply below_alloc | apply pw_below_drewN | apply below_drew1) | exact HB.out))):w.heap.size≤gb103));have n3_:=Aside0.mk ((by rw [hg];exact (below_size (by repeat (first | (with_reducible first | exact HB.out | apply below_alloc | apply pw_below_drewN | apply below_drew1) | exact HB.out))):w.heap.size≤gb103));clear HB;have HB:=n0_;have BK103:=n1_;have GW103:=n2_;have GE103:=n3_;clear n0_ n1_ n2_ n3_;clear hb hbox hg;have hcz9_0:w8.cell? ⟨gb103,0,none⟩=some (.int .i64 0):=(blk_cell BK103.out 0).trans rfl;have hcz9_1:w8.cell? ⟨gb103,1,none⟩=some (.string (⟨#[]⟩ : ByteArray)):=(blk_cell BK103.out 1).trans rfl;have hcz9_2:w8.cell? ⟨gb103,2,none⟩=some (.int .i64 0):=(blk_cell BK103.out 2).trans rfl;have hcz9_3:w8.cell? ⟨gb103,3,none⟩=some (.string (⟨#[]⟩ : ByteArray)):=(blk_cell BK103.out 3).trans rfl;have hcz9_4:w8.cell? ⟨gb103,4,none⟩=some (.int .i64 0):=(blk_cell BK103.out 4).trans rfl;have hcz9_5:w8.cell? ⟨gb103,5,none⟩=some (.int .i64 0):=(blk_cell BK103.out 5).trans rfl;have hcz9_6:w8.cell? ⟨gb103,6,none⟩=some (.int .i64 0):=(blk_cell BK103.out 6).trans rfl;have hcz9_7:w8.cell? ⟨gb103,7,none⟩=some (.int .i64 0):=(blk_cell BK103.out 7).trans rfl;have hcz9_8:w8.cell? ⟨gb103,8,none⟩=some (.int .i64 0):=(blk_cell BK103.out 8).trans rfl;have hfz9_0:=blk_frozen BK103.out 0;have hfz9_1:=blk_frozen BK103.out 1;have hfz9_2:=blk_frozen BK103.out 2;have hfz9_3:=blk_frozen BK103.out 3;have hfz9_4:=blk_frozen BK103.out 4;have hfz9_5:=blk_frozen BK103.out 5;have hfz9_6:=blk_frozen BK103.out 6;have hfz9_7:=blk_frozen BK103.out 7;have hfz9_8:=blk_frozen BK103.out 8) | ((with_reducible refine gate_callee (f:=59) rfl ?_);refine goesL_ (some 15) rfl rfl Tryz.func59 (by kernel_rfl) rfl #[.agg #[.int .i64 ((rd_T68 l0 x10_1).f0),.string ((rd_T68 l0 x10_1).f1),.int .i64 ((rd_T68 l0 x10_1).f2),.string ((rd_T68 l0 x10_1).f3),.int .i64 ((rd_T68 l0 x10_1).f4),.int .i64 ((rd_T68 l0 x10_1).f5),.int .i64 ((rd_T68 l0 x10_1).f6),.int .i64 ((rd_T68 l0 x10_1).f7),.int .i64 ((rd_T68 l0 x10_1).f8)]] rfl (by (try simp only [List.map_toArray,List.map_cons,List.map_nil]);first | done | rfl | (simp only [List.length_drop,List.length_take];rfl)) ?_;(with_reducible refine (laws_zzFits8.calls ((rd_T68 l0 x10_1).f0) ((rd_T68 l0 x10_1).f1) ((rd_T68 l0 x10_1).f2) ((rd_T68 l0 x10_1).f3) ((rd_T68 l0 x10_1).f4) ((rd_T68 l0 x10_1).f5) ((rd_T68 l0 x10_1).f6) ((rd_T68 l0 x10_1).f7) ((rd_T68 l0 x10_1).f8) true _ A6.out).mono ?_);rintro e w10 ⟨rfl,hb⟩;refine ⟨_,rfl,?_⟩;have n0_:=Aside0.mk (blk_below (g:=gb103) (o:=.cells #[.int .i64 ((rd_T68 l0 x10_1).f0),.string ((rd_T68 l0 x10_1).f1),.int .i64 ((rd_T68 l0 x10_1).f2),.string ((rd_T68 l0 x10_1).f3),.int .i64 ((rd_T68 l0 x10_1).f4),.int .i64 ((rd_T68 l0 x10_1).f5),.int .i64 ((rd_T68 l0 x10_1).f6),.int .i64 ((rd_T68 l0 x10_1).f7),.int .i64 ((rd_T68 l0 x10_1).f8)] 68 (0,0)) (by (with_reducible repeat (first | refine blk_drewN ?_ _ | refine blk_drew ?_ | refine blk_alloc ?_ _));refine blk_put (cs:=#[.int .i64 ((rd_T68 l0 x10_1).f0),.string ((rd_T68 l0 x10_1).f1),.int .i64 ((rd_T68 l0 x10_1).f2),.string ((rd_T68 l0 x10_1).f3),.int .i64 ((rd_T68 l0 x10_1).f4),.int .i64 ((rd_T68 l0 x10_1).f5),.int .i64 ((rd_T68 l0 x10_1).f6),.int .i64 ((rd_T68 l0 x10_1).f7),.int .i64 0]) ?_ 8 _ rfl;(with_reducible repeat (first | refine blk_drewN ?_ _ | refine blk_drew ?_ | refine blk_alloc ?_ _));refine blk_put (cs:=#[.int .i64 ((rd_T68 l0 x10_1).f0),.string ((rd_T68 l0 x10_1).f1),.int .i64 ((rd_T68 l0 x10_1).f2),.string ((rd_T68 l0 x10_1).f3),.int .i64 ((rd_T68 l0 x10_1).f4),.int .i64 ((rd_T68 l0 x10_1).f5),.int .i64 ((rd_T68 l0 x10_1).f6),.int .i64 0,.int .i64 0]) ?_ 7 _ rfl;(with_reducible repeat (first | refine blk_drewN ?_ _ | refine blk_drew ?_ | refine blk_alloc ?_ _));refine blk_put (cs:=#[.int .i64 ((rd_T68 l0 x10_1).f0),.string ((rd_T68 l0 x10_1).f1),.int .i64 ((rd_T68 l0 x10_1).f2),.string ((rd_T68 l0 x10_1).f3),.int .i64 ((rd_T68 l0 x10_1).f4),.int .i64 ((rd_T68 l0 x10_1).f5),.int .i64 0,.int .i64 0,.int .i64 0]) ?_ 6 _ rfl;(with_reducible repeat (first | refine blk_drewN ?_ _ | refine blk_drew ?_ | refine blk_alloc ?_ _));refine blk_put (cs:=#[.int .i64 ((rd_T68 l0 x10_1).f0),.string ((rd_T68 l0 x10_1).f1),.int .i64 ((rd_T68 l0 x10_1).f2),.string ((rd_T68 l0 x10_1).f3),.int .i64 ((rd_T68 l0 x10_1).f4),.int .i64 0,.int .i64 0,.int .i64 0,.int .i64 0]) ?_ 5 _ rfl;(with_reducible repeat (first | refine blk_drewN ?_ _ | refine blk_drew ?_ | refine blk_alloc ?_ _));refine blk_put (cs:=#[.int .i64 ((rd_T68 l0 x10_1).f0),.string ((rd_T68 l0 x10_1).f1),.int .i64 ((rd_T68 l0 x10_1).f2),.string ((rd_T68 l0 x10_1).f3),.int .i64 0,.int .i64 0,.int .i64 0,.int .i64 0,.int .i64 0]) ?_ 4 _ rfl;(with_reducible repeat (first | refine blk_drewN ?_ _ | refine blk_drew ?_ | refine blk_alloc ?_ _));refine blk_put (cs:=#[.int .i64 ((rd_T68 l0 x10_1).f0),.string ((rd_T68 l0 x10_1).f1),.int .i64 ((rd_T68 l0 x10_1).f2),.string (⟨#[]⟩ : ByteArray),.int .i64 0,.int .i64 0,.int .i64 0,.int .i64 0,.int .i64 0]) ?_ 3 _ rfl;(with_reducible repeat (first | refine blk_drewN ?_ _ | refine blk_drew ?_ | refine blk_alloc ?_ _));refine blk_put (cs:=#[.int .i64 ((rd_T68 l0 x10_1).f0),.string ((rd_T68 l0 x10_1).f1),.int .i64 0,.string (⟨#[]⟩ : ByteArray),.int .i64 0,.int .i64 0,.int .i64 0,.int .i64 0,.int .i64 0]) ?_ 2 _ rfl;(with_reducible repeat (first | refine blk_drewN ?_ _ | refine blk_drew ?_ | refine blk_alloc ?_ _));refine blk_put (cs:=#[.int .i64 ((rd_T68 l0 x10_1).f0),.string (⟨#[]⟩ : ByteArray),.int .i64 0,.string (⟨#[]⟩ : ByteArray),.int .i64 0,.int .i64 0,.int .i64 0,.int .i64 0,.int .i64 0]) ?_ 1 _ rfl;(with_reducible repeat (first | refine blk_drewN ?_ _ | refine blk_drew ?_ | refine blk_alloc ?_ _));refine blk_put (cs:=#[.int .i64 0,.string (⟨#[]⟩ : ByteArray),.int .i64 0,.string (⟨#[]⟩ : ByteArray),.int .i64 0,.int .i64 0,.int .i64 0,.int .i64 0,.int .i64 0]) ?_ 0 _ rfl;(with_reducible repeat (first | refine blk_drewN ?_ _ | refine blk_drew ?_ | refine blk_alloc ?_ _));exact BK103.out) hb);have n1_:=Aside0.mk (below_step (by repeat (first | (with_reducible first | exact HB.out | apply below_alloc | apply pw_below_drewN | apply below_drew1 | refine below_set ?_ GE103.out) | exact HB.out)) hb);clear BK103;clear HB;have BK103:=n0_;have HB:=n1_;clear n0_ n1_;(try clear hb);(try clear hb2);(try clear hk);(try clear hi)))
        go_roundg k1
        case measure=>have:=HK1.out;omega
        case rel=>exact ⟨(wrap64 (x10_1+1)),(by first | rfl | (simp;done) | (simp [*];done)),H',⟨by have:=HK1.out;omega⟩,⟨by repeat (first | (with_reducible first | exact HB.out | apply below_alloc | apply pw_below_drewN | apply below_drew1 | refine below_set ?_ GE103.out) | exact HB.out)⟩⟩
       ·replace c7:=Bool.eq_false_iff.mpr c7
        subst c7
        have H1:(some false)=some r:=by rw [if_neg (show ¬ (false=true) by decide)] at H;exact H
        clear H
        have H:=H1
        clear H1
        obtain rfl:=Option.some.inj H
        have p102:0≤(x10_1:Int):=of_decide_eq_true (by first | (with_reducible assumption) | assumption)
        have q102:x10_1<(l0.length:Int):=of_decide_eq_true (by first | (with_reducible assumption) | assumption)
        obtain ⟨ad102,e102,hx102_0,hx102_1,hx102_2,hx102_3,hx102_4,hx102_5,hx102_6,hx102_7,hx102_8⟩:=at_T68 HR0.out x10_1 p102 q102
        cases e102
        replace hx102_0:=(HB.out.cell (World.block_lt_of_cell? w _ hx102_0)).trans hx102_0
        replace hx102_1:=(HB.out.cell (World.block_lt_of_cell? w _ hx102_1)).trans hx102_1
        replace hx102_2:=(HB.out.cell (World.block_lt_of_cell? w _ hx102_2)).trans hx102_2
        replace hx102_3:=(HB.out.cell (World.block_lt_of_cell? w _ hx102_3)).trans hx102_3
        replace hx102_4:=(HB.out.cell (World.block_lt_of_cell? w _ hx102_4)).trans hx102_4
        replace hx102_5:=(HB.out.cell (World.block_lt_of_cell? w _ hx102_5)).trans hx102_5
        replace hx102_6:=(HB.out.cell (World.block_lt_of_cell? w _ hx102_6)).trans hx102_6
        replace hx102_7:=(HB.out.cell (World.block_lt_of_cell? w _ hx102_7)).trans hx102_7
        replace hx102_8:=(HB.out.cell (World.block_lt_of_cell? w _ hx102_8)).trans hx102_8
        replace p102:=eq_true p102
        replace q102:=eq_true q102
        go_wp2_with (first | ((with_reducible refine gate_dst (N:=4) rfl ?_);refine box_event ?hg (N:=4) ?hd (cs:=#[.int .i64 0,.string (⟨#[]⟩ : ByteArray),.int .i64 0,.string (⟨#[]⟩ : ByteArray),.int .i64 0,.int .i64 0,.int .i64 0,.int .i64 0,.int .i64 0]) (t:=68) ?hr ?_;(case hd=>rfl);(case hg=>rfl);(case hr=>first | (go_simp;done) | (go_simp;rfl));intro gb103 hg w11 hbox hb;have n0_:=Aside0.mk (below_step (by repeat (first | (with_reducible first | exact HB.out | apply below_alloc | apply pw_below_drewN | apply below_drew1) | exact HB.out)) hb);have n1_:=Aside0.mk (hbox);have n2_:=Aside0.mk ((by rw [hg];exact (below_size (by repeat (first | (with_reducible first | exact HB.out | apply below_alloc | apply pw_below_drewN | apply below_drew1) | exact HB.out))):w.heap.size≤gb103));have n3_:=Aside0.mk ((by rw [hg];exact (below_size (by repeat (first | (with_reducible first | exact HB.out | apply below_alloc | apply pw_below_drewN | apply below_drew1) | exact HB.out))):w.heap.size≤gb103));clear HB;have HB:=n0_;have BK103:=n1_;have GW103:=n2_;have GE103:=n3_;clear n0_ n1_ n2_ n3_;clear hb hbox hg;have hcz12_0:w11.cell? ⟨gb103,0,none⟩=some (.int .i64 0):=(blk_cell BK103.out 0).trans rfl;have hcz12_1:w11.cell? ⟨gb103,1,none⟩=some (.string (⟨#[]⟩ : ByteArray)):=(blk_cell BK103.out 1).trans rfl;have hcz12_2:w11.cell? ⟨gb103,2,none⟩=some (.int .i64 0):=(blk_cell BK103.out 2).trans rfl;have hcz12_3:w11.cell? ⟨gb103,3,none⟩=some (.string (⟨#[]⟩ : ByteArray)):=(blk_cell BK103.out 3).trans rfl;have hcz12_4:w11.cell? ⟨gb103,4,none⟩=some (.int .i64 0):=(blk_cell BK103.out 4).trans rfl;have hcz12_5:w11.cell? ⟨gb103,5,none⟩=some (.int .i64 0):=(blk_cell BK103.out 5).trans rfl;have hcz12_6:w11.cell? ⟨gb103,6,none⟩=some (.int .i64 0):=(blk_cell BK103.out 6).trans rfl;have hcz12_7:w11.cell? ⟨gb103,7,none⟩=some (.int .i64 0):=(blk_cell BK103.out 7).trans rfl;have hcz12_8:w11.cell? ⟨gb103,8,none⟩=some (.int .i64 0):=(blk_cell BK103.out 8).trans rfl;have hfz12_0:=blk_frozen BK103.out 0;have hfz12_1:=blk_frozen BK103.out 1;have hfz12_2:=blk_frozen BK103.out 2;have hfz12_3:=blk_frozen BK103.out 3;have hfz12_4:=blk_frozen BK103.out 4;have hfz12_5:=blk_frozen BK103.out 5;have hfz12_6:=blk_frozen BK103.out 6;have hfz12_7:=blk_frozen BK103.out 7;have hfz12_8:=blk_frozen BK103.out 8) | ((with_reducible refine gate_callee (f:=59) rfl ?_);refine goesL_ (some 15) rfl rfl Tryz.func59 (by kernel_rfl) rfl #[.agg #[.int .i64 ((rd_T68 l0 x10_1).f0),.string ((rd_T68 l0 x10_1).f1),.int .i64 ((rd_T68 l0 x10_1).f2),.string ((rd_T68 l0 x10_1).f3),.int .i64 ((rd_T68 l0 x10_1).f4),.int .i64 ((rd_T68 l0 x10_1).f5),.int .i64 ((rd_T68 l0 x10_1).f6),.int .i64 ((rd_T68 l0 x10_1).f7),.int .i64 ((rd_T68 l0 x10_1).f8)]] rfl (by (try simp only [List.map_toArray,List.map_cons,List.map_nil]);first | done | rfl | (simp only [List.length_drop,List.length_take];rfl)) ?_;(with_reducible refine (laws_zzFits8.calls ((rd_T68 l0 x10_1).f0) ((rd_T68 l0 x10_1).f1) ((rd_T68 l0 x10_1).f2) ((rd_T68 l0 x10_1).f3) ((rd_T68 l0 x10_1).f4) ((rd_T68 l0 x10_1).f5) ((rd_T68 l0 x10_1).f6) ((rd_T68 l0 x10_1).f7) ((rd_T68 l0 x10_1).f8) false _ A6.out).mono ?_);rintro e w13 ⟨rfl,hb⟩;refine ⟨_,rfl,?_⟩;have n0_:=Aside0.mk (blk_below (g:=gb103) (o:=.cells #[.int .i64 ((rd_T68 l0 x10_1).f0),.string ((rd_T68 l0 x10_1).f1),.int .i64 ((rd_T68 l0 x10_1).f2),.string ((rd_T68 l0 x10_1).f3),.int .i64 ((rd_T68 l0 x10_1).f4),.int .i64 ((rd_T68 l0 x10_1).f5),.int .i64 ((rd_T68 l0 x10_1).f6),.int .i64 ((rd_T68 l0 x10_1).f7),.int .i64 ((rd_T68 l0 x10_1).f8)] 68 (0,0)) (by (with_reducible repeat (first | refine blk_drewN ?_ _ | refine blk_drew ?_ | refine blk_alloc ?_ _));refine blk_put (cs:=#[.int .i64 ((rd_T68 l0 x10_1).f0),.string ((rd_T68 l0 x10_1).f1),.int .i64 ((rd_T68 l0 x10_1).f2),.string ((rd_T68 l0 x10_1).f3),.int .i64 ((rd_T68 l0 x10_1).f4),.int .i64 ((rd_T68 l0 x10_1).f5),.int .i64 ((rd_T68 l0 x10_1).f6),.int .i64 ((rd_T68 l0 x10_1).f7),.int .i64 0]) ?_ 8 _ rfl;(with_reducible repeat (first | refine blk_drewN ?_ _ | refine blk_drew ?_ | refine blk_alloc ?_ _));refine blk_put (cs:=#[.int .i64 ((rd_T68 l0 x10_1).f0),.string ((rd_T68 l0 x10_1).f1),.int .i64 ((rd_T68 l0 x10_1).f2),.string ((rd_T68 l0 x10_1).f3),.int .i64 ((rd_T68 l0 x10_1).f4),.int .i64 ((rd_T68 l0 x10_1).f5),.int .i64 ((rd_T68 l0 x10_1).f6),.int .i64 0,.int .i64 0]) ?_ 7 _ rfl;(with_reducible repeat (first | refine blk_drewN ?_ _ | refine blk_drew ?_ | refine blk_alloc ?_ _));refine blk_put (cs:=#[.int .i64 ((rd_T68 l0 x10_1).f0),.string ((rd_T68 l0 x10_1).f1),.int .i64 ((rd_T68 l0 x10_1).f2),.string ((rd_T68 l0 x10_1).f3),.int .i64 ((rd_T68 l0 x10_1).f4),.int .i64 ((rd_T68 l0 x10_1).f5),.int .i64 0,.int .i64 0,.int .i64 0]) ?_ 6 _ rfl;(with_reducible repeat (first | refine blk_drewN ?_ _ | refine blk_drew ?_ | refine blk_alloc ?_ _));refine blk_put (cs:=#[.int .i64 ((rd_T68 l0 x10_1).f0),.string ((rd_T68 l0 x10_1).f1),.int .i64 ((rd_T68 l0 x10_1).f2),.string ((rd_T68 l0 x10_1).f3),.int .i64 ((rd_T68 l0 x10_1).f4),.int .i64 0,.int .i64 0,.int .i64 0,.int .i64 0]) ?_ 5 _ rfl;(with_reducible repeat (first | refine blk_drewN ?_ _ | refine blk_drew ?_ | refine blk_alloc ?_ _));refine blk_put (cs:=#[.int .i64 ((rd_T68 l0 x10_1).f0),.string ((rd_T68 l0 x10_1).f1),.int .i64 ((rd_T68 l0 x10_1).f2),.string ((rd_T68 l0 x10_1).f3),.int .i64 0,.int .i64 0,.int .i64 0,.int .i64 0,.int .i64 0]) ?_ 4 _ rfl;(with_reducible repeat (first | refine blk_drewN ?_ _ | refine blk_drew ?_ | refine blk_alloc ?_ _));refine blk_put (cs:=#[.int .i64 ((rd_T68 l0 x10_1).f0),.string ((rd_T68 l0 x10_1).f1),.int .i64 ((rd_T68 l0 x10_1).f2),.string (⟨#[]⟩ : ByteArray),.int .i64 0,.int .i64 0,.int .i64 0,.int .i64 0,.int .i64 0]) ?_ 3 _ rfl;(with_reducible repeat (first | refine blk_drewN ?_ _ | refine blk_drew ?_ | refine blk_alloc ?_ _));refine blk_put (cs:=#[.int .i64 ((rd_T68 l0 x10_1).f0),.string ((rd_T68 l0 x10_1).f1),.int .i64 0,.string (⟨#[]⟩ : ByteArray),.int .i64 0,.int .i64 0,.int .i64 0,.int .i64 0,.int .i64 0]) ?_ 2 _ rfl;(with_reducible repeat (first | refine blk_drewN ?_ _ | refine blk_drew ?_ | refine blk_alloc ?_ _));refine blk_put (cs:=#[.int .i64 ((rd_T68 l0 x10_1).f0),.string (⟨#[]⟩ : ByteArray),.int .i64 0,.string (⟨#[]⟩ : ByteArray),.int .i64 0,.int .i64 0,.int .i64 0,.int .i64 0,.int .i64 0]) ?_ 1 _ rfl;(with_reducible repeat (first | refine blk_drewN ?_ _ | refine blk_drew ?_ | refine blk_alloc ?_ _));refine blk_put (cs:=#[.int .i64 0,.string (⟨#[]⟩ : ByteArray),.int .i64 0,.string (⟨#[]⟩ : ByteArray),.int .i64 0,.int .i64 0,.int .i64 0,.int .i64 0,.int .i64 0]) ?_ 0 _ rfl;(with_reducible repeat (first | refine blk_drewN ?_ _ | refine blk_drew ?_ | refine blk_alloc ?_ _));exact BK103.out) hb);have n1_:=Aside0.mk (below_step (by repeat (first | (with_reducible first | exact HB.out | apply below_alloc | apply pw_below_drewN | apply below_drew1 | refine below_set ?_ GE103.out) | exact HB.out)) hb);clear BK103;clear HB;have BK103:=n0_;have HB:=n1_;clear n0_ n1_;(try clear hb);(try clear hb2);(try clear hk);(try clear hi)))
        go_ret
        exact ⟨by first | rfl | (simp [errW_none,errW_some]<;>rfl) | (simp [*,errW_none,errW_some]<;>rfl),by repeat (first | (with_reducible first | exact HB.out | apply below_alloc | apply pw_below_drewN | apply below_drew1 | refine below_set ?_ GE103.out) | exact HB.out)⟩
      ·rw [if_neg c5] at H
       exact absurd H (by simp)
     ·rw [if_neg c4] at H
      exact absurd H (by simp)
    ·rw [if_neg c3] at H
     have c3b0:decide (x10_1<(l0.length:Int))=false:=decide_eq_false c3
     clear c3
     obtain rfl:=Option.some.inj H
     go_wp2
     go_ret
     exact ⟨by first | rfl | (simp [errW_none,errW_some]<;>rfl) | (simp [*,errW_none,errW_some]<;>rfl),by repeat (first | (with_reducible first | exact HB.out | apply below_alloc | apply pw_below_drewN | apply below_drew1) | exact HB.out)⟩
/-! ### laws_zzFits6: function 22 -/
def laws_zzFits6.l0:Nat→List (List (S68))→Int→Int→Option (Bool)
 | 0,_,_,_=>none
 | k+1,x8,x9,x10=>if x10<x9 then (if 0≤x10 then (if x10<(x8.length:Int) then ((laws_zzFits7.f k (rd_L3 x8 x10)).bind fun t106=>(if t106=true then (laws_zzFits6.l0 k x8 x9 (wrap64 (x10+1))) else (some false))) else (none)) else (none)) else (some true)
def laws_zzFits6.f (k:Nat) (l0:List (List (S68))):Option (Bool):=if (l0.length:Int) > 2147483647 then (some false) else (laws_zzFits6.l0 k l0 (l0.length:Int) 0)
set_option maxHeartbeats 8000000 in
set_option maxRecDepth 100000 in
theorem laws_zzFits6.calls (k:Nat) (A0:Option Addr) (c0:Nat) (l0:List (List (S68))) (r:Bool) (w:World) (hr0:Kd.C (Kd.slice 68 k68) w A0 l0.length l0) (hc0:l0.length≤c0) (h:laws_zzFits6.f k l0=some r) :
  Calls Tryz.prog 22 #[.slice A0 l0.length c0] w fun e w'=>e=.returned (.bool r)∧Below w.heap.size w w':=by
 have HR0:=Aside0.mk hr0
 have HC0:=Aside0.mk hc0
 clear hr0 hc0
 have HB:=Aside0.mk (Below.refl w.heap.size w)
 have H:(if (l0.length:Int) > 2147483647 then (some false) else (laws_zzFits6.l0 k l0 (l0.length:Int) 0))=some r:=h
 clear h
 by_cases c2:(l0.length:Int) > 2147483647
 ·rw [if_pos c2] at H
  have c2b0:decide (2147483647<(l0.length:Int))=true:=decide_eq_true c2
  have c2b1:decide (2147483647<l0.length)=true:=decide_eq_true (by omega)
  clear c2
  obtain rfl:=Option.some.inj H
  go_enter Tryz.func22,Tryz.ntmps22
  go_wp2
  go_ret
  exact ⟨by first | rfl | (simp [errW_none,errW_some]<;>rfl) | (simp [*,errW_none,errW_some]<;>rfl),by repeat (first | (with_reducible first | exact HB.out | apply below_alloc | apply pw_below_drewN | apply below_drew1) | exact HB.out)⟩
 ·rw [if_neg c2] at H
  have c2b0:decide (2147483647<(l0.length:Int))=false:=decide_eq_false c2
  have c2b1:decide (2147483647<l0.length)=false:=decide_eq_false (by omega)
  clear c2
  have H':=Aside0.mk H
  clear H
  go_enter Tryz.func22,Tryz.ntmps22
  go_wp2
  go_loopg [10] k (fun kq v10 w'=>∃ (x10_1:Int),v10=.int .i64 x10_1∧Aside0 (laws_zzFits6.l0 kq l0 (l0.length:Int) x10_1=some r)∧Aside0 (kq≤k)∧Aside0 (Below w.heap.size w w'))
  case atStart=>exact ⟨(0),(by first | rfl | (simp;done) | (simp [*];done)),H',⟨Nat.le_refl _⟩,⟨by repeat (first | (with_reducible first | exact HB.out | apply below_alloc | apply pw_below_drewN | apply below_drew1) | exact HB.out)⟩⟩
  case round =>
   clear H'
   try clear c2
   try clear c2b0
   try clear c2b1
   try clear p2
   obtain ⟨x10_1,rfl,HA,HK1,HB⟩:=hrel
   cases gk with
   | zero=>exact absurd HA.out (by simp [laws_zzFits6.l0])
   | succ k1 =>
    have H:=HA.out
    clear HA
    simp only [laws_zzFits6.l0] at H
    by_cases c3:x10_1<(l0.length:Int)
    ·rw [if_pos c3] at H
     have c3b0:decide (x10_1<(l0.length:Int))=true:=decide_eq_true c3
     clear c3
     by_cases c4:0≤x10_1
     ·rw [if_pos c4] at H
      have c4b0:decide (0≤x10_1)=true:=decide_eq_true c4
      clear c4
      by_cases c5:x10_1<(l0.length:Int)
      ·rw [if_pos c5] at H
       have c5b0:decide (x10_1<(l0.length:Int))=true:=decide_eq_true c5
       clear c5
       replace H:=Option.bind_eq_some_iff.mp H
       obtain ⟨t106,A60,H⟩:=H
       replace H:(if t106=true then (laws_zzFits6.l0 k1 l0 (l0.length:Int) (wrap64 (x10_1+1))) else (some false))=some r:=H
       have A6:=Aside0.mk A60
       clear A60
       by_cases c7:t106=true
       ·subst c7
        have H1:(laws_zzFits6.l0 k1 l0 (l0.length:Int) (wrap64 (x10_1+1)))=some r:=by rw [if_pos rfl] at H;exact H
        clear H
        have H:=H1
        clear H1
        have H':=Aside0.mk H
        clear H
        have p105:0≤(x10_1:Int):=of_decide_eq_true (by first | (with_reducible assumption) | assumption)
        have q105:x10_1<(l0.length:Int):=of_decide_eq_true (by first | (with_reducible assumption) | assumption)
        obtain ⟨ad105,A105_0,c105_0,e105,hx105_0,hl105_0,hi105_0⟩:=at_L3 HR0.out x10_1 p105 q105
        cases e105
        replace hx105_0:=(HB.out.cell (World.block_lt_of_cell? w _ hx105_0)).trans hx105_0
        have HR105_0:=Aside0.mk hi105_0
        have HC105_0:=Aside0.mk hl105_0
        clear hi105_0 hl105_0
        replace p105:=eq_true p105
        replace q105:=eq_true q105
        go_wp2_with (first | ((with_reducible refine gate_callee (f:=29) rfl ?_);refine goesL_ (some 15) rfl rfl Tryz.func29 (by kernel_rfl) rfl #[.slice A105_0 (rd_L3 l0 x10_1).length c105_0] rfl (by (try simp only [List.map_toArray,List.map_cons,List.map_nil]);first | done | rfl | (simp only [List.length_drop,List.length_take];rfl)) ?_;(with_reducible refine (laws_zzFits7.calls k1 _ _ (rd_L3 l0 x10_1) true _ ?side1 ?side2 A6.out).mono ?_);(case side1=>repeat (first | exact (Kd.C_below HR105_0.out HB.out) | (with_reducible refine Kd.C_alloc ?_ _) | (with_reducible refine Kd.C_drewN ?_ _) | (with_reducible refine Kd.C_drew ?_)));(case side2=>exact HC105_0.out);rintro e w8 ⟨rfl,hb⟩;refine ⟨_,rfl,?_⟩;have n0_:=Aside0.mk (below_step (by repeat (first | (with_reducible first | exact HB.out | apply below_alloc | apply pw_below_drewN | apply below_drew1) | exact HB.out)) hb);clear HB;have HB:=n0_;clear n0_;(try clear hb);(try clear hb2);(try clear hk);(try clear hi)))
        go_roundg k1
        case measure=>have:=HK1.out;omega
        case rel=>exact ⟨(wrap64 (x10_1+1)),(by first | rfl | (simp;done) | (simp [*];done)),H',⟨by have:=HK1.out;omega⟩,⟨by repeat (first | (with_reducible first | exact HB.out | apply below_alloc | apply pw_below_drewN | apply below_drew1) | exact HB.out)⟩⟩
       ·replace c7:=Bool.eq_false_iff.mpr c7
        subst c7
        have H1:(some false)=some r:=by rw [if_neg (show ¬ (false=true) by decide)] at H;exact H
        clear H
        have H:=H1
        clear H1
        obtain rfl:=Option.some.inj H
        have p105:0≤(x10_1:Int):=of_decide_eq_true (by first | (with_reducible assumption) | assumption)
        have q105:x10_1<(l0.length:Int):=of_decide_eq_true (by first | (with_reducible assumption) | assumption)
        obtain ⟨ad105,A105_0,c105_0,e105,hx105_0,hl105_0,hi105_0⟩:=at_L3 HR0.out x10_1 p105 q105
        cases e105
        replace hx105_0:=(HB.out.cell (World.block_lt_of_cell? w _ hx105_0)).trans hx105_0
        have HR105_0:=Aside0.mk hi105_0
        have HC105_0:=Aside0.mk hl105_0
        clear hi105_0 hl105_0
        replace p105:=eq_true p105
        replace q105:=eq_true q105
        go_wp2_with (first | ((with_reducible refine gate_callee (f:=29) rfl ?_);refine goesL_ (some 15) rfl rfl Tryz.func29 (by kernel_rfl) rfl #[.slice A105_0 (rd_L3 l0 x10_1).length c105_0] rfl (by (try simp only [List.map_toArray,List.map_cons,List.map_nil]);first | done | rfl | (simp only [List.length_drop,List.length_take];rfl)) ?_;(with_reducible refine (laws_zzFits7.calls k1 _ _ (rd_L3 l0 x10_1) false _ ?side1 ?side2 A6.out).mono ?_);(case side1=>repeat (first | exact (Kd.C_below HR105_0.out HB.out) | (with_reducible refine Kd.C_alloc ?_ _) | (with_reducible refine Kd.C_drewN ?_ _) | (with_reducible refine Kd.C_drew ?_)));(case side2=>exact HC105_0.out);rintro e w9 ⟨rfl,hb⟩;refine ⟨_,rfl,?_⟩;have n0_:=Aside0.mk (below_step (by repeat (first | (with_reducible first | exact HB.out | apply below_alloc | apply pw_below_drewN | apply below_drew1) | exact HB.out)) hb);clear HB;have HB:=n0_;clear n0_;(try clear hb);(try clear hb2);(try clear hk);(try clear hi)))
        go_ret
        exact ⟨by first | rfl | (simp [errW_none,errW_some]<;>rfl) | (simp [*,errW_none,errW_some]<;>rfl),by repeat (first | (with_reducible first | exact HB.out | apply below_alloc | apply pw_below_drewN | apply below_drew1) | exact HB.out)⟩
      ·rw [if_neg c5] at H
       exact absurd H (by simp)
     ·rw [if_neg c4] at H
      exact absurd H (by simp)
    ·rw [if_neg c3] at H
     have c3b0:decide (x10_1<(l0.length:Int))=false:=decide_eq_false c3
     clear c3
     obtain rfl:=Option.some.inj H
     go_wp2
     go_ret
     exact ⟨by first | rfl | (simp [errW_none,errW_some]<;>rfl) | (simp [*,errW_none,errW_some]<;>rfl),by repeat (first | (with_reducible first | exact HB.out | apply below_alloc | apply pw_below_drewN | apply below_drew1) | exact HB.out)⟩
/-! ### spec_Size: function 50 -/
def spec_Size.l0:Nat→Int→List (S68)→Int→Int→Option (Int)
 | 0,_,_,_,_=>none
 | k+1,x3,x6,x7,x8=>if x8<x7 then (if 0≤x8 then (if x8<(x6.length:Int) then (spec_Size.l0 k (wrap64 (x3+((rd_T68 x6 x8).f5))) x6 x7 (wrap64 (x8+1))) else (none)) else (none)) else (some x3)
def spec_Size.f (k:Nat) (l0:List (S68)):Option (Int):=spec_Size.l0 k 0 l0 (l0.length:Int) 0
set_option maxHeartbeats 8000000 in
set_option maxRecDepth 100000 in
theorem spec_Size.calls (k:Nat) (A0:Option Addr) (c0:Nat) (l0:List (S68)) (r:Int) (w:World) (hr0:Kd.C k68 w A0 l0.length l0) (hc0:l0.length≤c0) (h:spec_Size.f k l0=some r) :
  Calls Tryz.prog 50 #[.slice A0 l0.length c0] w fun e w'=>e=.returned (.int .i64 r)∧Below w.heap.size w w':=by
 have hu68:=Tryz.underlying68
 have HR0:=Aside0.mk hr0
 have HC0:=Aside0.mk hc0
 clear hr0 hc0
 have HB:=Aside0.mk (Below.refl w.heap.size w)
 have H:(spec_Size.l0 k 0 l0 (l0.length:Int) 0)=some r:=h
 clear h
 have H':=Aside0.mk H
 clear H
 go_enter Tryz.func50,Tryz.ntmps50
 go_wp2
 go_loopg [3,8] k (fun kq v3 v8 w'=>∃ (x3_1:Int) (x8_1:Int),v3=.int .i64 x3_1∧v8=.int .i64 x8_1∧Aside0 (spec_Size.l0 kq x3_1 l0 (l0.length:Int) x8_1=some r)∧Aside0 (kq≤k)∧Aside0 (Below w.heap.size w w'))
 case atStart=>exact ⟨(0),(0),(by first | rfl | (simp;done) | (simp [*];done)),(by first | rfl | (simp;done) | (simp [*];done)),H',⟨Nat.le_refl _⟩,⟨by repeat (first | (with_reducible first | exact HB.out | apply below_alloc | apply pw_below_drewN | apply below_drew1) | exact HB.out)⟩⟩
 case round =>
  clear H'
  obtain ⟨x3_1,x8_1,rfl,rfl,HA,HK1,HB⟩:=hrel
  cases gk with
  | zero=>exact absurd HA.out (by simp [spec_Size.l0])
  | succ k1 =>
   have H:=HA.out
   clear HA
   simp only [spec_Size.l0] at H
   by_cases c2:x8_1<(l0.length:Int)
   ·rw [if_pos c2] at H
    have c2b0:decide (x8_1<(l0.length:Int))=true:=decide_eq_true c2
    clear c2
    by_cases c3:0≤x8_1
    ·rw [if_pos c3] at H
     have c3b0:decide (0≤x8_1)=true:=decide_eq_true c3
     clear c3
     by_cases c4:x8_1<(l0.length:Int)
     ·rw [if_pos c4] at H
      have c4b0:decide (x8_1<(l0.length:Int))=true:=decide_eq_true c4
      clear c4
      have H':=Aside0.mk H
      clear H
      have p107:0≤(x8_1:Int):=of_decide_eq_true (by first | (with_reducible assumption) | assumption)
      have q107:x8_1<(l0.length:Int):=of_decide_eq_true (by first | (with_reducible assumption) | assumption)
      obtain ⟨ad107,e107,hx107_0,hx107_1,hx107_2,hx107_3,hx107_4,hx107_5,hx107_6,hx107_7,hx107_8⟩:=at_T68 HR0.out x8_1 p107 q107
      cases e107
      replace hx107_0:=(HB.out.cell (World.block_lt_of_cell? w _ hx107_0)).trans hx107_0
      replace hx107_1:=(HB.out.cell (World.block_lt_of_cell? w _ hx107_1)).trans hx107_1
      replace hx107_2:=(HB.out.cell (World.block_lt_of_cell? w _ hx107_2)).trans hx107_2
      replace hx107_3:=(HB.out.cell (World.block_lt_of_cell? w _ hx107_3)).trans hx107_3
      replace hx107_4:=(HB.out.cell (World.block_lt_of_cell? w _ hx107_4)).trans hx107_4
      replace hx107_5:=(HB.out.cell (World.block_lt_of_cell? w _ hx107_5)).trans hx107_5
      replace hx107_6:=(HB.out.cell (World.block_lt_of_cell? w _ hx107_6)).trans hx107_6
      replace hx107_7:=(HB.out.cell (World.block_lt_of_cell? w _ hx107_7)).trans hx107_7
      replace hx107_8:=(HB.out.cell (World.block_lt_of_cell? w _ hx107_8)).trans hx107_8
      replace p107:=eq_true p107
      replace q107:=eq_true q107
      go_wp2_with (first | ((with_reducible refine gate_dst (N:=5) rfl ?_);refine box_event ?hg (N:=5) ?hd (cs:=#[.int .i64 0,.string (⟨#[]⟩ : ByteArray),.int .i64 0,.string (⟨#[]⟩ : ByteArray),.int .i64 0,.int .i64 0,.int .i64 0,.int .i64 0,.int .i64 0]) (t:=68) ?hr ?_;(case hd=>rfl);(case hg=>rfl);(case hr=>first | (go_simp;done) | (go_simp;rfl));intro gb108 hg w5 hbox hb;have n0_:=Aside0.mk (below_step (by repeat (first | (with_reducible first | exact HB.out | apply below_alloc | apply pw_below_drewN | apply below_drew1) | exact HB.out)) hb);have n1_:=Aside0.mk (hbox);have n2_:=Aside0.mk ((by rw [hg];exact (below_size (by repeat (first | (with_reducible first | exact HB.out | apply below_alloc | apply pw_below_drewN | apply below_drew1) | exact HB.out))):w.heap.size≤gb108));have n3_:=Aside0.mk ((by rw [hg];exact (below_size (by repeat (first | (with_reducible first | exact HB.out | apply below_alloc | apply pw_below_drewN | apply below_drew1) | exact HB.out))):w.heap.size≤gb108));clear HB;have HB:=n0_;have BK108:=n1_;have GW108:=n2_;have GE108:=n3_;clear n0_ n1_ n2_ n3_;clear hb hbox hg;have hcz6_0:w5.cell? ⟨gb108,0,none⟩=some (.int .i64 0):=(blk_cell BK108.out 0).trans rfl;have hcz6_1:w5.cell? ⟨gb108,1,none⟩=some (.string (⟨#[]⟩ : ByteArray)):=(blk_cell BK108.out 1).trans rfl;have hcz6_2:w5.cell? ⟨gb108,2,none⟩=some (.int .i64 0):=(blk_cell BK108.out 2).trans rfl;have hcz6_3:w5.cell? ⟨gb108,3,none⟩=some (.string (⟨#[]⟩ : ByteArray)):=(blk_cell BK108.out 3).trans rfl;have hcz6_4:w5.cell? ⟨gb108,4,none⟩=some (.int .i64 0):=(blk_cell BK108.out 4).trans rfl;have hcz6_5:w5.cell? ⟨gb108,5,none⟩=some (.int .i64 0):=(blk_cell BK108.out 5).trans rfl;have hcz6_6:w5.cell? ⟨gb108,6,none⟩=some (.int .i64 0):=(blk_cell BK108.out 6).trans rfl;have hcz6_7:w5.cell? ⟨gb108,7,none⟩=some (.int .i64 0):=(blk_cell BK108.out 7).trans rfl;have hcz6_8:w5.cell? ⟨gb108,8,none⟩=some (.int .i64 0):=(blk_cell BK108.out 8).trans rfl;have hfz6_0:=blk_frozen BK108.out 0;have hfz6_1:=blk_frozen BK108.out 1;have hfz6_2:=blk_frozen BK108.out 2;have hfz6_3:=blk_frozen BK108.out 3;have hfz6_4:=blk_frozen BK108.out 4;have hfz6_5:=blk_frozen BK108.out 5;have hfz6_6:=blk_frozen BK108.out 6;have hfz6_7:=blk_frozen BK108.out 7;have hfz6_8:=blk_frozen BK108.out 8))
      go_roundg k1
      case measure=>have:=HK1.out;omega
      case rel=>exact ⟨(wrap64 (x3_1+((rd_T68 l0 x8_1).f5))),(wrap64 (x8_1+1)),(by first | rfl | (simp;done) | (simp [*];done)),(by first | rfl | (simp;done) | (simp [*];done)),H',⟨by have:=HK1.out;omega⟩,⟨by repeat (first | (with_reducible first | exact HB.out | apply below_alloc | apply pw_below_drewN | apply below_drew1 | refine below_set ?_ GE108.out) | exact HB.out)⟩⟩
     ·rw [if_neg c4] at H
      exact absurd H (by simp)
    ·rw [if_neg c3] at H
     exact absurd H (by simp)
   ·rw [if_neg c2] at H
    have c2b0:decide (x8_1<(l0.length:Int))=false:=decide_eq_false c2
    clear c2
    obtain rfl:=Option.some.inj H
    go_wp2
    go_ret
    exact ⟨by first | rfl | (simp [errW_none,errW_some]<;>rfl) | (simp [*,errW_none,errW_some]<;>rfl),by repeat (first | (with_reducible first | exact HB.out | apply below_alloc | apply pw_below_drewN | apply below_drew1) | exact HB.out)⟩
/-! ### spec_Has: function 52 -/
def spec_Has.l0:Nat→Int→List Int→Int→Int→Option (Bool)
 | 0,_,_,_,_=>none
 | k+1,x1,x7,x8,x9=>if x9<x8 then (if 0≤x9 then (if x9<(x7.length:Int) then (if (rd x7 x9)=x1 then (some true) else (spec_Has.l0 k x1 x7 x8 (wrap64 (x9+1)))) else (none)) else (none)) else (some false)
def spec_Has.f (k:Nat) (l0:List Int) (a1:Int):Option (Bool):=spec_Has.l0 k a1 l0 (l0.length:Int) 0
set_option maxHeartbeats 8000000 in
set_option maxRecDepth 100000 in
theorem spec_Has.calls (k:Nat) (A0:Option Addr) (c0:Nat) (l0:List Int) (a1:Int) (r:Bool) (w:World) (hr0:Kd.C (Kd.int .i64) w A0 l0.length l0) (hc0:l0.length≤c0) (h:spec_Has.f k l0 a1=some r) :
  Calls Tryz.prog 52 #[.slice A0 l0.length c0,.int .i64 a1] w fun e w'=>e=.returned (.bool r)∧Drawn0 w w':=by
 have HR0:=Aside0.mk hr0
 have HC0:=Aside0.mk hc0
 clear hr0 hc0
 have H:(spec_Has.l0 k a1 l0 (l0.length:Int) 0)=some r:=h
 clear h
 have H':=Aside0.mk H
 clear H
 go_enter Tryz.func52,Tryz.ntmps52
 go_wp2
 go_loopg [9] k (fun kq v9 w'=>∃ (x9_1:Int),v9=.int .i64 x9_1∧Aside0 (spec_Has.l0 kq a1 l0 (l0.length:Int) x9_1=some r)∧Aside0 (kq≤k)∧Drawn0 w w')
 case atStart=>exact ⟨(0),(by first | rfl | (simp;done) | (simp [*];done)),H',⟨Nat.le_refl _⟩,by repeat (first | exact Drawn0.refl _ | apply Drawn0.step)⟩
 case round =>
  clear H'
  try clear p2
  obtain ⟨x9_1,rfl,HA,HK1,⟨m1,rfl⟩⟩:=hrel
  cases gk with
  | zero=>exact absurd HA.out (by simp [spec_Has.l0])
  | succ k1 =>
   have H:=HA.out
   clear HA
   simp only [spec_Has.l0] at H
   by_cases c3:x9_1<(l0.length:Int)
   ·rw [if_pos c3] at H
    have c3b0:decide (x9_1<(l0.length:Int))=true:=decide_eq_true c3
    clear c3
    by_cases c4:0≤x9_1
    ·rw [if_pos c4] at H
     have c4b0:decide (0≤x9_1)=true:=decide_eq_true c4
     clear c4
     by_cases c5:x9_1<(l0.length:Int)
     ·rw [if_pos c5] at H
      have c5b0:decide (x9_1<(l0.length:Int))=true:=decide_eq_true c5
      clear c5
      by_cases c6:(rd l0 x9_1)=a1
      ·rw [if_pos c6] at H
       have c6b0:((rd l0 x9_1) == a1)=true:=beq_iff_eq.mpr c6
       have c6b1:((rd l0 x9_1) != a1)=false:=bne_eq_false_iff_eq.mpr c6
       clear c6
       obtain rfl:=Option.some.inj H
       have p109:0≤(x9_1:Int):=of_decide_eq_true (by first | (with_reducible assumption) | assumption)
       have q109:x9_1<(l0.length:Int):=of_decide_eq_true (by first | (with_reducible assumption) | assumption)
       obtain ⟨ad109,e109,hx109_0⟩:=Kd.at_int HR0.out x9_1 p109 q109
       cases e109
       replace p109:=eq_true p109
       replace q109:=eq_true q109
       go_wp2
       go_ret
       exact ⟨by first | rfl | (simp;done) | (simp [*];done),by repeat (first | exact Drawn0.refl _ | apply Drawn0.step)⟩
      ·rw [if_neg c6] at H
       have c6b0:((rd l0 x9_1) == a1)=false:=beq_eq_false_iff_ne.mpr c6
       have c6b1:((rd l0 x9_1) != a1)=true:=bne_iff_ne.mpr c6
       have H':=Aside0.mk H
       clear H
       have p109:0≤(x9_1:Int):=of_decide_eq_true (by first | (with_reducible assumption) | assumption)
       have q109:x9_1<(l0.length:Int):=of_decide_eq_true (by first | (with_reducible assumption) | assumption)
       obtain ⟨ad109,e109,hx109_0⟩:=Kd.at_int HR0.out x9_1 p109 q109
       cases e109
       replace p109:=eq_true p109
       replace q109:=eq_true q109
       go_wp2
       go_roundg k1
       case measure=>have:=HK1.out;omega
       case rel=>exact ⟨(wrap64 (x9_1+1)),(by first | rfl | (simp;done) | (simp [*];done)),H',⟨by have:=HK1.out;omega⟩,by repeat (first | exact Drawn0.refl _ | apply Drawn0.step)⟩
     ·rw [if_neg c5] at H
      exact absurd H (by simp)
    ·rw [if_neg c4] at H
     exact absurd H (by simp)
   ·rw [if_neg c3] at H
    have c3b0:decide (x9_1<(l0.length:Int))=false:=decide_eq_false c3
    clear c3
    obtain rfl:=Option.some.inj H
    go_wp2
    go_ret
    exact ⟨by first | rfl | (simp;done) | (simp [*];done),by repeat (first | exact Drawn0.refl _ | apply Drawn0.step)⟩
/-! ### spec_Within: function 46 -/
def spec_Within.f (a0:Int) (a1:Int) (a2:Int):Option (Bool):=if a0 ≥ a1 then (some (decide (a0≤a2))) else (some false)
set_option maxHeartbeats 8000000 in
set_option maxRecDepth 100000 in
theorem spec_Within.calls (a0:Int) (a1:Int) (a2:Int) (r:Bool) (w:World) (h:spec_Within.f a0 a1 a2=some r) :
  Calls Tryz.prog 46 #[.int .i64 a0,.int .i64 a1,.int .i64 a2] w fun e w'=>e=.returned (.bool r)∧Drawn0 w w':=by
 have H:(if a0 ≥ a1 then (some (decide (a0≤a2))) else (some false))=some r:=h
 clear h
 by_cases c4:a0 ≥ a1
 ·rw [if_pos c4] at H
  have c4b0:decide (a1≤a0)=true:=decide_eq_true c4
  clear c4
  obtain rfl:=Option.some.inj H
  go_enter Tryz.func46,Tryz.ntmps46
  go_wp2
  go_ret
  exact ⟨by first | rfl | (simp;done) | (simp [*];done),by repeat (first | exact Drawn0.refl _ | apply Drawn0.step)⟩
 ·rw [if_neg c4] at H
  have c4b0:decide (a1≤a0)=false:=decide_eq_false c4
  clear c4
  obtain rfl:=Option.some.inj H
  go_enter Tryz.func46,Tryz.ntmps46
  go_wp2
  go_ret
  exact ⟨by first | rfl | (simp;done) | (simp [*];done),by repeat (first | exact Drawn0.refl _ | apply Drawn0.step)⟩
/-! ### spec_OptionsOk: function 53 -/
def spec_OptionsOk.f (a0_0:Int) (a0_1:Int) (a0_2:Int) (a0_3:Int) (a0_4:Int) (a0_5:Int) (a0_6:Int) (a0_7:Int):Option (Bool):=(spec_Within.f a0_0 2 7).bind fun t111=>(if t111=true then ((spec_Within.f a0_1 2 100).bind fun t112=>(if t112=true then ((spec_Within.f a0_2 1 10).bind fun t113=>(if t113=true then ((spec_Within.f a0_3 1 100).bind fun t114=>(if t114=true then ((spec_Within.f a0_4 1 1099511627776).bind fun t115=>(if t115=true then ((spec_Within.f a0_5 1 1073741824).bind fun t116=>(if t116=true then ((spec_Within.f a0_6 1 1073741824).bind fun t117=>(if t117=true then ((spec_Within.f a0_7 0 1099511627776).bind fun t118=>(some t118)) else (some false))) else (some false))) else (some false))) else (some false))) else (some false))) else (some false))) else (some false))
set_option maxHeartbeats 8000000 in
set_option maxRecDepth 100000 in
theorem spec_OptionsOk.calls (a0_0:Int) (a0_1:Int) (a0_2:Int) (a0_3:Int) (a0_4:Int) (a0_5:Int) (a0_6:Int) (a0_7:Int) (r:Bool) (w:World) (h:spec_OptionsOk.f a0_0 a0_1 a0_2 a0_3 a0_4 a0_5 a0_6 a0_7=some r) :
  Calls Tryz.prog 53 #[.agg #[.int .i64 a0_0,.int .i64 a0_1,.int .i64 a0_2,.int .i64 a0_3,.int .i64 a0_4,.int .i64 a0_5,.int .i64 a0_6,.int .i64 a0_7]] w fun e w'=>e=.returned (.bool r)∧Below w.heap.size w w':=by
 have hu24:=Tryz.underlying24
 have HB:=Aside0.mk (Below.refl w.heap.size w)
 have H:((spec_Within.f a0_0 2 7).bind fun t111=>(if t111=true then ((spec_Within.f a0_1 2 100).bind fun t112=>(if t112=true then ((spec_Within.f a0_2 1 10).bind fun t113=>(if t113=true then ((spec_Within.f a0_3 1 100).bind fun t114=>(if t114=true then ((spec_Within.f a0_4 1 1099511627776).bind fun t115=>(if t115=true then ((spec_Within.f a0_5 1 1073741824).bind fun t116=>(if t116=true then ((spec_Within.f a0_6 1 1073741824).bind fun t117=>(if t117=true then ((spec_Within.f a0_7 0 1099511627776).bind fun t118=>(some t118)) else (some false))) else (some false))) else (some false))) else (some false))) else (some false))) else (some false))) else (some false)))=some r:=h
 clear h
 replace H:=Option.bind_eq_some_iff.mp H
 obtain ⟨t111,A20,H⟩:=H
 replace H:(if t111=true then ((spec_Within.f a0_1 2 100).bind fun t112=>(if t112=true then ((spec_Within.f a0_2 1 10).bind fun t113=>(if t113=true then ((spec_Within.f a0_3 1 100).bind fun t114=>(if t114=true then ((spec_Within.f a0_4 1 1099511627776).bind fun t115=>(if t115=true then ((spec_Within.f a0_5 1 1073741824).bind fun t116=>(if t116=true then ((spec_Within.f a0_6 1 1073741824).bind fun t117=>(if t117=true then ((spec_Within.f a0_7 0 1099511627776).bind fun t118=>(some t118)) else (some false))) else (some false))) else (some false))) else (some false))) else (some false))) else (some false))) else (some false))=some r:=H
 have A2:=Aside0.mk A20
 clear A20
 by_cases c3:t111=true
 ·subst c3
  have H1:((spec_Within.f a0_1 2 100).bind fun t112=>(if t112=true then ((spec_Within.f a0_2 1 10).bind fun t113=>(if t113=true then ((spec_Within.f a0_3 1 100).bind fun t114=>(if t114=true then ((spec_Within.f a0_4 1 1099511627776).bind fun t115=>(if t115=true then ((spec_Within.f a0_5 1 1073741824).bind fun t116=>(if t116=true then ((spec_Within.f a0_6 1 1073741824).bind fun t117=>(if t117=true then ((spec_Within.f a0_7 0 1099511627776).bind fun t118=>(some t118)) else (some false))) else (some false))) else (some false))) else (some false))) else (some false))) else (some false)))=some r:=by rw [if_pos rfl] at H;exact H
  clear H
  have H:=H1
  clear H1
  replace H:=Option.bind_eq_some_iff.mp H
  obtain ⟨t112,A40,H⟩:=H
  replace H:(if t112=true then ((spec_Within.f a0_2 1 10).bind fun t113=>(if t113=true then ((spec_Within.f a0_3 1 100).bind fun t114=>(if t114=true then ((spec_Within.f a0_4 1 1099511627776).bind fun t115=>(if t115=true then ((spec_Within.f a0_5 1 1073741824).bind fun t116=>(if t116=true then ((spec_Within.f a0_6 1 1073741824).bind fun t117=>(if t117=true then ((spec_Within.f a0_7 0 1099511627776).bind fun t118=>(some t118)) else (some false))) else (some false))) else (some false))) else (some false))) else (some false))) else (some false))=some r:=H
  have A4:=Aside0.mk A40
  clear A40
  by_cases c5:t112=true
  ·subst c5
   have H1:((spec_Within.f a0_2 1 10).bind fun t113=>(if t113=true then ((spec_Within.f a0_3 1 100).bind fun t114=>(if t114=true then ((spec_Within.f a0_4 1 1099511627776).bind fun t115=>(if t115=true then ((spec_Within.f a0_5 1 1073741824).bind fun t116=>(if t116=true then ((spec_Within.f a0_6 1 1073741824).bind fun t117=>(if t117=true then ((spec_Within.f a0_7 0 1099511627776).bind fun t118=>(some t118)) else (some false))) else (some false))) else (some false))) else (some false))) else (some false)))=some r:=by rw [if_pos rfl] at H;exact H
   clear H
   have H:=H1
   clear H1
   replace H:=Option.bind_eq_some_iff.mp H
   obtain ⟨t113,A60,H⟩:=H
   replace H:(if t113=true then ((spec_Within.f a0_3 1 100).bind fun t114=>(if t114=true then ((spec_Within.f a0_4 1 1099511627776).bind fun t115=>(if t115=true then ((spec_Within.f a0_5 1 1073741824).bind fun t116=>(if t116=true then ((spec_Within.f a0_6 1 1073741824).bind fun t117=>(if t117=true then ((spec_Within.f a0_7 0 1099511627776).bind fun t118=>(some t118)) else (some false))) else (some false))) else (some false))) else (some false))) else (some false))=some r:=H
   have A6:=Aside0.mk A60
   clear A60
   by_cases c7:t113=true
   ·subst c7
    have H1:((spec_Within.f a0_3 1 100).bind fun t114=>(if t114=true then ((spec_Within.f a0_4 1 1099511627776).bind fun t115=>(if t115=true then ((spec_Within.f a0_5 1 1073741824).bind fun t116=>(if t116=true then ((spec_Within.f a0_6 1 1073741824).bind fun t117=>(if t117=true then ((spec_Within.f a0_7 0 1099511627776).bind fun t118=>(some t118)) else (some false))) else (some false))) else (some false))) else (some false)))=some r:=by rw [if_pos rfl] at H;exact H
    clear H
    have H:=H1
    clear H1
    replace H:=Option.bind_eq_some_iff.mp H
    obtain ⟨t114,A80,H⟩:=H
    replace H:(if t114=true then ((spec_Within.f a0_4 1 1099511627776).bind fun t115=>(if t115=true then ((spec_Within.f a0_5 1 1073741824).bind fun t116=>(if t116=true then ((spec_Within.f a0_6 1 1073741824).bind fun t117=>(if t117=true then ((spec_Within.f a0_7 0 1099511627776).bind fun t118=>(some t118)) else (some false))) else (some false))) else (some false))) else (some false))=some r:=H
    have A8:=Aside0.mk A80
    clear A80
    by_cases c9:t114=true
    ·subst c9
     have H1:((spec_Within.f a0_4 1 1099511627776).bind fun t115=>(if t115=true then ((spec_Within.f a0_5 1 1073741824).bind fun t116=>(if t116=true then ((spec_Within.f a0_6 1 1073741824).bind fun t117=>(if t117=true then ((spec_Within.f a0_7 0 1099511627776).bind fun t118=>(some t118)) else (some false))) else (some false))) else (some false)))=some r:=by rw [if_pos rfl] at H;exact H
     clear H
     have H:=H1
     clear H1
     replace H:=Option.bind_eq_some_iff.mp H
     obtain ⟨t115,A100,H⟩:=H
     replace H:(if t115=true then ((spec_Within.f a0_5 1 1073741824).bind fun t116=>(if t116=true then ((spec_Within.f a0_6 1 1073741824).bind fun t117=>(if t117=true then ((spec_Within.f a0_7 0 1099511627776).bind fun t118=>(some t118)) else (some false))) else (some false))) else (some false))=some r:=H
     have A10:=Aside0.mk A100
     clear A100
     by_cases c11:t115=true
     ·subst c11
      have H1:((spec_Within.f a0_5 1 1073741824).bind fun t116=>(if t116=true then ((spec_Within.f a0_6 1 1073741824).bind fun t117=>(if t117=true then ((spec_Within.f a0_7 0 1099511627776).bind fun t118=>(some t118)) else (some false))) else (some false)))=some r:=by rw [if_pos rfl] at H;exact H
      clear H
      have H:=H1
      clear H1
      replace H:=Option.bind_eq_some_iff.mp H
      obtain ⟨t116,A120,H⟩:=H
      replace H:(if t116=true then ((spec_Within.f a0_6 1 1073741824).bind fun t117=>(if t117=true then ((spec_Within.f a0_7 0 1099511627776).bind fun t118=>(some t118)) else (some false))) else (some false))=some r:=H
      have A12:=Aside0.mk A120
      clear A120
      by_cases c13:t116=true
      ·subst c13
       have H1:((spec_Within.f a0_6 1 1073741824).bind fun t117=>(if t117=true then ((spec_Within.f a0_7 0 1099511627776).bind fun t118=>(some t118)) else (some false)))=some r:=by rw [if_pos rfl] at H;exact H
       clear H
       have H:=H1
       clear H1
       replace H:=Option.bind_eq_some_iff.mp H
       obtain ⟨t117,A140,H⟩:=H
       replace H:(if t117=true then ((spec_Within.f a0_7 0 1099511627776).bind fun t118=>(some t118)) else (some false))=some r:=H
       have A14:=Aside0.mk A140
       clear A140
       by_cases c15:t117=true
       ·subst c15
        have H1:((spec_Within.f a0_7 0 1099511627776).bind fun t118=>(some t118))=some r:=by rw [if_pos rfl] at H;exact H
        clear H
        have H:=H1
        clear H1
        replace H:=Option.bind_eq_some_iff.mp H
        obtain ⟨t118,A160,H⟩:=H
        replace H:(some t118)=some r:=H
        have A16:=Aside0.mk A160
        clear A160
        obtain rfl:=Option.some.inj H
        go_enter Tryz.func53,Tryz.ntmps53
        go_wp2_with (first | ((with_reducible refine gate_dst (N:=1) rfl ?_);refine box_event ?hg (N:=1) ?hd (cs:=#[.int .i64 a0_0,.int .i64 a0_1,.int .i64 a0_2,.int .i64 a0_3,.int .i64 a0_4,.int .i64 a0_5,.int .i64 a0_6,.int .i64 a0_7]) (t:=24) ?hr ?_;(case hd=>rfl);(case hg=>rfl);(case hr=>first | (go_simp;done) | (go_simp;rfl));intro gb110 hg w17 hbox hb;have n0_:=Aside0.mk (below_step (by repeat (first | (with_reducible first | exact HB.out | apply below_alloc | apply pw_below_drewN | apply below_drew1) | exact HB.out)) hb);have n1_:=Aside0.mk (hbox);have n2_:=Aside0.mk ((by rw [hg];exact (below_size (by repeat (first | (with_reducible first | exact HB.out | apply below_alloc | apply pw_below_drewN | apply below_drew1) | exact HB.out))):w.heap.size≤gb110));have n3_:=Aside0.mk ((by rw [hg];exact (below_size (by repeat (first | (with_reducible first | exact HB.out | apply below_alloc | apply pw_below_drewN | apply below_drew1) | exact HB.out))):w.heap.size≤gb110));clear HB;have HB:=n0_;have BK110:=n1_;have GW110:=n2_;have GE110:=n3_;clear n0_ n1_ n2_ n3_;clear hb hbox hg;have hcz18_0:w17.cell? ⟨gb110,0,none⟩=some (.int .i64 a0_0):=(blk_cell BK110.out 0).trans rfl;have hcz18_1:w17.cell? ⟨gb110,1,none⟩=some (.int .i64 a0_1):=(blk_cell BK110.out 1).trans rfl;have hcz18_2:w17.cell? ⟨gb110,2,none⟩=some (.int .i64 a0_2):=(blk_cell BK110.out 2).trans rfl;have hcz18_3:w17.cell? ⟨gb110,3,none⟩=some (.int .i64 a0_3):=(blk_cell BK110.out 3).trans rfl;have hcz18_4:w17.cell? ⟨gb110,4,none⟩=some (.int .i64 a0_4):=(blk_cell BK110.out 4).trans rfl;have hcz18_5:w17.cell? ⟨gb110,5,none⟩=some (.int .i64 a0_5):=(blk_cell BK110.out 5).trans rfl;have hcz18_6:w17.cell? ⟨gb110,6,none⟩=some (.int .i64 a0_6):=(blk_cell BK110.out 6).trans rfl;have hcz18_7:w17.cell? ⟨gb110,7,none⟩=some (.int .i64 a0_7):=(blk_cell BK110.out 7).trans rfl;have hfz18_0:=blk_frozen BK110.out 0;have hfz18_1:=blk_frozen BK110.out 1;have hfz18_2:=blk_frozen BK110.out 2;have hfz18_3:=blk_frozen BK110.out 3;have hfz18_4:=blk_frozen BK110.out 4;have hfz18_5:=blk_frozen BK110.out 5;have hfz18_6:=blk_frozen BK110.out 6;have hfz18_7:=blk_frozen BK110.out 7) | ((with_reducible refine gate_callee (f:=46) rfl ?_);refine goesL_ (some 5) rfl rfl Tryz.func46 (by kernel_rfl) rfl #[.int .i64 a0_0,.int .i64 2,.int .i64 7] rfl (by (try simp only [List.map_toArray,List.map_cons,List.map_nil]);first | done | rfl | (simp only [List.length_drop,List.length_take];rfl)) ?_;(with_reducible refine (spec_Within.calls a0_0 2 7 true _ A2.out).mono ?_);rintro e w' ⟨rfl,⟨nd,rfl⟩⟩;refine ⟨_,rfl,?_⟩) | (go_at_call 46;(with_reducible refine (spec_Within.calls a0_1 2 100 true _ A4.out).mono ?_);rintro e w' ⟨rfl,⟨nd,rfl⟩⟩) | (go_at_call 46;(with_reducible refine (spec_Within.calls a0_2 1 10 true _ A6.out).mono ?_);rintro e w' ⟨rfl,⟨nd,rfl⟩⟩) | (go_at_call 46;(with_reducible refine (spec_Within.calls a0_3 1 100 true _ A8.out).mono ?_);rintro e w' ⟨rfl,⟨nd,rfl⟩⟩) | (go_at_call 46;(with_reducible refine (spec_Within.calls a0_4 1 1099511627776 true _ A10.out).mono ?_);rintro e w' ⟨rfl,⟨nd,rfl⟩⟩) | (go_at_call 46;(with_reducible refine (spec_Within.calls a0_5 1 1073741824 true _ A12.out).mono ?_);rintro e w' ⟨rfl,⟨nd,rfl⟩⟩) | (go_at_call 46;(with_reducible refine (spec_Within.calls a0_6 1 1073741824 true _ A14.out).mono ?_);rintro e w' ⟨rfl,⟨nd,rfl⟩⟩) | (go_at_call 46;(with_reducible refine (spec_Within.calls a0_7 0 1099511627776 t118 _ A16.out).mono ?_);rintro e w' ⟨rfl,⟨nd,rfl⟩⟩))
        go_ret
        exact ⟨by first | rfl | (simp [errW_none,errW_some]<;>rfl) | (simp [*,errW_none,errW_some]<;>rfl),by repeat (first | (with_reducible first | exact HB.out | apply below_alloc | apply pw_below_drewN | apply below_drew1 | refine below_set ?_ GE110.out) | exact HB.out)⟩
       ·replace c15:=Bool.eq_false_iff.mpr c15
        subst c15
        have H1:(some false)=some r:=by rw [if_neg (show ¬ (false=true) by decide)] at H;exact H
        clear H
        have H:=H1
        clear H1
        obtain rfl:=Option.some.inj H
        go_enter Tryz.func53,Tryz.ntmps53
        go_wp2_with (first | ((with_reducible refine gate_dst (N:=1) rfl ?_);refine box_event ?hg (N:=1) ?hd (cs:=#[.int .i64 a0_0,.int .i64 a0_1,.int .i64 a0_2,.int .i64 a0_3,.int .i64 a0_4,.int .i64 a0_5,.int .i64 a0_6,.int .i64 a0_7]) (t:=24) ?hr ?_;(case hd=>rfl);(case hg=>rfl);(case hr=>first | (go_simp;done) | (go_simp;rfl));intro gb110 hg w19 hbox hb;have n0_:=Aside0.mk (below_step (by repeat (first | (with_reducible first | exact HB.out | apply below_alloc | apply pw_below_drewN | apply below_drew1) | exact HB.out)) hb);have n1_:=Aside0.mk (hbox);have n2_:=Aside0.mk ((by rw [hg];exact (below_size (by repeat (first | (with_reducible first | exact HB.out | apply below_alloc | apply pw_below_drewN | apply below_drew1) | exact HB.out))):w.heap.size≤gb110));have n3_:=Aside0.mk ((by rw [hg];exact (below_size (by repeat (first | (with_reducible first | exact HB.out | apply below_alloc | apply pw_below_drewN | apply below_drew1) | exact HB.out))):w.heap.size≤gb110));clear HB;have HB:=n0_;have BK110:=n1_;have GW110:=n2_;have GE110:=n3_;clear n0_ n1_ n2_ n3_;clear hb hbox hg;have hcz20_0:w19.cell? ⟨gb110,0,none⟩=some (.int .i64 a0_0):=(blk_cell BK110.out 0).trans rfl;have hcz20_1:w19.cell? ⟨gb110,1,none⟩=some (.int .i64 a0_1):=(blk_cell BK110.out 1).trans rfl;have hcz20_2:w19.cell? ⟨gb110,2,none⟩=some (.int .i64 a0_2):=(blk_cell BK110.out 2).trans rfl;have hcz20_3:w19.cell? ⟨gb110,3,none⟩=some (.int .i64 a0_3):=(blk_cell BK110.out 3).trans rfl;have hcz20_4:w19.cell? ⟨gb110,4,none⟩=some (.int .i64 a0_4):=(blk_cell BK110.out 4).trans rfl;have hcz20_5:w19.cell? ⟨gb110,5,none⟩=some (.int .i64 a0_5):=(blk_cell BK110.out 5).trans rfl;have hcz20_6:w19.cell? ⟨gb110,6,none⟩=some (.int .i64 a0_6):=(blk_cell BK110.out 6).trans rfl;have hcz20_7:w19.cell? ⟨gb110,7,none⟩=some (.int .i64 a0_7):=(blk_cell BK110.out 7).trans rfl;have hfz20_0:=blk_frozen BK110.out 0;have hfz20_1:=blk_frozen BK110.out 1;have hfz20_2:=blk_frozen BK110.out 2;have hfz20_3:=blk_frozen BK110.out 3;have hfz20_4:=blk_frozen BK110.out 4;have hfz20_5:=blk_frozen BK110.out 5;have hfz20_6:=blk_frozen BK110.out 6;have hfz20_7:=blk_frozen BK110.out 7) | ((with_reducible refine gate_callee (f:=46) rfl ?_);refine goesL_ (some 5) rfl rfl Tryz.func46 (by kernel_rfl) rfl #[.int .i64 a0_0,.int .i64 2,.int .i64 7] rfl (by (try simp only [List.map_toArray,List.map_cons,List.map_nil]);first | done | rfl | (simp only [List.length_drop,List.length_take];rfl)) ?_;(with_reducible refine (spec_Within.calls a0_0 2 7 true _ A2.out).mono ?_);rintro e w' ⟨rfl,⟨nd,rfl⟩⟩;refine ⟨_,rfl,?_⟩) | (go_at_call 46;(with_reducible refine (spec_Within.calls a0_1 2 100 true _ A4.out).mono ?_);rintro e w' ⟨rfl,⟨nd,rfl⟩⟩) | (go_at_call 46;(with_reducible refine (spec_Within.calls a0_2 1 10 true _ A6.out).mono ?_);rintro e w' ⟨rfl,⟨nd,rfl⟩⟩) | (go_at_call 46;(with_reducible refine (spec_Within.calls a0_3 1 100 true _ A8.out).mono ?_);rintro e w' ⟨rfl,⟨nd,rfl⟩⟩) | (go_at_call 46;(with_reducible refine (spec_Within.calls a0_4 1 1099511627776 true _ A10.out).mono ?_);rintro e w' ⟨rfl,⟨nd,rfl⟩⟩) | (go_at_call 46;(with_reducible refine (spec_Within.calls a0_5 1 1073741824 true _ A12.out).mono ?_);rintro e w' ⟨rfl,⟨nd,rfl⟩⟩) | (go_at_call 46;(with_reducible refine (spec_Within.calls a0_6 1 1073741824 false _ A14.out).mono ?_);rintro e w' ⟨rfl,⟨nd,rfl⟩⟩))
        go_ret
        exact ⟨by first | rfl | (simp [errW_none,errW_some]<;>rfl) | (simp [*,errW_none,errW_some]<;>rfl),by repeat (first | (with_reducible first | exact HB.out | apply below_alloc | apply pw_below_drewN | apply below_drew1 | refine below_set ?_ GE110.out) | exact HB.out)⟩
      ·replace c13:=Bool.eq_false_iff.mpr c13
       subst c13
       have H1:(some false)=some r:=by rw [if_neg (show ¬ (false=true) by decide)] at H;exact H
       clear H
       have H:=H1
       clear H1
       obtain rfl:=Option.some.inj H
       go_enter Tryz.func53,Tryz.ntmps53
       go_wp2_with (first | ((with_reducible refine gate_dst (N:=1) rfl ?_);refine box_event ?hg (N:=1) ?hd (cs:=#[.int .i64 a0_0,.int .i64 a0_1,.int .i64 a0_2,.int .i64 a0_3,.int .i64 a0_4,.int .i64 a0_5,.int .i64 a0_6,.int .i64 a0_7]) (t:=24) ?hr ?_;(case hd=>rfl);(case hg=>rfl);(case hr=>first | (go_simp;done) | (go_simp;rfl));intro gb110 hg w21 hbox hb;have n0_:=Aside0.mk (below_step (by repeat (first | (with_reducible first | exact HB.out | apply below_alloc | apply pw_below_drewN | apply below_drew1) | exact HB.out)) hb);have n1_:=Aside0.mk (hbox);have n2_:=Aside0.mk ((by rw [hg];exact (below_size (by repeat (first | (with_reducible first | exact HB.out | apply below_alloc | apply pw_below_drewN | apply below_drew1) | exact HB.out))):w.heap.size≤gb110));have n3_:=Aside0.mk ((by rw [hg];exact (below_size (by repeat (first | (with_reducible first | exact HB.out | apply below_alloc | apply pw_below_drewN | apply below_drew1) | exact HB.out))):w.heap.size≤gb110));clear HB;have HB:=n0_;have BK110:=n1_;have GW110:=n2_;have GE110:=n3_;clear n0_ n1_ n2_ n3_;clear hb hbox hg;have hcz22_0:w21.cell? ⟨gb110,0,none⟩=some (.int .i64 a0_0):=(blk_cell BK110.out 0).trans rfl;have hcz22_1:w21.cell? ⟨gb110,1,none⟩=some (.int .i64 a0_1):=(blk_cell BK110.out 1).trans rfl;have hcz22_2:w21.cell? ⟨gb110,2,none⟩=some (.int .i64 a0_2):=(blk_cell BK110.out 2).trans rfl;have hcz22_3:w21.cell? ⟨gb110,3,none⟩=some (.int .i64 a0_3):=(blk_cell BK110.out 3).trans rfl;have hcz22_4:w21.cell? ⟨gb110,4,none⟩=some (.int .i64 a0_4):=(blk_cell BK110.out 4).trans rfl;have hcz22_5:w21.cell? ⟨gb110,5,none⟩=some (.int .i64 a0_5):=(blk_cell BK110.out 5).trans rfl;have hcz22_6:w21.cell? ⟨gb110,6,none⟩=some (.int .i64 a0_6):=(blk_cell BK110.out 6).trans rfl;have hcz22_7:w21.cell? ⟨gb110,7,none⟩=some (.int .i64 a0_7):=(blk_cell BK110.out 7).trans rfl;have hfz22_0:=blk_frozen BK110.out 0;have hfz22_1:=blk_frozen BK110.out 1;have hfz22_2:=blk_frozen BK110.out 2;have hfz22_3:=blk_frozen BK110.out 3;have hfz22_4:=blk_frozen BK110.out 4;have hfz22_5:=blk_frozen BK110.out 5;have hfz22_6:=blk_frozen BK110.out 6;have hfz22_7:=blk_frozen BK110.out 7) | ((with_reducible refine gate_callee (f:=46) rfl ?_);refine goesL_ (some 5) rfl rfl Tryz.func46 (by kernel_rfl) rfl #[.int .i64 a0_0,.int .i64 2,.int .i64 7] rfl (by (try simp only [List.map_toArray,List.map_cons,List.map_nil]);first | done | rfl | (simp only [List.length_drop,List.length_take];rfl)) ?_;(with_reducible refine (spec_Within.calls a0_0 2 7 true _ A2.out).mono ?_);rintro e w' ⟨rfl,⟨nd,rfl⟩⟩;refine ⟨_,rfl,?_⟩) | (go_at_call 46;(with_reducible refine (spec_Within.calls a0_1 2 100 true _ A4.out).mono ?_);rintro e w' ⟨rfl,⟨nd,rfl⟩⟩) | (go_at_call 46;(with_reducible refine (spec_Within.calls a0_2 1 10 true _ A6.out).mono ?_);rintro e w' ⟨rfl,⟨nd,rfl⟩⟩) | (go_at_call 46;(with_reducible refine (spec_Within.calls a0_3 1 100 true _ A8.out).mono ?_);rintro e w' ⟨rfl,⟨nd,rfl⟩⟩) | (go_at_call 46;(with_reducible refine (spec_Within.calls a0_4 1 1099511627776 true _ A10.out).mono ?_);rintro e w' ⟨rfl,⟨nd,rfl⟩⟩) | (go_at_call 46;(with_reducible refine (spec_Within.calls a0_5 1 1073741824 false _ A12.out).mono ?_);rintro e w' ⟨rfl,⟨nd,rfl⟩⟩))
       go_ret
       exact ⟨by first | rfl | (simp [errW_none,errW_some]<;>rfl) | (simp [*,errW_none,errW_some]<;>rfl),by repeat (first | (with_reducible first | exact HB.out | apply below_alloc | apply pw_below_drewN | apply below_drew1 | refine below_set ?_ GE110.out) | exact HB.out)⟩
     ·replace c11:=Bool.eq_false_iff.mpr c11
      subst c11
      have H1:(some false)=some r:=by rw [if_neg (show ¬ (false=true) by decide)] at H;exact H
      clear H
      have H:=H1
      clear H1
      obtain rfl:=Option.some.inj H
      go_enter Tryz.func53,Tryz.ntmps53
      go_wp2_with (first | ((with_reducible refine gate_dst (N:=1) rfl ?_);refine box_event ?hg (N:=1) ?hd (cs:=#[.int .i64 a0_0,.int .i64 a0_1,.int .i64 a0_2,.int .i64 a0_3,.int .i64 a0_4,.int .i64 a0_5,.int .i64 a0_6,.int .i64 a0_7]) (t:=24) ?hr ?_;(case hd=>rfl);(case hg=>rfl);(case hr=>first | (go_simp;done) | (go_simp;rfl));intro gb110 hg w23 hbox hb;have n0_:=Aside0.mk (below_step (by repeat (first | (with_reducible first | exact HB.out | apply below_alloc | apply pw_below_drewN | apply below_drew1) | exact HB.out)) hb);have n1_:=Aside0.mk (hbox);have n2_:=Aside0.mk ((by rw [hg];exact (below_size (by repeat (first | (with_reducible first | exact HB.out | apply below_alloc | apply pw_below_drewN | apply below_drew1) | exact HB.out))):w.heap.size≤gb110));have n3_:=Aside0.mk ((by rw [hg];exact (below_size (by repeat (first | (with_reducible first | exact HB.out | apply below_alloc | apply pw_below_drewN | apply below_drew1) | exact HB.out))):w.heap.size≤gb110));clear HB;have HB:=n0_;have BK110:=n1_;have GW110:=n2_;have GE110:=n3_;clear n0_ n1_ n2_ n3_;clear hb hbox hg;have hcz24_0:w23.cell? ⟨gb110,0,none⟩=some (.int .i64 a0_0):=(blk_cell BK110.out 0).trans rfl;have hcz24_1:w23.cell? ⟨gb110,1,none⟩=some (.int .i64 a0_1):=(blk_cell BK110.out 1).trans rfl;have hcz24_2:w23.cell? ⟨gb110,2,none⟩=some (.int .i64 a0_2):=(blk_cell BK110.out 2).trans rfl;have hcz24_3:w23.cell? ⟨gb110,3,none⟩=some (.int .i64 a0_3):=(blk_cell BK110.out 3).trans rfl;have hcz24_4:w23.cell? ⟨gb110,4,none⟩=some (.int .i64 a0_4):=(blk_cell BK110.out 4).trans rfl;have hcz24_5:w23.cell? ⟨gb110,5,none⟩=some (.int .i64 a0_5):=(blk_cell BK110.out 5).trans rfl;have hcz24_6:w23.cell? ⟨gb110,6,none⟩=some (.int .i64 a0_6):=(blk_cell BK110.out 6).trans rfl;have hcz24_7:w23.cell? ⟨gb110,7,none⟩=some (.int .i64 a0_7):=(blk_cell BK110.out 7).trans rfl;have hfz24_0:=blk_frozen BK110.out 0;have hfz24_1:=blk_frozen BK110.out 1;have hfz24_2:=blk_frozen BK110.out 2;have hfz24_3:=blk_frozen BK110.out 3;have hfz24_4:=blk_frozen BK110.out 4;have hfz24_5:=blk_frozen BK110.out 5;have hfz24_6:=blk_frozen BK110.out 6;have hfz24_7:=blk_frozen BK110.out 7) | ((with_reducible refine gate_callee (f:=46) rfl ?_);refine goesL_ (some 5) rfl rfl Tryz.func46 (by kernel_rfl) rfl #[.int .i64 a0_0,.int .i64 2,.int .i64 7] rfl (by (try simp only [List.map_toArray,List.map_cons,List.map_nil]);first | done | rfl | (simp only [List.length_drop,List.length_take];rfl)) ?_;(with_reducible refine (spec_Within.calls a0_0 2 7 true _ A2.out).mono ?_);rintro e w' ⟨rfl,⟨nd,rfl⟩⟩;refine ⟨_,rfl,?_⟩) | (go_at_call 46;(with_reducible refine (spec_Within.calls a0_1 2 100 true _ A4.out).mono ?_);rintro e w' ⟨rfl,⟨nd,rfl⟩⟩) | (go_at_call 46;(with_reducible refine (spec_Within.calls a0_2 1 10 true _ A6.out).mono ?_);rintro e w' ⟨rfl,⟨nd,rfl⟩⟩) | (go_at_call 46;(with_reducible refine (spec_Within.calls a0_3 1 100 true _ A8.out).mono ?_);rintro e w' ⟨rfl,⟨nd,rfl⟩⟩) | (go_at_call 46;(with_reducible refine (spec_Within.calls a0_4 1 1099511627776 false _ A10.out).mono ?_);rintro e w' ⟨rfl,⟨nd,rfl⟩⟩))
      go_ret
      exact ⟨by first | rfl | (simp [errW_none,errW_some]<;>rfl) | (simp [*,errW_none,errW_some]<;>rfl),by repeat (first | (with_reducible first | exact HB.out | apply below_alloc | apply pw_below_drewN | apply below_drew1 | refine below_set ?_ GE110.out) | exact HB.out)⟩
    ·replace c9:=Bool.eq_false_iff.mpr c9
     subst c9
     have H1:(some false)=some r:=by rw [if_neg (show ¬ (false=true) by decide)] at H;exact H
     clear H
     have H:=H1
     clear H1
     obtain rfl:=Option.some.inj H
     go_enter Tryz.func53,Tryz.ntmps53
     go_wp2_with (first | ((with_reducible refine gate_dst (N:=1) rfl ?_);refine box_event ?hg (N:=1) ?hd (cs:=#[.int .i64 a0_0,.int .i64 a0_1,.int .i64 a0_2,.int .i64 a0_3,.int .i64 a0_4,.int .i64 a0_5,.int .i64 a0_6,.int .i64 a0_7]) (t:=24) ?hr ?_;(case hd=>rfl);(case hg=>rfl);(case hr=>first | (go_simp;done) | (go_simp;rfl));intro gb110 hg w25 hbox hb;have n0_:=Aside0.mk (below_step (by repeat (first | (with_reducible first | exact HB.out | apply below_alloc | apply pw_below_drewN | apply below_drew1) | exact HB.out)) hb);have n1_:=Aside0.mk (hbox);have n2_:=Aside0.mk ((by rw [hg];exact (below_size (by repeat (first | (with_reducible first | exact HB.out | apply below_alloc | apply pw_below_drewN | apply below_drew1) | exact HB.out))):w.heap.size≤gb110));have n3_:=Aside0.mk ((by rw [hg];exact (below_size (by repeat (first | (with_reducible first | exact HB.out | apply below_alloc | apply pw_below_drewN | apply below_drew1) | exact HB.out))):w.heap.size≤gb110));clear HB;have HB:=n0_;have BK110:=n1_;have GW110:=n2_;have GE110:=n3_;clear n0_ n1_ n2_ n3_;clear hb hbox hg;have hcz26_0:w25.cell? ⟨gb110,0,none⟩=some (.int .i64 a0_0):=(blk_cell BK110.out 0).trans rfl;have hcz26_1:w25.cell? ⟨gb110,1,none⟩=some (.int .i64 a0_1):=(blk_cell BK110.out 1).trans rfl;have hcz26_2:w25.cell? ⟨gb110,2,none⟩=some (.int .i64 a0_2):=(blk_cell BK110.out 2).trans rfl;have hcz26_3:w25.cell? ⟨gb110,3,none⟩=some (.int .i64 a0_3):=(blk_cell BK110.out 3).trans rfl;have hcz26_4:w25.cell? ⟨gb110,4,none⟩=some (.int .i64 a0_4):=(blk_cell BK110.out 4).trans rfl;have hcz26_5:w25.cell? ⟨gb110,5,none⟩=some (.int .i64 a0_5):=(blk_cell BK110.out 5).trans rfl;have hcz26_6:w25.cell? ⟨gb110,6,none⟩=some (.int .i64 a0_6):=(blk_cell BK110.out 6).trans rfl;have hcz26_7:w25.cell? ⟨gb110,7,none⟩=some (.int .i64 a0_7):=(blk_cell BK110.out 7).trans rfl;have hfz26_0:=blk_frozen BK110.out 0;have hfz26_1:=blk_frozen BK110.out 1;have hfz26_2:=blk_frozen BK110.out 2;have hfz26_3:=blk_frozen BK110.out 3;have hfz26_4:=blk_frozen BK110.out 4;have hfz26_5:=blk_frozen BK110.out 5;have hfz26_6:=blk_frozen BK110.out 6;have hfz26_7:=blk_frozen BK110.out 7) | ((with_reducible refine gate_callee (f:=46) rfl ?_);refine goesL_ (some 5) rfl rfl Tryz.func46 (by kernel_rfl) rfl #[.int .i64 a0_0,.int .i64 2,.int .i64 7] rfl (by (try simp only [List.map_toArray,List.map_cons,List.map_nil]);first | done | rfl | (simp only [List.length_drop,List.length_take];rfl)) ?_;(with_reducible refine (spec_Within.calls a0_0 2 7 true _ A2.out).mono ?_);rintro e w' ⟨rfl,⟨nd,rfl⟩⟩;refine ⟨_,rfl,?_⟩) | (go_at_call 46;(with_reducible refine (spec_Within.calls a0_1 2 100 true _ A4.out).mono ?_);rintro e w' ⟨rfl,⟨nd,rfl⟩⟩) | (go_at_call 46;(with_reducible refine (spec_Within.calls a0_2 1 10 true _ A6.out).mono ?_);rintro e w' ⟨rfl,⟨nd,rfl⟩⟩) | (go_at_call 46;(with_reducible refine (spec_Within.calls a0_3 1 100 false _ A8.out).mono ?_);rintro e w' ⟨rfl,⟨nd,rfl⟩⟩))
     go_ret
     exact ⟨by first | rfl | (simp [errW_none,errW_some]<;>rfl) | (simp [*,errW_none,errW_some]<;>rfl),by repeat (first | (with_reducible first | exact HB.out | apply below_alloc | apply pw_below_drewN | apply below_drew1 | refine below_set ?_ GE110.out) | exact HB.out)⟩
   ·replace c7:=Bool.eq_false_iff.mpr c7
    subst c7
    have H1:(some false)=some r:=by rw [if_neg (show ¬ (false=true) by decide)] at H;exact H
    clear H
    have H:=H1
    clear H1
    obtain rfl:=Option.some.inj H
    go_enter Tryz.func53,Tryz.ntmps53
    go_wp2_with (first | ((with_reducible refine gate_dst (N:=1) rfl ?_);refine box_event ?hg (N:=1) ?hd (cs:=#[.int .i64 a0_0,.int .i64 a0_1,.int .i64 a0_2,.int .i64 a0_3,.int .i64 a0_4,.int .i64 a0_5,.int .i64 a0_6,.int .i64 a0_7]) (t:=24) ?hr ?_;(case hd=>rfl);(case hg=>rfl);(case hr=>first | (go_simp;done) | (go_simp;rfl));intro gb110 hg w27 hbox hb;have n0_:=Aside0.mk (below_step (by repeat (first | (with_reducible first | exact HB.out | apply below_alloc | apply pw_below_drewN | apply below_drew1) | exact HB.out)) hb);have n1_:=Aside0.mk (hbox);have n2_:=Aside0.mk ((by rw [hg];exact (below_size (by repeat (first | (with_reducible first | exact HB.out | apply below_alloc | apply pw_below_drewN | apply below_drew1) | exact HB.out))):w.heap.size≤gb110));have n3_:=Aside0.mk ((by rw [hg];exact (below_size (by repeat (first | (with_reducible first | exact HB.out | apply below_alloc | apply pw_below_drewN | apply below_drew1) | exact HB.out))):w.heap.size≤gb110));clear HB;have HB:=n0_;have BK110:=n1_;have GW110:=n2_;have GE110:=n3_;clear n0_ n1_ n2_ n3_;clear hb hbox hg;have hcz28_0:w27.cell? ⟨gb110,0,none⟩=some (.int .i64 a0_0):=(blk_cell BK110.out 0).trans rfl;have hcz28_1:w27.cell? ⟨gb110,1,none⟩=some (.int .i64 a0_1):=(blk_cell BK110.out 1).trans rfl;have hcz28_2:w27.cell? ⟨gb110,2,none⟩=some (.int .i64 a0_2):=(blk_cell BK110.out 2).trans rfl;have hcz28_3:w27.cell? ⟨gb110,3,none⟩=some (.int .i64 a0_3):=(blk_cell BK110.out 3).trans rfl;have hcz28_4:w27.cell? ⟨gb110,4,none⟩=some (.int .i64 a0_4):=(blk_cell BK110.out 4).trans rfl;have hcz28_5:w27.cell? ⟨gb110,5,none⟩=some (.int .i64 a0_5):=(blk_cell BK110.out 5).trans rfl;have hcz28_6:w27.cell? ⟨gb110,6,none⟩=some (.int .i64 a0_6):=(blk_cell BK110.out 6).trans rfl;have hcz28_7:w27.cell? ⟨gb110,7,none⟩=some (.int .i64 a0_7):=(blk_cell BK110.out 7).trans rfl;have hfz28_0:=blk_frozen BK110.out 0;have hfz28_1:=blk_frozen BK110.out 1;have hfz28_2:=blk_frozen BK110.out 2;have hfz28_3:=blk_frozen BK110.out 3;have hfz28_4:=blk_frozen BK110.out 4;have hfz28_5:=blk_frozen BK110.out 5;have hfz28_6:=blk_frozen BK110.out 6;have hfz28_7:=blk_frozen BK110.out 7) | ((with_reducible refine gate_callee (f:=46) rfl ?_);refine goesL_ (some 5) rfl rfl Tryz.func46 (by kernel_rfl) rfl #[.int .i64 a0_0,.int .i64 2,.int .i64 7] rfl (by (try simp only [List.map_toArray,List.map_cons,List.map_nil]);first | done | rfl | (simp only [List.length_drop,List.length_take];rfl)) ?_;(with_reducible refine (spec_Within.calls a0_0 2 7 true _ A2.out).mono ?_);rintro e w' ⟨rfl,⟨nd,rfl⟩⟩;refine ⟨_,rfl,?_⟩) | (go_at_call 46;(with_reducible refine (spec_Within.calls a0_1 2 100 true _ A4.out).mono ?_);rintro e w' ⟨rfl,⟨nd,rfl⟩⟩) | (go_at_call 46;(with_reducible refine (spec_Within.calls a0_2 1 10 false _ A6.out).mono ?_);rintro e w' ⟨rfl,⟨nd,rfl⟩⟩))
    go_ret
    exact ⟨by first | rfl | (simp [errW_none,errW_some]<;>rfl) | (simp [*,errW_none,errW_some]<;>rfl),by repeat (first | (with_reducible first | exact HB.out | apply below_alloc | apply pw_below_drewN | apply below_drew1 | refine below_set ?_ GE110.out) | exact HB.out)⟩
  ·replace c5:=Bool.eq_false_iff.mpr c5
   subst c5
   have H1:(some false)=some r:=by rw [if_neg (show ¬ (false=true) by decide)] at H;exact H
   clear H
   have H:=H1
   clear H1
   obtain rfl:=Option.some.inj H
   go_enter Tryz.func53,Tryz.ntmps53
   go_wp2_with (first | ((with_reducible refine gate_dst (N:=1) rfl ?_);refine box_event ?hg (N:=1) ?hd (cs:=#[.int .i64 a0_0,.int .i64 a0_1,.int .i64 a0_2,.int .i64 a0_3,.int .i64 a0_4,.int .i64 a0_5,.int .i64 a0_6,.int .i64 a0_7]) (t:=24) ?hr ?_;(case hd=>rfl);(case hg=>rfl);(case hr=>first | (go_simp;done) | (go_simp;rfl));intro gb110 hg w29 hbox hb;have n0_:=Aside0.mk (below_step (by repeat (first | (with_reducible first | exact HB.out | apply below_alloc | apply pw_below_drewN | apply below_drew1) | exact HB.out)) hb);have n1_:=Aside0.mk (hbox);have n2_:=Aside0.mk ((by rw [hg];exact (below_size (by repeat (first | (with_reducible first | exact HB.out | apply below_alloc | apply pw_below_drewN | apply below_drew1) | exact HB.out))):w.heap.size≤gb110));have n3_:=Aside0.mk ((by rw [hg];exact (below_size (by repeat (first | (with_reducible first | exact HB.out | apply below_alloc | apply pw_below_drewN | apply below_drew1) | exact HB.out))):w.heap.size≤gb110));clear HB;have HB:=n0_;have BK110:=n1_;have GW110:=n2_;have GE110:=n3_;clear n0_ n1_ n2_ n3_;clear hb hbox hg;have hcz30_0:w29.cell? ⟨gb110,0,none⟩=some (.int .i64 a0_0):=(blk_cell BK110.out 0).trans rfl;have hcz30_1:w29.cell? ⟨gb110,1,none⟩=some (.int .i64 a0_1):=(blk_cell BK110.out 1).trans rfl;have hcz30_2:w29.cell? ⟨gb110,2,none⟩=some (.int .i64 a0_2):=(blk_cell BK110.out 2).trans rfl;have hcz30_3:w29.cell? ⟨gb110,3,none⟩=some (.int .i64 a0_3):=(blk_cell BK110.out 3).trans rfl;have hcz30_4:w29.cell? ⟨gb110,4,none⟩=some (.int .i64 a0_4):=(blk_cell BK110.out 4).trans rfl;have hcz30_5:w29.cell? ⟨gb110,5,none⟩=some (.int .i64 a0_5):=(blk_cell BK110.out 5).trans rfl;have hcz30_6:w29.cell? ⟨gb110,6,none⟩=some (.int .i64 a0_6):=(blk_cell BK110.out 6).trans rfl;have hcz30_7:w29.cell? ⟨gb110,7,none⟩=some (.int .i64 a0_7):=(blk_cell BK110.out 7).trans rfl;have hfz30_0:=blk_frozen BK110.out 0;have hfz30_1:=blk_frozen BK110.out 1;have hfz30_2:=blk_frozen BK110.out 2;have hfz30_3:=blk_frozen BK110.out 3;have hfz30_4:=blk_frozen BK110.out 4;have hfz30_5:=blk_frozen BK110.out 5;have hfz30_6:=blk_frozen BK110.out 6;have hfz30_7:=blk_frozen BK110.out 7) | ((with_reducible refine gate_callee (f:=46) rfl ?_);refine goesL_ (some 5) rfl rfl Tryz.func46 (by kernel_rfl) rfl #[.int .i64 a0_0,.int .i64 2,.int .i64 7] rfl (by (try simp only [List.map_toArray,List.map_cons,List.map_nil]);first | done | rfl | (simp only [List.length_drop,List.length_take];rfl)) ?_;(with_reducible refine (spec_Within.calls a0_0 2 7 true _ A2.out).mono ?_);rintro e w' ⟨rfl,⟨nd,rfl⟩⟩;refine ⟨_,rfl,?_⟩) | (go_at_call 46;(with_reducible refine (spec_Within.calls a0_1 2 100 false _ A4.out).mono ?_);rintro e w' ⟨rfl,⟨nd,rfl⟩⟩))
   go_ret
   exact ⟨by first | rfl | (simp [errW_none,errW_some]<;>rfl) | (simp [*,errW_none,errW_some]<;>rfl),by repeat (first | (with_reducible first | exact HB.out | apply below_alloc | apply pw_below_drewN | apply below_drew1 | refine below_set ?_ GE110.out) | exact HB.out)⟩
 ·replace c3:=Bool.eq_false_iff.mpr c3
  subst c3
  have H1:(some false)=some r:=by rw [if_neg (show ¬ (false=true) by decide)] at H;exact H
  clear H
  have H:=H1
  clear H1
  obtain rfl:=Option.some.inj H
  go_enter Tryz.func53,Tryz.ntmps53
  go_wp2_with (first | ((with_reducible refine gate_dst (N:=1) rfl ?_);refine box_event ?hg (N:=1) ?hd (cs:=#[.int .i64 a0_0,.int .i64 a0_1,.int .i64 a0_2,.int .i64 a0_3,.int .i64 a0_4,.int .i64 a0_5,.int .i64 a0_6,.int .i64 a0_7]) (t:=24) ?hr ?_;(case hd=>rfl);(case hg=>rfl);(case hr=>first | (go_simp;done) | (go_simp;rfl));intro gb110 hg w31 hbox hb;have n0_:=Aside0.mk (below_step (by repeat (first | (with_reducible first | exact HB.out | apply below_alloc | apply pw_below_drewN | apply below_drew1) | exact HB.out)) hb);have n1_:=Aside0.mk (hbox);have n2_:=Aside0.mk ((by rw [hg];exact (below_size (by repeat (first | (with_reducible first | exact HB.out | apply below_alloc | apply pw_below_drewN | apply below_drew1) | exact HB.out))):w.heap.size≤gb110));have n3_:=Aside0.mk ((by rw [hg];exact (below_size (by repeat (first | (with_reducible first | exact HB.out | apply below_alloc | apply pw_below_drewN | apply below_drew1) | exact HB.out))):w.heap.size≤gb110));clear HB;have HB:=n0_;have BK110:=n1_;have GW110:=n2_;have GE110:=n3_;clear n0_ n1_ n2_ n3_;clear hb hbox hg;have hcz32_0:w31.cell? ⟨gb110,0,none⟩=some (.int .i64 a0_0):=(blk_cell BK110.out 0).trans rfl;have hcz32_1:w31.cell? ⟨gb110,1,none⟩=some (.int .i64 a0_1):=(blk_cell BK110.out 1).trans rfl;have hcz32_2:w31.cell? ⟨gb110,2,none⟩=some (.int .i64 a0_2):=(blk_cell BK110.out 2).trans rfl;have hcz32_3:w31.cell? ⟨gb110,3,none⟩=some (.int .i64 a0_3):=(blk_cell BK110.out 3).trans rfl;have hcz32_4:w31.cell? ⟨gb110,4,none⟩=some (.int .i64 a0_4):=(blk_cell BK110.out 4).trans rfl;have hcz32_5:w31.cell? ⟨gb110,5,none⟩=some (.int .i64 a0_5):=(blk_cell BK110.out 5).trans rfl;have hcz32_6:w31.cell? ⟨gb110,6,none⟩=some (.int .i64 a0_6):=(blk_cell BK110.out 6).trans rfl;have hcz32_7:w31.cell? ⟨gb110,7,none⟩=some (.int .i64 a0_7):=(blk_cell BK110.out 7).trans rfl;have hfz32_0:=blk_frozen BK110.out 0;have hfz32_1:=blk_frozen BK110.out 1;have hfz32_2:=blk_frozen BK110.out 2;have hfz32_3:=blk_frozen BK110.out 3;have hfz32_4:=blk_frozen BK110.out 4;have hfz32_5:=blk_frozen BK110.out 5;have hfz32_6:=blk_frozen BK110.out 6;have hfz32_7:=blk_frozen BK110.out 7) | ((with_reducible refine gate_callee (f:=46) rfl ?_);refine goesL_ (some 5) rfl rfl Tryz.func46 (by kernel_rfl) rfl #[.int .i64 a0_0,.int .i64 2,.int .i64 7] rfl (by (try simp only [List.map_toArray,List.map_cons,List.map_nil]);first | done | rfl | (simp only [List.length_drop,List.length_take];rfl)) ?_;(with_reducible refine (spec_Within.calls a0_0 2 7 false _ A2.out).mono ?_);rintro e w' ⟨rfl,⟨nd,rfl⟩⟩;refine ⟨_,rfl,?_⟩))
  go_ret
  exact ⟨by first | rfl | (simp [errW_none,errW_some]<;>rfl) | (simp [*,errW_none,errW_some]<;>rfl),by repeat (first | (with_reducible first | exact HB.out | apply below_alloc | apply pw_below_drewN | apply below_drew1 | refine below_set ?_ GE110.out) | exact HB.out)⟩
/-! ### spec_tableOk: function 54 -/
def spec_tableOk.f (a0_0:Int) (a0_1:ByteArray) (a0_2:Int) (a0_3:ByteArray) (a0_4:Int) (a0_5:Int) (a0_6:Int) (a0_7:Int) (a0_8:Int):Option (Bool):=(spec_Within.f a0_0 1 1099511627776).bind fun t120=>(if t120=true then ((spec_Within.f a0_5 1 17179869184).bind fun t121=>(if t121=true then ((spec_Within.f a0_2 0 1099511627776).bind fun t122=>(if t122=true then ((spec_Within.f a0_4 0 1099511627776).bind fun t123=>(if t123=true then ((spec_Within.f a0_6 0 1099511627776).bind fun t124=>(if t124=true then ((spec_Within.f a0_7 0 1073741824).bind fun t125=>(if t125=true then ((spec_Within.f a0_8 0 1073741824).bind fun t126=>(if t126=true then (if (Op.bytesLess a0_1.toList a0_3.toList)=true then (some true) else (if a0_1.toList=a0_3.toList then (some (decide (a0_2 ≥ a0_4))) else (some false))) else (some false))) else (some false))) else (some false))) else (some false))) else (some false))) else (some false))) else (some false))
set_option maxHeartbeats 8000000 in
set_option maxRecDepth 100000 in
theorem spec_tableOk.calls (a0_0:Int) (a0_1:ByteArray) (a0_2:Int) (a0_3:ByteArray) (a0_4:Int) (a0_5:Int) (a0_6:Int) (a0_7:Int) (a0_8:Int) (r:Bool) (w:World) (h:spec_tableOk.f a0_0 a0_1 a0_2 a0_3 a0_4 a0_5 a0_6 a0_7 a0_8=some r) :
  Calls Tryz.prog 54 #[.agg #[.int .i64 a0_0,.string a0_1,.int .i64 a0_2,.string a0_3,.int .i64 a0_4,.int .i64 a0_5,.int .i64 a0_6,.int .i64 a0_7,.int .i64 a0_8]] w fun e w'=>e=.returned (.bool r)∧Below w.heap.size w w':=by
 have hu68:=Tryz.underlying68
 have HB:=Aside0.mk (Below.refl w.heap.size w)
 have H:((spec_Within.f a0_0 1 1099511627776).bind fun t120=>(if t120=true then ((spec_Within.f a0_5 1 17179869184).bind fun t121=>(if t121=true then ((spec_Within.f a0_2 0 1099511627776).bind fun t122=>(if t122=true then ((spec_Within.f a0_4 0 1099511627776).bind fun t123=>(if t123=true then ((spec_Within.f a0_6 0 1099511627776).bind fun t124=>(if t124=true then ((spec_Within.f a0_7 0 1073741824).bind fun t125=>(if t125=true then ((spec_Within.f a0_8 0 1073741824).bind fun t126=>(if t126=true then (if (Op.bytesLess a0_1.toList a0_3.toList)=true then (some true) else (if a0_1.toList=a0_3.toList then (some (decide (a0_2 ≥ a0_4))) else (some false))) else (some false))) else (some false))) else (some false))) else (some false))) else (some false))) else (some false))) else (some false)))=some r:=h
 clear h
 replace H:=Option.bind_eq_some_iff.mp H
 obtain ⟨t120,A20,H⟩:=H
 replace H:(if t120=true then ((spec_Within.f a0_5 1 17179869184).bind fun t121=>(if t121=true then ((spec_Within.f a0_2 0 1099511627776).bind fun t122=>(if t122=true then ((spec_Within.f a0_4 0 1099511627776).bind fun t123=>(if t123=true then ((spec_Within.f a0_6 0 1099511627776).bind fun t124=>(if t124=true then ((spec_Within.f a0_7 0 1073741824).bind fun t125=>(if t125=true then ((spec_Within.f a0_8 0 1073741824).bind fun t126=>(if t126=true then (if (Op.bytesLess a0_1.toList a0_3.toList)=true then (some true) else (if a0_1.toList=a0_3.toList then (some (decide (a0_2 ≥ a0_4))) else (some false))) else (some false))) else (some false))) else (some false))) else (some false))) else (some false))) else (some false))) else (some false))=some r:=H
 have A2:=Aside0.mk A20
 clear A20
 by_cases c3:t120=true
 ·subst c3
  have H1:((spec_Within.f a0_5 1 17179869184).bind fun t121=>(if t121=true then ((spec_Within.f a0_2 0 1099511627776).bind fun t122=>(if t122=true then ((spec_Within.f a0_4 0 1099511627776).bind fun t123=>(if t123=true then ((spec_Within.f a0_6 0 1099511627776).bind fun t124=>(if t124=true then ((spec_Within.f a0_7 0 1073741824).bind fun t125=>(if t125=true then ((spec_Within.f a0_8 0 1073741824).bind fun t126=>(if t126=true then (if (Op.bytesLess a0_1.toList a0_3.toList)=true then (some true) else (if a0_1.toList=a0_3.toList then (some (decide (a0_2 ≥ a0_4))) else (some false))) else (some false))) else (some false))) else (some false))) else (some false))) else (some false))) else (some false)))=some r:=by rw [if_pos rfl] at H;exact H
  clear H
  have H:=H1
  clear H1
  replace H:=Option.bind_eq_some_iff.mp H
  obtain ⟨t121,A40,H⟩:=H
  replace H:(if t121=true then ((spec_Within.f a0_2 0 1099511627776).bind fun t122=>(if t122=true then ((spec_Within.f a0_4 0 1099511627776).bind fun t123=>(if t123=true then ((spec_Within.f a0_6 0 1099511627776).bind fun t124=>(if t124=true then ((spec_Within.f a0_7 0 1073741824).bind fun t125=>(if t125=true then ((spec_Within.f a0_8 0 1073741824).bind fun t126=>(if t126=true then (if (Op.bytesLess a0_1.toList a0_3.toList)=true then (some true) else (if a0_1.toList=a0_3.toList then (some (decide (a0_2 ≥ a0_4))) else (some false))) else (some false))) else (some false))) else (some false))) else (some false))) else (some false))) else (some false))=some r:=H
  have A4:=Aside0.mk A40
  clear A40
  by_cases c5:t121=true
  ·subst c5
   have H1:((spec_Within.f a0_2 0 1099511627776).bind fun t122=>(if t122=true then ((spec_Within.f a0_4 0 1099511627776).bind fun t123=>(if t123=true then ((spec_Within.f a0_6 0 1099511627776).bind fun t124=>(if t124=true then ((spec_Within.f a0_7 0 1073741824).bind fun t125=>(if t125=true then ((spec_Within.f a0_8 0 1073741824).bind fun t126=>(if t126=true then (if (Op.bytesLess a0_1.toList a0_3.toList)=true then (some true) else (if a0_1.toList=a0_3.toList then (some (decide (a0_2 ≥ a0_4))) else (some false))) else (some false))) else (some false))) else (some false))) else (some false))) else (some false)))=some r:=by rw [if_pos rfl] at H;exact H
   clear H
   have H:=H1
   clear H1
   replace H:=Option.bind_eq_some_iff.mp H
   obtain ⟨t122,A60,H⟩:=H
   replace H:(if t122=true then ((spec_Within.f a0_4 0 1099511627776).bind fun t123=>(if t123=true then ((spec_Within.f a0_6 0 1099511627776).bind fun t124=>(if t124=true then ((spec_Within.f a0_7 0 1073741824).bind fun t125=>(if t125=true then ((spec_Within.f a0_8 0 1073741824).bind fun t126=>(if t126=true then (if (Op.bytesLess a0_1.toList a0_3.toList)=true then (some true) else (if a0_1.toList=a0_3.toList then (some (decide (a0_2 ≥ a0_4))) else (some false))) else (some false))) else (some false))) else (some false))) else (some false))) else (some false))=some r:=H
   have A6:=Aside0.mk A60
   clear A60
   by_cases c7:t122=true
   ·subst c7
    have H1:((spec_Within.f a0_4 0 1099511627776).bind fun t123=>(if t123=true then ((spec_Within.f a0_6 0 1099511627776).bind fun t124=>(if t124=true then ((spec_Within.f a0_7 0 1073741824).bind fun t125=>(if t125=true then ((spec_Within.f a0_8 0 1073741824).bind fun t126=>(if t126=true then (if (Op.bytesLess a0_1.toList a0_3.toList)=true then (some true) else (if a0_1.toList=a0_3.toList then (some (decide (a0_2 ≥ a0_4))) else (some false))) else (some false))) else (some false))) else (some false))) else (some false)))=some r:=by rw [if_pos rfl] at H;exact H
    clear H
    have H:=H1
    clear H1
    replace H:=Option.bind_eq_some_iff.mp H
    obtain ⟨t123,A80,H⟩:=H
    replace H:(if t123=true then ((spec_Within.f a0_6 0 1099511627776).bind fun t124=>(if t124=true then ((spec_Within.f a0_7 0 1073741824).bind fun t125=>(if t125=true then ((spec_Within.f a0_8 0 1073741824).bind fun t126=>(if t126=true then (if (Op.bytesLess a0_1.toList a0_3.toList)=true then (some true) else (if a0_1.toList=a0_3.toList then (some (decide (a0_2 ≥ a0_4))) else (some false))) else (some false))) else (some false))) else (some false))) else (some false))=some r:=H
    have A8:=Aside0.mk A80
    clear A80
    by_cases c9:t123=true
    ·subst c9
     have H1:((spec_Within.f a0_6 0 1099511627776).bind fun t124=>(if t124=true then ((spec_Within.f a0_7 0 1073741824).bind fun t125=>(if t125=true then ((spec_Within.f a0_8 0 1073741824).bind fun t126=>(if t126=true then (if (Op.bytesLess a0_1.toList a0_3.toList)=true then (some true) else (if a0_1.toList=a0_3.toList then (some (decide (a0_2 ≥ a0_4))) else (some false))) else (some false))) else (some false))) else (some false)))=some r:=by rw [if_pos rfl] at H;exact H
     clear H
     have H:=H1
     clear H1
     replace H:=Option.bind_eq_some_iff.mp H
     obtain ⟨t124,A100,H⟩:=H
     replace H:(if t124=true then ((spec_Within.f a0_7 0 1073741824).bind fun t125=>(if t125=true then ((spec_Within.f a0_8 0 1073741824).bind fun t126=>(if t126=true then (if (Op.bytesLess a0_1.toList a0_3.toList)=true then (some true) else (if a0_1.toList=a0_3.toList then (some (decide (a0_2 ≥ a0_4))) else (some false))) else (some false))) else (some false))) else (some false))=some r:=H
     have A10:=Aside0.mk A100
     clear A100
     by_cases c11:t124=true
     ·subst c11
      have H1:((spec_Within.f a0_7 0 1073741824).bind fun t125=>(if t125=true then ((spec_Within.f a0_8 0 1073741824).bind fun t126=>(if t126=true then (if (Op.bytesLess a0_1.toList a0_3.toList)=true then (some true) else (if a0_1.toList=a0_3.toList then (some (decide (a0_2 ≥ a0_4))) else (some false))) else (some false))) else (some false)))=some r:=by rw [if_pos rfl] at H;exact H
      clear H
      have H:=H1
      clear H1
      replace H:=Option.bind_eq_some_iff.mp H
      obtain ⟨t125,A120,H⟩:=H
      replace H:(if t125=true then ((spec_Within.f a0_8 0 1073741824).bind fun t126=>(if t126=true then (if (Op.bytesLess a0_1.toList a0_3.toList)=true then (some true) else (if a0_1.toList=a0_3.toList then (some (decide (a0_2 ≥ a0_4))) else (some false))) else (some false))) else (some false))=some r:=H
      have A12:=Aside0.mk A120
      clear A120
      by_cases c13:t125=true
      ·subst c13
       have H1:((spec_Within.f a0_8 0 1073741824).bind fun t126=>(if t126=true then (if (Op.bytesLess a0_1.toList a0_3.toList)=true then (some true) else (if a0_1.toList=a0_3.toList then (some (decide (a0_2 ≥ a0_4))) else (some false))) else (some false)))=some r:=by rw [if_pos rfl] at H;exact H
       clear H
       have H:=H1
       clear H1
       replace H:=Option.bind_eq_some_iff.mp H
       obtain ⟨t126,A140,H⟩:=H
       replace H:(if t126=true then (if (Op.bytesLess a0_1.toList a0_3.toList)=true then (some true) else (if a0_1.toList=a0_3.toList then (some (decide (a0_2 ≥ a0_4))) else (some false))) else (some false))=some r:=H
       have A14:=Aside0.mk A140
       clear A140
       by_cases c15:t126=true
       ·subst c15
        have H1:(if (Op.bytesLess a0_1.toList a0_3.toList)=true then (some true) else (if a0_1.toList=a0_3.toList then (some (decide (a0_2 ≥ a0_4))) else (some false)))=some r:=by rw [if_pos rfl] at H;exact H
        clear H
        have H:=H1
        clear H1
        by_cases c16:(Op.bytesLess a0_1.toList a0_3.toList)=true
        ·rw [if_pos c16] at H
         have c16b0:(Op.bytesLess a0_1.toList a0_3.toList)=true:=c16
         clear c16
         obtain rfl:=Option.some.inj H
         go_enter Tryz.func54,Tryz.ntmps54
         go_wp2_with (first | ((with_reducible refine gate_dst (N:=1) rfl ?_);refine box_event ?hg (N:=1) ?hd (cs:=#[.int .i64 a0_0,.string a0_1,.int .i64 a0_2,.string a0_3,.int .i64 a0_4,.int .i64 a0_5,.int .i64 a0_6,.int .i64 a0_7,.int .i64 a0_8]) (t:=68) ?hr ?_;(case hd=>rfl);(case hg=>rfl);(case hr=>first | (go_simp;done) | (go_simp;rfl));intro gb119 hg w17 hbox hb;have n0_:=Aside0.mk (below_step (by repeat (first | (with_reducible first | exact HB.out | apply below_alloc | apply pw_below_drewN | apply below_drew1) | exact HB.out)) hb);have n1_:=Aside0.mk (hbox);have n2_:=Aside0.mk ((by rw [hg];exact (below_size (by repeat (first | (with_reducible first | exact HB.out | apply below_alloc | apply pw_below_drewN | apply below_drew1) | exact HB.out))):w.heap.size≤gb119));have n3_:=Aside0.mk ((by rw [hg];exact (below_size (by repeat (first | (with_reducible first | exact HB.out | apply below_alloc | apply pw_below_drewN | apply below_drew1) | exact HB.out))):w.heap.size≤gb119));clear HB;have HB:=n0_;have BK119:=n1_;have GW119:=n2_;have GE119:=n3_;clear n0_ n1_ n2_ n3_;clear hb hbox hg;have hcz18_0:w17.cell? ⟨gb119,0,none⟩=some (.int .i64 a0_0):=(blk_cell BK119.out 0).trans rfl;have hcz18_1:w17.cell? ⟨gb119,1,none⟩=some (.string a0_1):=(blk_cell BK119.out 1).trans rfl;have hcz18_2:w17.cell? ⟨gb119,2,none⟩=some (.int .i64 a0_2):=(blk_cell BK119.out 2).trans rfl;have hcz18_3:w17.cell? ⟨gb119,3,none⟩=some (.string a0_3):=(blk_cell BK119.out 3).trans rfl;have hcz18_4:w17.cell? ⟨gb119,4,none⟩=some (.int .i64 a0_4):=(blk_cell BK119.out 4).trans rfl;have hcz18_5:w17.cell? ⟨gb119,5,none⟩=some (.int .i64 a0_5):=(blk_cell BK119.out 5).trans rfl;have hcz18_6:w17.cell? ⟨gb119,6,none⟩=some (.int .i64 a0_6):=(blk_cell BK119.out 6).trans rfl;have hcz18_7:w17.cell? ⟨gb119,7,none⟩=some (.int .i64 a0_7):=(blk_cell BK119.out 7).trans rfl;have hcz18_8:w17.cell? ⟨gb119,8,none⟩=some (.int .i64 a0_8):=(blk_cell BK119.out 8).trans rfl;have hfz18_0:=blk_frozen BK119.out 0;have hfz18_1:=blk_frozen BK119.out 1;have hfz18_2:=blk_frozen BK119.out 2;have hfz18_3:=blk_frozen BK119.out 3;have hfz18_4:=blk_frozen BK119.out 4;have hfz18_5:=blk_frozen BK119.out 5;have hfz18_6:=blk_frozen BK119.out 6;have hfz18_7:=blk_frozen BK119.out 7;have hfz18_8:=blk_frozen BK119.out 8) | ((with_reducible refine gate_callee (f:=46) rfl ?_);refine goesL_ (some 5) rfl rfl Tryz.func46 (by kernel_rfl) rfl #[.int .i64 a0_0,.int .i64 1,.int .i64 1099511627776] rfl (by (try simp only [List.map_toArray,List.map_cons,List.map_nil]);first | done | rfl | (simp only [List.length_drop,List.length_take];rfl)) ?_;(with_reducible refine (spec_Within.calls a0_0 1 1099511627776 true _ A2.out).mono ?_);rintro e w' ⟨rfl,⟨nd,rfl⟩⟩;refine ⟨_,rfl,?_⟩) | (go_at_call 46;(with_reducible refine (spec_Within.calls a0_5 1 17179869184 true _ A4.out).mono ?_);rintro e w' ⟨rfl,⟨nd,rfl⟩⟩) | (go_at_call 46;(with_reducible refine (spec_Within.calls a0_2 0 1099511627776 true _ A6.out).mono ?_);rintro e w' ⟨rfl,⟨nd,rfl⟩⟩) | (go_at_call 46;(with_reducible refine (spec_Within.calls a0_4 0 1099511627776 true _ A8.out).mono ?_);rintro e w' ⟨rfl,⟨nd,rfl⟩⟩) | (go_at_call 46;(with_reducible refine (spec_Within.calls a0_6 0 1099511627776 true _ A10.out).mono ?_);rintro e w' ⟨rfl,⟨nd,rfl⟩⟩) | (go_at_call 46;(with_reducible refine (spec_Within.calls a0_7 0 1073741824 true _ A12.out).mono ?_);rintro e w' ⟨rfl,⟨nd,rfl⟩⟩) | (go_at_call 46;(with_reducible refine (spec_Within.calls a0_8 0 1073741824 true _ A14.out).mono ?_);rintro e w' ⟨rfl,⟨nd,rfl⟩⟩))
         go_ret
         exact ⟨by first | rfl | (simp [errW_none,errW_some]<;>rfl) | (simp [*,errW_none,errW_some]<;>rfl),by repeat (first | (with_reducible first | exact HB.out | apply below_alloc | apply pw_below_drewN | apply below_drew1 | refine below_set ?_ GE119.out) | exact HB.out)⟩
        ·rw [if_neg c16] at H
         have c16b0:(Op.bytesLess a0_1.toList a0_3.toList)=false:=by simpa using c16
         clear c16
         by_cases c19:a0_1.toList=a0_3.toList
         ·rw [if_pos c19] at H
          have c19b0:(a0_1.toList == a0_3.toList)=true:=beq_iff_eq.mpr c19
          have c19b1:(a0_1.toList != a0_3.toList)=false:=bne_eq_false_iff_eq.mpr c19
          clear c19
          obtain rfl:=Option.some.inj H
          go_enter Tryz.func54,Tryz.ntmps54
          go_wp2_with (first | ((with_reducible refine gate_dst (N:=1) rfl ?_);refine box_event ?hg (N:=1) ?hd (cs:=#[.int .i64 a0_0,.string a0_1,.int .i64 a0_2,.string a0_3,.int .i64 a0_4,.int .i64 a0_5,.int .i64 a0_6,.int .i64 a0_7,.int .i64 a0_8]) (t:=68) ?hr ?_;(case hd=>rfl);(case hg=>rfl);(case hr=>first | (go_simp;done) | (go_simp;rfl));intro gb119 hg w20 hbox hb;have n0_:=Aside0.mk (below_step (by repeat (first | (with_reducible first | exact HB.out | apply below_alloc | apply pw_below_drewN | apply below_drew1) | exact HB.out)) hb);have n1_:=Aside0.mk (hbox);have n2_:=Aside0.mk ((by rw [hg];exact (below_size (by repeat (first | (with_reducible first | exact HB.out | apply below_alloc | apply pw_below_drewN | apply below_drew1) | exact HB.out))):w.heap.size≤gb119));have n3_:=Aside0.mk ((by rw [hg];exact (below_size (by repeat (first | (with_reducible first | exact HB.out | apply below_alloc | apply pw_below_drewN | apply below_drew1) | exact HB.out))):w.heap.size≤gb119));clear HB;have HB:=n0_;have BK119:=n1_;have GW119:=n2_;have GE119:=n3_;clear n0_ n1_ n2_ n3_;clear hb hbox hg;have hcz21_0:w20.cell? ⟨gb119,0,none⟩=some (.int .i64 a0_0):=(blk_cell BK119.out 0).trans rfl;have hcz21_1:w20.cell? ⟨gb119,1,none⟩=some (.string a0_1):=(blk_cell BK119.out 1).trans rfl;have hcz21_2:w20.cell? ⟨gb119,2,none⟩=some (.int .i64 a0_2):=(blk_cell BK119.out 2).trans rfl;have hcz21_3:w20.cell? ⟨gb119,3,none⟩=some (.string a0_3):=(blk_cell BK119.out 3).trans rfl;have hcz21_4:w20.cell? ⟨gb119,4,none⟩=some (.int .i64 a0_4):=(blk_cell BK119.out 4).trans rfl;have hcz21_5:w20.cell? ⟨gb119,5,none⟩=some (.int .i64 a0_5):=(blk_cell BK119.out 5).trans rfl;have hcz21_6:w20.cell? ⟨gb119,6,none⟩=some (.int .i64 a0_6):=(blk_cell BK119.out 6).trans rfl;have hcz21_7:w20.cell? ⟨gb119,7,none⟩=some (.int .i64 a0_7):=(blk_cell BK119.out 7).trans rfl;have hcz21_8:w20.cell? ⟨gb119,8,none⟩=some (.int .i64 a0_8):=(blk_cell BK119.out 8).trans rfl;have hfz21_0:=blk_frozen BK119.out 0;have hfz21_1:=blk_frozen BK119.out 1;have hfz21_2:=blk_frozen BK119.out 2;have hfz21_3:=blk_frozen BK119.out 3;have hfz21_4:=blk_frozen BK119.out 4;have hfz21_5:=blk_frozen BK119.out 5;have hfz21_6:=blk_frozen BK119.out 6;have hfz21_7:=blk_frozen BK119.out 7;have hfz21_8:=blk_frozen BK119.out 8) | ((with_reducible refine gate_callee (f:=46) rfl ?_);refine goesL_ (some 5) rfl rfl Tryz.func46 (by kernel_rfl) rfl #[.int .i64 a0_0,.int .i64 1,.int .i64 1099511627776] rfl (by (try simp only [List.map_toArray,List.map_cons,List.map_nil]);first | done | rfl | (simp only [List.length_drop,List.length_take];rfl)) ?_;(with_reducible refine (spec_Within.calls a0_0 1 1099511627776 true _ A2.out).mono ?_);rintro e w' ⟨rfl,⟨nd,rfl⟩⟩;refine ⟨_,rfl,?_⟩) | (go_at_call 46;(with_reducible refine (spec_Within.calls a0_5 1 17179869184 true _ A4.out).mono ?_);rintro e w' ⟨rfl,⟨nd,rfl⟩⟩) | (go_at_call 46;(with_reducible refine (spec_Within.calls a0_2 0 1099511627776 true _ A6.out).mono ?_);rintro e w' ⟨rfl,⟨nd,rfl⟩⟩) | (go_at_call 46;(with_reducible refine (spec_Within.calls a0_4 0 1099511627776 true _ A8.out).mono ?_);rintro e w' ⟨rfl,⟨nd,rfl⟩⟩) | (go_at_call 46;(with_reducible refine (spec_Within.calls a0_6 0 1099511627776 true _ A10.out).mono ?_);rintro e w' ⟨rfl,⟨nd,rfl⟩⟩) | (go_at_call 46;(with_reducible refine (spec_Within.calls a0_7 0 1073741824 true _ A12.out).mono ?_);rintro e w' ⟨rfl,⟨nd,rfl⟩⟩) | (go_at_call 46;(with_reducible refine (spec_Within.calls a0_8 0 1073741824 true _ A14.out).mono ?_);rintro e w' ⟨rfl,⟨nd,rfl⟩⟩))
          go_ret
          exact ⟨by first | rfl | (simp [errW_none,errW_some]<;>rfl) | (simp [*,errW_none,errW_some]<;>rfl),by repeat (first | (with_reducible first | exact HB.out | apply below_alloc | apply pw_below_drewN | apply below_drew1 | refine below_set ?_ GE119.out) | exact HB.out)⟩
         ·rw [if_neg c19] at H
          have c19b0:(a0_1.toList == a0_3.toList)=false:=beq_eq_false_iff_ne.mpr c19
          have c19b1:(a0_1.toList != a0_3.toList)=true:=bne_iff_ne.mpr c19
          obtain rfl:=Option.some.inj H
          go_enter Tryz.func54,Tryz.ntmps54
          go_wp2_with (first | ((with_reducible refine gate_dst (N:=1) rfl ?_);refine box_event ?hg (N:=1) ?hd (cs:=#[.int .i64 a0_0,.string a0_1,.int .i64 a0_2,.string a0_3,.int .i64 a0_4,.int .i64 a0_5,.int .i64 a0_6,.int .i64 a0_7,.int .i64 a0_8]) (t:=68) ?hr ?_;(case hd=>rfl);(case hg=>rfl);(case hr=>first | (go_simp;done) | (go_simp;rfl));intro gb119 hg w22 hbox hb;have n0_:=Aside0.mk (below_step (by repeat (first | (with_reducible first | exact HB.out | apply below_alloc | apply pw_below_drewN | apply below_drew1) | exact HB.out)) hb);have n1_:=Aside0.mk (hbox);have n2_:=Aside0.mk ((by rw [hg];exact (below_size (by repeat (first | (with_reducible first | exact HB.out | apply below_alloc | apply pw_below_drewN | apply below_drew1) | exact HB.out))):w.heap.size≤gb119));have n3_:=Aside0.mk ((by rw [hg];exact (below_size (by repeat (first | (with_reducible first | exact HB.out | apply below_alloc | apply pw_below_drewN | apply below_drew1) | exact HB.out))):w.heap.size≤gb119));clear HB;have HB:=n0_;have BK119:=n1_;have GW119:=n2_;have GE119:=n3_;clear n0_ n1_ n2_ n3_;clear hb hbox hg;have hcz23_0:w22.cell? ⟨gb119,0,none⟩=some (.int .i64 a0_0):=(blk_cell BK119.out 0).trans rfl;have hcz23_1:w22.cell? ⟨gb119,1,none⟩=some (.string a0_1):=(blk_cell BK119.out 1).trans rfl;have hcz23_2:w22.cell? ⟨gb119,2,none⟩=some (.int .i64 a0_2):=(blk_cell BK119.out 2).trans rfl;have hcz23_3:w22.cell? ⟨gb119,3,none⟩=some (.string a0_3):=(blk_cell BK119.out 3).trans rfl;have hcz23_4:w22.cell? ⟨gb119,4,none⟩=some (.int .i64 a0_4):=(blk_cell BK119.out 4).trans rfl;have hcz23_5:w22.cell? ⟨gb119,5,none⟩=some (.int .i64 a0_5):=(blk_cell BK119.out 5).trans rfl;have hcz23_6:w22.cell? ⟨gb119,6,none⟩=some (.int .i64 a0_6):=(blk_cell BK119.out 6).trans rfl;have hcz23_7:w22.cell? ⟨gb119,7,none⟩=some (.int .i64 a0_7):=(blk_cell BK119.out 7).trans rfl;have hcz23_8:w22.cell? ⟨gb119,8,none⟩=some (.int .i64 a0_8):=(blk_cell BK119.out 8).trans rfl;have hfz23_0:=blk_frozen BK119.out 0;have hfz23_1:=blk_frozen BK119.out 1;have hfz23_2:=blk_frozen BK119.out 2;have hfz23_3:=blk_frozen BK119.out 3;have hfz23_4:=blk_frozen BK119.out 4;have hfz23_5:=blk_frozen BK119.out 5;have hfz23_6:=blk_frozen BK119.out 6;have hfz23_7:=blk_frozen BK119.out 7;have hfz23_8:=blk_frozen BK119.out 8) | ((with_reducible refine gate_callee (f:=46) rfl ?_);refine goesL_ (some 5) rfl rfl Tryz.func46 (by kernel_rfl) rfl #[.int .i64 a0_0,.int .i64 1,.int .i64 1099511627776] rfl (by (try simp only [List.map_toArray,List.map_cons,List.map_nil]);first | done | rfl | (simp only [List.length_drop,List.length_take];rfl)) ?_;(with_reducible refine (spec_Within.calls a0_0 1 1099511627776 true _ A2.out).mono ?_);rintro e w' ⟨rfl,⟨nd,rfl⟩⟩;refine ⟨_,rfl,?_⟩) | (go_at_call 46;(with_reducible refine (spec_Within.calls a0_5 1 17179869184 true _ A4.out).mono ?_);rintro e w' ⟨rfl,⟨nd,rfl⟩⟩) | (go_at_call 46;(with_reducible refine (spec_Within.calls a0_2 0 1099511627776 true _ A6.out).mono ?_);rintro e w' ⟨rfl,⟨nd,rfl⟩⟩) | (go_at_call 46;(with_reducible refine (spec_Within.calls a0_4 0 1099511627776 true _ A8.out).mono ?_);rintro e w' ⟨rfl,⟨nd,rfl⟩⟩) | (go_at_call 46;(with_reducible refine (spec_Within.calls a0_6 0 1099511627776 true _ A10.out).mono ?_);rintro e w' ⟨rfl,⟨nd,rfl⟩⟩) | (go_at_call 46;(with_reducible refine (spec_Within.calls a0_7 0 1073741824 true _ A12.out).mono ?_);rintro e w' ⟨rfl,⟨nd,rfl⟩⟩) | (go_at_call 46;(with_reducible refine (spec_Within.calls a0_8 0 1073741824 true _ A14.out).mono ?_);rintro e w' ⟨rfl,⟨nd,rfl⟩⟩))
          go_ret
          exact ⟨by first | rfl | (simp [errW_none,errW_some]<;>rfl) | (simp [*,errW_none,errW_some]<;>rfl),by repeat (first | (with_reducible first | exact HB.out | apply below_alloc | apply pw_below_drewN | apply below_drew1 | refine below_set ?_ GE119.out) | exact HB.out)⟩
       ·replace c15:=Bool.eq_false_iff.mpr c15
        subst c15
        have H1:(some false)=some r:=by rw [if_neg (show ¬ (false=true) by decide)] at H;exact H
        clear H
        have H:=H1
        clear H1
        obtain rfl:=Option.some.inj H
        go_enter Tryz.func54,Tryz.ntmps54
        go_wp2_with (first | ((with_reducible refine gate_dst (N:=1) rfl ?_);refine box_event ?hg (N:=1) ?hd (cs:=#[.int .i64 a0_0,.string a0_1,.int .i64 a0_2,.string a0_3,.int .i64 a0_4,.int .i64 a0_5,.int .i64 a0_6,.int .i64 a0_7,.int .i64 a0_8]) (t:=68) ?hr ?_;(case hd=>rfl);(case hg=>rfl);(case hr=>first | (go_simp;done) | (go_simp;rfl));intro gb119 hg w24 hbox hb;have n0_:=Aside0.mk (below_step (by repeat (first | (with_reducible first | exact HB.out | apply below_alloc | apply pw_below_drewN | apply below_drew1) | exact HB.out)) hb);have n1_:=Aside0.mk (hbox);have n2_:=Aside0.mk ((by rw [hg];exact (below_size (by repeat (first | (with_reducible first | exact HB.out | apply below_alloc | apply pw_below_drewN | apply below_drew1) | exact HB.out))):w.heap.size≤gb119));have n3_:=Aside0.mk ((by rw [hg];exact (below_size (by repeat (first | (with_reducible first | exact HB.out | apply below_alloc | apply pw_below_drewN | apply below_drew1) | exact HB.out))):w.heap.size≤gb119));clear HB;have HB:=n0_;have BK119:=n1_;have GW119:=n2_;have GE119:=n3_;clear n0_ n1_ n2_ n3_;clear hb hbox hg;have hcz25_0:w24.cell? ⟨gb119,0,none⟩=some (.int .i64 a0_0):=(blk_cell BK119.out 0).trans rfl;have hcz25_1:w24.cell? ⟨gb119,1,none⟩=some (.string a0_1):=(blk_cell BK119.out 1).trans rfl;have hcz25_2:w24.cell? ⟨gb119,2,none⟩=some (.int .i64 a0_2):=(blk_cell BK119.out 2).trans rfl;have hcz25_3:w24.cell? ⟨gb119,3,none⟩=some (.string a0_3):=(blk_cell BK119.out 3).trans rfl;have hcz25_4:w24.cell? ⟨gb119,4,none⟩=some (.int .i64 a0_4):=(blk_cell BK119.out 4).trans rfl;have hcz25_5:w24.cell? ⟨gb119,5,none⟩=some (.int .i64 a0_5):=(blk_cell BK119.out 5).trans rfl;have hcz25_6:w24.cell? ⟨gb119,6,none⟩=some (.int .i64 a0_6):=(blk_cell BK119.out 6).trans rfl;have hcz25_7:w24.cell? ⟨gb119,7,none⟩=some (.int .i64 a0_7):=(blk_cell BK119.out 7).trans rfl;have hcz25_8:w24.cell? ⟨gb119,8,none⟩=some (.int .i64 a0_8):=(blk_cell BK119.out 8).trans rfl;have hfz25_0:=blk_frozen BK119.out 0;have hfz25_1:=blk_frozen BK119.out 1;have hfz25_2:=blk_frozen BK119.out 2;have hfz25_3:=blk_frozen BK119.out 3;have hfz25_4:=blk_frozen BK119.out 4;have hfz25_5:=blk_frozen BK119.out 5;have hfz25_6:=blk_frozen BK119.out 6;have hfz25_7:=blk_frozen BK119.out 7;have hfz25_8:=blk_frozen BK119.out 8) | ((with_reducible refine gate_callee (f:=46) rfl ?_);refine goesL_ (some 5) rfl rfl Tryz.func46 (by kernel_rfl) rfl #[.int .i64 a0_0,.int .i64 1,.int .i64 1099511627776] rfl (by (try simp only [List.map_toArray,List.map_cons,List.map_nil]);first | done | rfl | (simp only [List.length_drop,List.length_take];rfl)) ?_;(with_reducible refine (spec_Within.calls a0_0 1 1099511627776 true _ A2.out).mono ?_);rintro e w' ⟨rfl,⟨nd,rfl⟩⟩;refine ⟨_,rfl,?_⟩) | (go_at_call 46;(with_reducible refine (spec_Within.calls a0_5 1 17179869184 true _ A4.out).mono ?_);rintro e w' ⟨rfl,⟨nd,rfl⟩⟩) | (go_at_call 46;(with_reducible refine (spec_Within.calls a0_2 0 1099511627776 true _ A6.out).mono ?_);rintro e w' ⟨rfl,⟨nd,rfl⟩⟩) | (go_at_call 46;(with_reducible refine (spec_Within.calls a0_4 0 1099511627776 true _ A8.out).mono ?_);rintro e w' ⟨rfl,⟨nd,rfl⟩⟩) | (go_at_call 46;(with_reducible refine (spec_Within.calls a0_6 0 1099511627776 true _ A10.out).mono ?_);rintro e w' ⟨rfl,⟨nd,rfl⟩⟩) | (go_at_call 46;(with_reducible refine (spec_Within.calls a0_7 0 1073741824 true _ A12.out).mono ?_);rintro e w' ⟨rfl,⟨nd,rfl⟩⟩) | (go_at_call 46;(with_reducible refine (spec_Within.calls a0_8 0 1073741824 false _ A14.out).mono ?_);rintro e w' ⟨rfl,⟨nd,rfl⟩⟩))
        go_ret
        exact ⟨by first | rfl | (simp [errW_none,errW_some]<;>rfl) | (simp [*,errW_none,errW_some]<;>rfl),by repeat (first | (with_reducible first | exact HB.out | apply below_alloc | apply pw_below_drewN | apply below_drew1 | refine below_set ?_ GE119.out) | exact HB.out)⟩
      ·replace c13:=Bool.eq_false_iff.mpr c13
       subst c13
       have H1:(some false)=some r:=by rw [if_neg (show ¬ (false=true) by decide)] at H;exact H
       clear H
       have H:=H1
       clear H1
       obtain rfl:=Option.some.inj H
       go_enter Tryz.func54,Tryz.ntmps54
       go_wp2_with (first | ((with_reducible refine gate_dst (N:=1) rfl ?_);refine box_event ?hg (N:=1) ?hd (cs:=#[.int .i64 a0_0,.string a0_1,.int .i64 a0_2,.string a0_3,.int .i64 a0_4,.int .i64 a0_5,.int .i64 a0_6,.int .i64 a0_7,.int .i64 a0_8]) (t:=68) ?hr ?_;(case hd=>rfl);(case hg=>rfl);(case hr=>first | (go_simp;done) | (go_simp;rfl));intro gb119 hg w26 hbox hb;have n0_:=Aside0.mk (below_step (by repeat (first | (with_reducible first | exact HB.out | apply below_alloc | apply pw_below_drewN | apply below_drew1) | exact HB.out)) hb);have n1_:=Aside0.mk (hbox);have n2_:=Aside0.mk ((by rw [hg];exact (below_size (by repeat (first | (with_reducible first | exact HB.out | apply below_alloc | apply pw_below_drewN | apply below_drew1) | exact HB.out))):w.heap.size≤gb119));have n3_:=Aside0.mk ((by rw [hg];exact (below_size (by repeat (first | (with_reducible first | exact HB.out | apply below_alloc | apply pw_below_drewN | apply below_drew1) | exact HB.out))):w.heap.size≤gb119));clear HB;have HB:=n0_;have BK119:=n1_;have GW119:=n2_;have GE119:=n3_;clear n0_ n1_ n2_ n3_;clear hb hbox hg;have hcz27_0:w26.cell? ⟨gb119,0,none⟩=some (.int .i64 a0_0):=(blk_cell BK119.out 0).trans rfl;have hcz27_1:w26.cell? ⟨gb119,1,none⟩=some (.string a0_1):=(blk_cell BK119.out 1).trans rfl;have hcz27_2:w26.cell? ⟨gb119,2,none⟩=some (.int .i64 a0_2):=(blk_cell BK119.out 2).trans rfl;have hcz27_3:w26.cell? ⟨gb119,3,none⟩=some (.string a0_3):=(blk_cell BK119.out 3).trans rfl;have hcz27_4:w26.cell? ⟨gb119,4,none⟩=some (.int .i64 a0_4):=(blk_cell BK119.out 4).trans rfl;have hcz27_5:w26.cell? ⟨gb119,5,none⟩=some (.int .i64 a0_5):=(blk_cell BK119.out 5).trans rfl;have hcz27_6:w26.cell? ⟨gb119,6,none⟩=some (.int .i64 a0_6):=(blk_cell BK119.out 6).trans rfl;have hcz27_7:w26.cell? ⟨gb119,7,none⟩=some (.int .i64 a0_7):=(blk_cell BK119.out 7).trans rfl;have hcz27_8:w26.cell? ⟨gb119,8,none⟩=some (.int .i64 a0_8):=(blk_cell BK119.out 8).trans rfl;have hfz27_0:=blk_frozen BK119.out 0;have hfz27_1:=blk_frozen BK119.out 1;have hfz27_2:=blk_frozen BK119.out 2;have hfz27_3:=blk_frozen BK119.out 3;have hfz27_4:=blk_frozen BK119.out 4;have hfz27_5:=blk_frozen BK119.out 5;have hfz27_6:=blk_frozen BK119.out 6;have hfz27_7:=blk_frozen BK119.out 7;have hfz27_8:=blk_frozen BK119.out 8) | ((with_reducible refine gate_callee (f:=46) rfl ?_);refine goesL_ (some 5) rfl rfl Tryz.func46 (by kernel_rfl) rfl #[.int .i64 a0_0,.int .i64 1,.int .i64 1099511627776] rfl (by (try simp only [List.map_toArray,List.map_cons,List.map_nil]);first | done | rfl | (simp only [List.length_drop,List.length_take];rfl)) ?_;(with_reducible refine (spec_Within.calls a0_0 1 1099511627776 true _ A2.out).mono ?_);rintro e w' ⟨rfl,⟨nd,rfl⟩⟩;refine ⟨_,rfl,?_⟩) | (go_at_call 46;(with_reducible refine (spec_Within.calls a0_5 1 17179869184 true _ A4.out).mono ?_);rintro e w' ⟨rfl,⟨nd,rfl⟩⟩) | (go_at_call 46;(with_reducible refine (spec_Within.calls a0_2 0 1099511627776 true _ A6.out).mono ?_);rintro e w' ⟨rfl,⟨nd,rfl⟩⟩) | (go_at_call 46;(with_reducible refine (spec_Within.calls a0_4 0 1099511627776 true _ A8.out).mono ?_);rintro e w' ⟨rfl,⟨nd,rfl⟩⟩) | (go_at_call 46;(with_reducible refine (spec_Within.calls a0_6 0 1099511627776 true _ A10.out).mono ?_);rintro e w' ⟨rfl,⟨nd,rfl⟩⟩) | (go_at_call 46;(with_reducible refine (spec_Within.calls a0_7 0 1073741824 false _ A12.out).mono ?_);rintro e w' ⟨rfl,⟨nd,rfl⟩⟩))
       go_ret
       exact ⟨by first | rfl | (simp [errW_none,errW_some]<;>rfl) | (simp [*,errW_none,errW_some]<;>rfl),by repeat (first | (with_reducible first | exact HB.out | apply below_alloc | apply pw_below_drewN | apply below_drew1 | refine below_set ?_ GE119.out) | exact HB.out)⟩
     ·replace c11:=Bool.eq_false_iff.mpr c11
      subst c11
      have H1:(some false)=some r:=by rw [if_neg (show ¬ (false=true) by decide)] at H;exact H
      clear H
      have H:=H1
      clear H1
      obtain rfl:=Option.some.inj H
      go_enter Tryz.func54,Tryz.ntmps54
      go_wp2_with (first | ((with_reducible refine gate_dst (N:=1) rfl ?_);refine box_event ?hg (N:=1) ?hd (cs:=#[.int .i64 a0_0,.string a0_1,.int .i64 a0_2,.string a0_3,.int .i64 a0_4,.int .i64 a0_5,.int .i64 a0_6,.int .i64 a0_7,.int .i64 a0_8]) (t:=68) ?hr ?_;(case hd=>rfl);(case hg=>rfl);(case hr=>first | (go_simp;done) | (go_simp;rfl));intro gb119 hg w28 hbox hb;have n0_:=Aside0.mk (below_step (by repeat (first | (with_reducible first | exact HB.out | apply below_alloc | apply pw_below_drewN | apply below_drew1) | exact HB.out)) hb);have n1_:=Aside0.mk (hbox);have n2_:=Aside0.mk ((by rw [hg];exact (below_size (by repeat (first | (with_reducible first | exact HB.out | apply below_alloc | apply pw_below_drewN | apply below_drew1) | exact HB.out))):w.heap.size≤gb119));have n3_:=Aside0.mk ((by rw [hg];exact (below_size (by repeat (first | (with_reducible first | exact HB.out | apply below_alloc | apply pw_below_drewN | apply below_drew1) | exact HB.out))):w.heap.size≤gb119));clear HB;have HB:=n0_;have BK119:=n1_;have GW119:=n2_;have GE119:=n3_;clear n0_ n1_ n2_ n3_;clear hb hbox hg;have hcz29_0:w28.cell? ⟨gb119,0,none⟩=some (.int .i64 a0_0):=(blk_cell BK119.out 0).trans rfl;have hcz29_1:w28.cell? ⟨gb119,1,none⟩=some (.string a0_1):=(blk_cell BK119.out 1).trans rfl;have hcz29_2:w28.cell? ⟨gb119,2,none⟩=some (.int .i64 a0_2):=(blk_cell BK119.out 2).trans rfl;have hcz29_3:w28.cell? ⟨gb119,3,none⟩=some (.string a0_3):=(blk_cell BK119.out 3).trans rfl;have hcz29_4:w28.cell? ⟨gb119,4,none⟩=some (.int .i64 a0_4):=(blk_cell BK119.out 4).trans rfl;have hcz29_5:w28.cell? ⟨gb119,5,none⟩=some (.int .i64 a0_5):=(blk_cell BK119.out 5).trans rfl;have hcz29_6:w28.cell? ⟨gb119,6,none⟩=some (.int .i64 a0_6):=(blk_cell BK119.out 6).trans rfl;have hcz29_7:w28.cell? ⟨gb119,7,none⟩=some (.int .i64 a0_7):=(blk_cell BK119.out 7).trans rfl;have hcz29_8:w28.cell? ⟨gb119,8,none⟩=some (.int .i64 a0_8):=(blk_cell BK119.out 8).trans rfl;have hfz29_0:=blk_frozen BK119.out 0;have hfz29_1:=blk_frozen BK119.out 1;have hfz29_2:=blk_frozen BK119.out 2;have hfz29_3:=blk_frozen BK119.out 3;have hfz29_4:=blk_frozen BK119.out 4;have hfz29_5:=blk_frozen BK119.out 5;have hfz29_6:=blk_frozen BK119.out 6;have hfz29_7:=blk_frozen BK119.out 7;have hfz29_8:=blk_frozen BK119.out 8) | ((with_reducible refine gate_callee (f:=46) rfl ?_);refine goesL_ (some 5) rfl rfl Tryz.func46 (by kernel_rfl) rfl #[.int .i64 a0_0,.int .i64 1,.int .i64 1099511627776] rfl (by (try simp only [List.map_toArray,List.map_cons,List.map_nil]);first | done | rfl | (simp only [List.length_drop,List.length_take];rfl)) ?_;(with_reducible refine (spec_Within.calls a0_0 1 1099511627776 true _ A2.out).mono ?_);rintro e w' ⟨rfl,⟨nd,rfl⟩⟩;refine ⟨_,rfl,?_⟩) | (go_at_call 46;(with_reducible refine (spec_Within.calls a0_5 1 17179869184 true _ A4.out).mono ?_);rintro e w' ⟨rfl,⟨nd,rfl⟩⟩) | (go_at_call 46;(with_reducible refine (spec_Within.calls a0_2 0 1099511627776 true _ A6.out).mono ?_);rintro e w' ⟨rfl,⟨nd,rfl⟩⟩) | (go_at_call 46;(with_reducible refine (spec_Within.calls a0_4 0 1099511627776 true _ A8.out).mono ?_);rintro e w' ⟨rfl,⟨nd,rfl⟩⟩) | (go_at_call 46;(with_reducible refine (spec_Within.calls a0_6 0 1099511627776 false _ A10.out).mono ?_);rintro e w' ⟨rfl,⟨nd,rfl⟩⟩))
      go_ret
      exact ⟨by first | rfl | (simp [errW_none,errW_some]<;>rfl) | (simp [*,errW_none,errW_some]<;>rfl),by repeat (first | (with_reducible first | exact HB.out | apply below_alloc | apply pw_below_drewN | apply below_drew1 | refine below_set ?_ GE119.out) | exact HB.out)⟩
    ·replace c9:=Bool.eq_false_iff.mpr c9
     subst c9
     have H1:(some false)=some r:=by rw [if_neg (show ¬ (false=true) by decide)] at H;exact H
     clear H
     have H:=H1
     clear H1
     obtain rfl:=Option.some.inj H
     go_enter Tryz.func54,Tryz.ntmps54
     go_wp2_with (first | ((with_reducible refine gate_dst (N:=1) rfl ?_);refine box_event ?hg (N:=1) ?hd (cs:=#[.int .i64 a0_0,.string a0_1,.int .i64 a0_2,.string a0_3,.int .i64 a0_4,.int .i64 a0_5,.int .i64 a0_6,.int .i64 a0_7,.int .i64 a0_8]) (t:=68) ?hr ?_;(case hd=>rfl);(case hg=>rfl);(case hr=>first | (go_simp;done) | (go_simp;rfl));intro gb119 hg w30 hbox hb;have n0_:=Aside0.mk (below_step (by repeat (first | (with_reducible first | exact HB.out | apply below_alloc | apply pw_below_drewN | apply below_drew1) | exact HB.out)) hb);have n1_:=Aside0.mk (hbox);have n2_:=Aside0.mk ((by rw [hg];exact (below_size (by repeat (first | (with_reducible first | exact HB.out | apply below_alloc | apply pw_below_drewN | apply below_drew1) | exact HB.out))):w.heap.size≤gb119));have n3_:=Aside0.mk ((by rw [hg];exact (below_size (by repeat (first | (with_reducible first | exact HB.out | apply below_alloc | apply pw_below_drewN | apply below_drew1) | exact HB.out))):w.heap.size≤gb119));clear HB;have HB:=n0_;have BK119:=n1_;have GW119:=n2_;have GE119:=n3_;clear n0_ n1_ n2_ n3_;clear hb hbox hg;have hcz31_0:w30.cell? ⟨gb119,0,none⟩=some (.int .i64 a0_0):=(blk_cell BK119.out 0).trans rfl;have hcz31_1:w30.cell? ⟨gb119,1,none⟩=some (.string a0_1):=(blk_cell BK119.out 1).trans rfl;have hcz31_2:w30.cell? ⟨gb119,2,none⟩=some (.int .i64 a0_2):=(blk_cell BK119.out 2).trans rfl;have hcz31_3:w30.cell? ⟨gb119,3,none⟩=some (.string a0_3):=(blk_cell BK119.out 3).trans rfl;have hcz31_4:w30.cell? ⟨gb119,4,none⟩=some (.int .i64 a0_4):=(blk_cell BK119.out 4).trans rfl;have hcz31_5:w30.cell? ⟨gb119,5,none⟩=some (.int .i64 a0_5):=(blk_cell BK119.out 5).trans rfl;have hcz31_6:w30.cell? ⟨gb119,6,none⟩=some (.int .i64 a0_6):=(blk_cell BK119.out 6).trans rfl;have hcz31_7:w30.cell? ⟨gb119,7,none⟩=some (.int .i64 a0_7):=(blk_cell BK119.out 7).trans rfl;have hcz31_8:w30.cell? ⟨gb119,8,none⟩=some (.int .i64 a0_8):=(blk_cell BK119.out 8).trans rfl;have hfz31_0:=blk_frozen BK119.out 0;have hfz31_1:=blk_frozen BK119.out 1;have hfz31_2:=blk_frozen BK119.out 2;have hfz31_3:=blk_frozen BK119.out 3;have hfz31_4:=blk_frozen BK119.out 4;have hfz31_5:=blk_frozen BK119.out 5;have hfz31_6:=blk_frozen BK119.out 6;have hfz31_7:=blk_frozen BK119.out 7;have hfz31_8:=blk_frozen BK119.out 8) | ((with_reducible refine gate_callee (f:=46) rfl ?_);refine goesL_ (some 5) rfl rfl Tryz.func46 (by kernel_rfl) rfl #[.int .i64 a0_0,.int .i64 1,.int .i64 1099511627776] rfl (by (try simp only [List.map_toArray,List.map_cons,List.map_nil]);first | done | rfl | (simp only [List.length_drop,List.length_take];rfl)) ?_;(with_reducible refine (spec_Within.calls a0_0 1 1099511627776 true _ A2.out).mono ?_);rintro e w' ⟨rfl,⟨nd,rfl⟩⟩;refine ⟨_,rfl,?_⟩) | (go_at_call 46;(with_reducible refine (spec_Within.calls a0_5 1 17179869184 true _ A4.out).mono ?_);rintro e w' ⟨rfl,⟨nd,rfl⟩⟩) | (go_at_call 46;(with_reducible refine (spec_Within.calls a0_2 0 1099511627776 true _ A6.out).mono ?_);rintro e w' ⟨rfl,⟨nd,rfl⟩⟩) | (go_at_call 46;(with_reducible refine (spec_Within.calls a0_4 0 1099511627776 false _ A8.out).mono ?_);rintro e w' ⟨rfl,⟨nd,rfl⟩⟩))
     go_ret
     exact ⟨by first | rfl | (simp [errW_none,errW_some]<;>rfl) | (simp [*,errW_none,errW_some]<;>rfl),by repeat (first | (with_reducible first | exact HB.out | apply below_alloc | apply pw_below_drewN | apply below_drew1 | refine below_set ?_ GE119.out) | exact HB.out)⟩
   ·replace c7:=Bool.eq_false_iff.mpr c7
    subst c7
    have H1:(some false)=some r:=by rw [if_neg (show ¬ (false=true) by decide)] at H;exact H
    clear H
    have H:=H1
    clear H1
    obtain rfl:=Option.some.inj H
    go_enter Tryz.func54,Tryz.ntmps54
    go_wp2_with (first | ((with_reducible refine gate_dst (N:=1) rfl ?_);refine box_event ?hg (N:=1) ?hd (cs:=#[.int .i64 a0_0,.string a0_1,.int .i64 a0_2,.string a0_3,.int .i64 a0_4,.int .i64 a0_5,.int .i64 a0_6,.int .i64 a0_7,.int .i64 a0_8]) (t:=68) ?hr ?_;(case hd=>rfl);(case hg=>rfl);(case hr=>first | (go_simp;done) | (go_simp;rfl));intro gb119 hg w32 hbox hb;have n0_:=Aside0.mk (below_step (by repeat (first | (with_reducible first | exact HB.out | apply below_alloc | apply pw_below_drewN | apply below_drew1) | exact HB.out)) hb);have n1_:=Aside0.mk (hbox);have n2_:=Aside0.mk ((by rw [hg];exact (below_size (by repeat (first | (with_reducible first | exact HB.out | apply below_alloc | apply pw_below_drewN | apply below_drew1) | exact HB.out))):w.heap.size≤gb119));have n3_:=Aside0.mk ((by rw [hg];exact (below_size (by repeat (first | (with_reducible first | exact HB.out | apply below_alloc | apply pw_below_drewN | apply below_drew1) | exact HB.out))):w.heap.size≤gb119));clear HB;have HB:=n0_;have BK119:=n1_;have GW119:=n2_;have GE119:=n3_;clear n0_ n1_ n2_ n3_;clear hb hbox hg;have hcz33_0:w32.cell? ⟨gb119,0,none⟩=some (.int .i64 a0_0):=(blk_cell BK119.out 0).trans rfl;have hcz33_1:w32.cell? ⟨gb119,1,none⟩=some (.string a0_1):=(blk_cell BK119.out 1).trans rfl;have hcz33_2:w32.cell? ⟨gb119,2,none⟩=some (.int .i64 a0_2):=(blk_cell BK119.out 2).trans rfl;have hcz33_3:w32.cell? ⟨gb119,3,none⟩=some (.string a0_3):=(blk_cell BK119.out 3).trans rfl;have hcz33_4:w32.cell? ⟨gb119,4,none⟩=some (.int .i64 a0_4):=(blk_cell BK119.out 4).trans rfl;have hcz33_5:w32.cell? ⟨gb119,5,none⟩=some (.int .i64 a0_5):=(blk_cell BK119.out 5).trans rfl;have hcz33_6:w32.cell? ⟨gb119,6,none⟩=some (.int .i64 a0_6):=(blk_cell BK119.out 6).trans rfl;have hcz33_7:w32.cell? ⟨gb119,7,none⟩=some (.int .i64 a0_7):=(blk_cell BK119.out 7).trans rfl;have hcz33_8:w32.cell? ⟨gb119,8,none⟩=some (.int .i64 a0_8):=(blk_cell BK119.out 8).trans rfl;have hfz33_0:=blk_frozen BK119.out 0;have hfz33_1:=blk_frozen BK119.out 1;have hfz33_2:=blk_frozen BK119.out 2;have hfz33_3:=blk_frozen BK119.out 3;have hfz33_4:=blk_frozen BK119.out 4;have hfz33_5:=blk_frozen BK119.out 5;have hfz33_6:=blk_frozen BK119.out 6;have hfz33_7:=blk_frozen BK119.out 7;have hfz33_8:=blk_frozen BK119.out 8) | ((with_reducible refine gate_callee (f:=46) rfl ?_);refine goesL_ (some 5) rfl rfl Tryz.func46 (by kernel_rfl) rfl #[.int .i64 a0_0,.int .i64 1,.int .i64 1099511627776] rfl (by (try simp only [List.map_toArray,List.map_cons,List.map_nil]);first | done | rfl | (simp only [List.length_drop,List.length_take];rfl)) ?_;(with_reducible refine (spec_Within.calls a0_0 1 1099511627776 true _ A2.out).mono ?_);rintro e w' ⟨rfl,⟨nd,rfl⟩⟩;refine ⟨_,rfl,?_⟩) | (go_at_call 46;(with_reducible refine (spec_Within.calls a0_5 1 17179869184 true _ A4.out).mono ?_);rintro e w' ⟨rfl,⟨nd,rfl⟩⟩) | (go_at_call 46;(with_reducible refine (spec_Within.calls a0_2 0 1099511627776 false _ A6.out).mono ?_);rintro e w' ⟨rfl,⟨nd,rfl⟩⟩))
    go_ret
    exact ⟨by first | rfl | (simp [errW_none,errW_some]<;>rfl) | (simp [*,errW_none,errW_some]<;>rfl),by repeat (first | (with_reducible first | exact HB.out | apply below_alloc | apply pw_below_drewN | apply below_drew1 | refine below_set ?_ GE119.out) | exact HB.out)⟩
  ·replace c5:=Bool.eq_false_iff.mpr c5
   subst c5
   have H1:(some false)=some r:=by rw [if_neg (show ¬ (false=true) by decide)] at H;exact H
   clear H
   have H:=H1
   clear H1
   obtain rfl:=Option.some.inj H
   go_enter Tryz.func54,Tryz.ntmps54
   go_wp2_with (first | ((with_reducible refine gate_dst (N:=1) rfl ?_);refine box_event ?hg (N:=1) ?hd (cs:=#[.int .i64 a0_0,.string a0_1,.int .i64 a0_2,.string a0_3,.int .i64 a0_4,.int .i64 a0_5,.int .i64 a0_6,.int .i64 a0_7,.int .i64 a0_8]) (t:=68) ?hr ?_;(case hd=>rfl);(case hg=>rfl);(case hr=>first | (go_simp;done) | (go_simp;rfl));intro gb119 hg w34 hbox hb;have n0_:=Aside0.mk (below_step (by repeat (first | (with_reducible first | exact HB.out | apply below_alloc | apply pw_below_drewN | apply below_drew1) | exact HB.out)) hb);have n1_:=Aside0.mk (hbox);have n2_:=Aside0.mk ((by rw [hg];exact (below_size (by repeat (first | (with_reducible first | exact HB.out | apply below_alloc | apply pw_below_drewN | apply below_drew1) | exact HB.out))):w.heap.size≤gb119));have n3_:=Aside0.mk ((by rw [hg];exact (below_size (by repeat (first | (with_reducible first | exact HB.out | apply below_alloc | apply pw_below_drewN | apply below_drew1) | exact HB.out))):w.heap.size≤gb119));clear HB;have HB:=n0_;have BK119:=n1_;have GW119:=n2_;have GE119:=n3_;clear n0_ n1_ n2_ n3_;clear hb hbox hg;have hcz35_0:w34.cell? ⟨gb119,0,none⟩=some (.int .i64 a0_0):=(blk_cell BK119.out 0).trans rfl;have hcz35_1:w34.cell? ⟨gb119,1,none⟩=some (.string a0_1):=(blk_cell BK119.out 1).trans rfl;have hcz35_2:w34.cell? ⟨gb119,2,none⟩=some (.int .i64 a0_2):=(blk_cell BK119.out 2).trans rfl;have hcz35_3:w34.cell? ⟨gb119,3,none⟩=some (.string a0_3):=(blk_cell BK119.out 3).trans rfl;have hcz35_4:w34.cell? ⟨gb119,4,none⟩=some (.int .i64 a0_4):=(blk_cell BK119.out 4).trans rfl;have hcz35_5:w34.cell? ⟨gb119,5,none⟩=some (.int .i64 a0_5):=(blk_cell BK119.out 5).trans rfl;have hcz35_6:w34.cell? ⟨gb119,6,none⟩=some (.int .i64 a0_6):=(blk_cell BK119.out 6).trans rfl;have hcz35_7:w34.cell? ⟨gb119,7,none⟩=some (.int .i64 a0_7):=(blk_cell BK119.out 7).trans rfl;have hcz35_8:w34.cell? ⟨gb119,8,none⟩=some (.int .i64 a0_8):=(blk_cell BK119.out 8).trans rfl;have hfz35_0:=blk_frozen BK119.out 0;have hfz35_1:=blk_frozen BK119.out 1;have hfz35_2:=blk_frozen BK119.out 2;have hfz35_3:=blk_frozen BK119.out 3;have hfz35_4:=blk_frozen BK119.out 4;have hfz35_5:=blk_frozen BK119.out 5;have hfz35_6:=blk_frozen BK119.out 6;have hfz35_7:=blk_frozen BK119.out 7;have hfz35_8:=blk_frozen BK119.out 8) | ((with_reducible refine gate_callee (f:=46) rfl ?_);refine goesL_ (some 5) rfl rfl Tryz.func46 (by kernel_rfl) rfl #[.int .i64 a0_0,.int .i64 1,.int .i64 1099511627776] rfl (by (try simp only [List.map_toArray,List.map_cons,List.map_nil]);first | done | rfl | (simp only [List.length_drop,List.length_take];rfl)) ?_;(with_reducible refine (spec_Within.calls a0_0 1 1099511627776 true _ A2.out).mono ?_);rintro e w' ⟨rfl,⟨nd,rfl⟩⟩;refine ⟨_,rfl,?_⟩) | (go_at_call 46;(with_reducible refine (spec_Within.calls a0_5 1 17179869184 false _ A4.out).mono ?_);rintro e w' ⟨rfl,⟨nd,rfl⟩⟩))
   go_ret
   exact ⟨by first | rfl | (simp [errW_none,errW_some]<;>rfl) | (simp [*,errW_none,errW_some]<;>rfl),by repeat (first | (with_reducible first | exact HB.out | apply below_alloc | apply pw_below_drewN | apply below_drew1 | refine below_set ?_ GE119.out) | exact HB.out)⟩
 ·replace c3:=Bool.eq_false_iff.mpr c3
  subst c3
  have H1:(some false)=some r:=by rw [if_neg (show ¬ (false=true) by decide)] at H;exact H
  clear H
  have H:=H1
  clear H1
  obtain rfl:=Option.some.inj H
  go_enter Tryz.func54,Tryz.ntmps54
  go_wp2_with (first | ((with_reducible refine gate_dst (N:=1) rfl ?_);refine box_event ?hg (N:=1) ?hd (cs:=#[.int .i64 a0_0,.string a0_1,.int .i64 a0_2,.string a0_3,.int .i64 a0_4,.int .i64 a0_5,.int .i64 a0_6,.int .i64 a0_7,.int .i64 a0_8]) (t:=68) ?hr ?_;(case hd=>rfl);(case hg=>rfl);(case hr=>first | (go_simp;done) | (go_simp;rfl));intro gb119 hg w36 hbox hb;have n0_:=Aside0.mk (below_step (by repeat (first | (with_reducible first | exact HB.out | apply below_alloc | apply pw_below_drewN | apply below_drew1) | exact HB.out)) hb);have n1_:=Aside0.mk (hbox);have n2_:=Aside0.mk ((by rw [hg];exact (below_size (by repeat (first | (with_reducible first | exact HB.out | apply below_alloc | apply pw_below_drewN | apply below_drew1) | exact HB.out))):w.heap.size≤gb119));have n3_:=Aside0.mk ((by rw [hg];exact (below_size (by repeat (first | (with_reducible first | exact HB.out | apply below_alloc | apply pw_below_drewN | apply below_drew1) | exact HB.out))):w.heap.size≤gb119));clear HB;have HB:=n0_;have BK119:=n1_;have GW119:=n2_;have GE119:=n3_;clear n0_ n1_ n2_ n3_;clear hb hbox hg;have hcz37_0:w36.cell? ⟨gb119,0,none⟩=some (.int .i64 a0_0):=(blk_cell BK119.out 0).trans rfl;have hcz37_1:w36.cell? ⟨gb119,1,none⟩=some (.string a0_1):=(blk_cell BK119.out 1).trans rfl;have hcz37_2:w36.cell? ⟨gb119,2,none⟩=some (.int .i64 a0_2):=(blk_cell BK119.out 2).trans rfl;have hcz37_3:w36.cell? ⟨gb119,3,none⟩=some (.string a0_3):=(blk_cell BK119.out 3).trans rfl;have hcz37_4:w36.cell? ⟨gb119,4,none⟩=some (.int .i64 a0_4):=(blk_cell BK119.out 4).trans rfl;have hcz37_5:w36.cell? ⟨gb119,5,none⟩=some (.int .i64 a0_5):=(blk_cell BK119.out 5).trans rfl;have hcz37_6:w36.cell? ⟨gb119,6,none⟩=some (.int .i64 a0_6):=(blk_cell BK119.out 6).trans rfl;have hcz37_7:w36.cell? ⟨gb119,7,none⟩=some (.int .i64 a0_7):=(blk_cell BK119.out 7).trans rfl;have hcz37_8:w36.cell? ⟨gb119,8,none⟩=some (.int .i64 a0_8):=(blk_cell BK119.out 8).trans rfl;have hfz37_0:=blk_frozen BK119.out 0;have hfz37_1:=blk_frozen BK119.out 1;have hfz37_2:=blk_frozen BK119.out 2;have hfz37_3:=blk_frozen BK119.out 3;have hfz37_4:=blk_frozen BK119.out 4;have hfz37_5:=blk_frozen BK119.out 5;have hfz37_6:=blk_frozen BK119.out 6;have hfz37_7:=blk_frozen BK119.out 7;have hfz37_8:=blk_frozen BK119.out 8) | ((with_reducible refine gate_callee (f:=46) rfl ?_);refine goesL_ (some 5) rfl rfl Tryz.func46 (by kernel_rfl) rfl #[.int .i64 a0_0,.int .i64 1,.int .i64 1099511627776] rfl (by (try simp only [List.map_toArray,List.map_cons,List.map_nil]);first | done | rfl | (simp only [List.length_drop,List.length_take];rfl)) ?_;(with_reducible refine (spec_Within.calls a0_0 1 1099511627776 false _ A2.out).mono ?_);rintro e w' ⟨rfl,⟨nd,rfl⟩⟩;refine ⟨_,rfl,?_⟩))
  go_ret
  exact ⟨by first | rfl | (simp [errW_none,errW_some]<;>rfl) | (simp [*,errW_none,errW_some]<;>rfl),by repeat (first | (with_reducible first | exact HB.out | apply below_alloc | apply pw_below_drewN | apply below_drew1 | refine below_set ?_ GE119.out) | exact HB.out)⟩
end Go.Proofs.YtnineoajmgneiaaGreat.L
namespace Go.Proofs.YtnineoajmgneiaaGreat.L
open Go.RowKit Go.Proofs.YtnineoajmgneiaaGreatW.PrintWords Go.Proofs.YtnineoajmgneiaaGreatW.PrintLast Go.Proofs.YtnineoajmgneiaaGreatW.PrintMore
attribute [local go_sem] max2_int min2_int max_two min_two max_three min_three max_four min_four   -- for this text's walks alone
/-! ### spec_Files: function 27 -/
def spec_Files.l0:Nat→List (List (S68))→Int→List Int→Int→Int→Int→Int→Int→Int→Int→Int→Int→Int→Option (List Int)
 | 0,_,_,_,_,_,_,_,_,_,_,_,_,_=>none
 | k+1,x0,x2,x7,x8,x9,x197000,x197001,x197002,x197003,x197004,x197005,x197006,x197007=>if x9<(x0.length:Int) then (if x9 > x2 then (if x7.length<17592186044416 then (spec_Files.l0 k x0 x2 (x7++[wrap64 (x8*x197002)]) (wrap64 (x8*x197002)) (wrap64 (x9+1)) x197000 x197001 x197002 x197003 x197004 x197005 x197006 x197007) else (none)) else (if x7.length<17592186044416 then (spec_Files.l0 k x0 x2 (x7++[x8]) x8 (wrap64 (x9+1)) x197000 x197001 x197002 x197003 x197004 x197005 x197006 x197007) else (none))) else (some x7)
def spec_Files.f (k:Nat) (l0:List (List (S68))) (a1_0:Int) (a1_1:Int) (a1_2:Int) (a1_3:Int) (a1_4:Int) (a1_5:Int) (a1_6:Int) (a1_7:Int) (a2:Int):Option (List Int):=spec_Files.l0 k l0 a2 (([a1_6]:List Int)) a1_5 1 a1_0 a1_1 a1_2 a1_3 a1_4 a1_5 a1_6 a1_7
/-! ### spec_Wanted: function 28 -/
def spec_Wanted.l0:Nat→List Int→Int→Int→Int→Int→Int→Int→Int→Int→Int→Int→Option (List Int)
 | 0,_,_,_,_,_,_,_,_,_,_,_=>none
 | k+1,x5,x6,x7,x223000,x223001,x223002,x223003,x223004,x223005,x223006,x223007=>if x7 > 0 then (if 0≤x7 then (if x7<(x5.length:Int) then (if x223001=0 then (none) else (spec_Wanted.l0 k (x5.set (x7:Int).toNat (mx x6 x223004)) (wrap64 (Int.tdiv x6 x223001)) (wrap64 (x7 - 1)) x223000 x223001 x223002 x223003 x223004 x223005 x223006 x223007)) else (none)) else (none)) else (some x5)
def spec_Wanted.f (k:Nat) (l0:List (List (S68))) (a1_0:Int) (a1_1:Int) (a1_2:Int) (a1_3:Int) (a1_4:Int) (a1_5:Int) (a1_6:Int) (a1_7:Int):Option (List Int):=if 0≤(l0.length:Int) then (if ((l0.length:Int):Int).toNat≤35184372088832 then (if 0≤(wrap64 ((l0.length:Int) - 1)) then (if (wrap64 ((l0.length:Int) - 1))<(l0.length:Int) then ((spec_Size.f k (rd_L3 l0 (wrap64 ((l0.length:Int) - 1)))).bind fun t227=>(spec_Wanted.l0 k (List.replicate ((l0.length:Int):Int).toNat 0) t227 (wrap64 ((l0.length:Int) - 1)) a1_0 a1_1 a1_2 a1_3 a1_4 a1_5 a1_6 a1_7)) else (none)) else (none)) else (none)) else (none)
/-! ### spec_StepsOk: function 33 -/
mutual
def spec_StepsOk.l0:Nat→Int→List (S42)→Int→Int→Int→Int→Int→Int→Int→Int→Int→Int→Option (Bool)
 | 0,_,_,_,_,_,_,_,_,_,_,_,_=>none
 | k+1,x5,x8,x9,x10,x274000,x274001,x274002,x274003,x274004,x274005,x274006,x274007=>if x10<x9 then (if 0≤x10 then (if x10<(x8.length:Int) then (if ((rd_T42 x8 x10).f0)=0 then (if ((rd_T42 x8 x10).f1)=0 then (spec_StepsOk.j1 k x5 x8 x9 x10 (((rd_T42 x8 x10).f2) == 0) x274000 x274001 x274002 x274003 x274004 x274005 x274006 x274007 ((rd_T42 x8 x10).f0) ((rd_T42 x8 x10).f1) ((rd_T42 x8 x10).f2) ((rd_T42 x8 x10).f3) ((rd_T42 x8 x10).f4)) else (spec_StepsOk.j1 k x5 x8 x9 x10 false x274000 x274001 x274002 x274003 x274004 x274005 x274006 x274007 ((rd_T42 x8 x10).f0) ((rd_T42 x8 x10).f1) ((rd_T42 x8 x10).f2) ((rd_T42 x8 x10).f3) ((rd_T42 x8 x10).f4))) else (spec_StepsOk.j1 k x5 x8 x9 x10 false x274000 x274001 x274002 x274003 x274004 x274005 x274006 x274007 ((rd_T42 x8 x10).f0) ((rd_T42 x8 x10).f1) ((rd_T42 x8 x10).f2) ((rd_T42 x8 x10).f3) ((rd_T42 x8 x10).f4))) else (none)) else (none)) else (some (decide (x5≤1)))
def spec_StepsOk.j1:Nat→Int→List (S42)→Int→Int→Bool→Int→Int→Int→Int→Int→Int→Int→Int→Int→Int→Int→Int→Int→Option (Bool)
 | 0,_,_,_,_,_,_,_,_,_,_,_,_,_,_,_,_,_,_=>none
 | k+1,x5,x8,x9,x10,x26,x274000,x274001,x274002,x274003,x274004,x274005,x274006,x274007,x276000,x276001,x276002,x276003,x276004=>if x26=true then (spec_StepsOk.j2 k (wrap64 (x5+1)) x8 x9 x10 x274000 x274001 x274002 x274003 x274004 x274005 x274006 x274007 x276000 x276001 x276002 x276003 x276004) else (spec_StepsOk.j2 k x5 x8 x9 x10 x274000 x274001 x274002 x274003 x274004 x274005 x274006 x274007 x276000 x276001 x276002 x276003 x276004)
def spec_StepsOk.j2:Nat→Int→List (S42)→Int→Int→Int→Int→Int→Int→Int→Int→Int→Int→Int→Int→Int→Int→Int→Option (Bool)
 | 0,_,_,_,_,_,_,_,_,_,_,_,_,_,_,_,_,_=>none
 | k+1,x5,x8,x9,x10,x274000,x274001,x274002,x274003,x274004,x274005,x274006,x274007,x276000,x276001,x276002,x276003,x276004=>if x276000=0 then ((spec_Within.f x276001 0 (wrap64 (x274000 - 1))).bind fun t276=>(if t276=true then ((spec_Within.f x276002 0 100).bind fun t277=>(if t277=true then ((spec_Within.f x276003 0 1000).bind fun t278=>(if t278=true then ((spec_Within.f x276004 0 1099511627776).bind fun t279=>(if t279=true then (spec_StepsOk.l0 k x5 x8 x9 (wrap64 (x10+1)) x274000 x274001 x274002 x274003 x274004 x274005 x274006 x274007) else (some false))) else (some false))) else (some false))) else (some false))) else (if x276000=1 then ((spec_Within.f x276001 0 (wrap64 (x274000 - 1))).bind fun t280=>(if t280=true then ((spec_Within.f x276002 0 100).bind fun t281=>(if t281=true then ((spec_Within.f x276003 0 1000).bind fun t282=>(if t282=true then ((spec_Within.f x276004 0 1099511627776).bind fun t283=>(if t283=true then (spec_StepsOk.l0 k x5 x8 x9 (wrap64 (x10+1)) x274000 x274001 x274002 x274003 x274004 x274005 x274006 x274007) else (some false))) else (some false))) else (some false))) else (some false))) else (some false))
end
def spec_StepsOk.f (k:Nat) (l0:List (S42)) (a1_0:Int) (a1_1:Int) (a1_2:Int) (a1_3:Int) (a1_4:Int) (a1_5:Int) (a1_6:Int) (a1_7:Int):Option (Bool):=spec_StepsOk.l0 k 0 l0 (l0.length:Int) 0 a1_0 a1_1 a1_2 a1_3 a1_4 a1_5 a1_6 a1_7
/-! ### laws_fill: function 32 -/
def laws_fill.f (a0:Int) (a1:Int):Option (Int × Int × Int × Int × Int):=some (0,a0,a1,20,0)
set_option maxHeartbeats 8000000 in
set_option maxRecDepth 100000 in
theorem laws_fill.calls (a0:Int) (a1:Int) (r1:Int) (r2:Int) (r3:Int) (r4:Int) (r5:Int) (w:World) (h:laws_fill.f a0 a1=some (r1,r2,r3,r4,r5)) :
  Calls Tryz.prog 32 #[.int .i64 a0,.int .i64 a1] w fun e w'=>e=.returned (.agg #[.int .i64 r1,.int .i64 r2,.int .i64 r3,.int .i64 r4,.int .i64 r5])∧Below w.heap.size w w':=by
 have hu42:=Tryz.underlying42
 have HB:=Aside0.mk (Below.refl w.heap.size w)
 have H:(some (0,a0,a1,20,0))=some (r1,r2,r3,r4,r5):=h
 clear h
 simp only [Option.some.injEq,Prod.mk.injEq] at H
 obtain ⟨rfl,rfl,rfl,rfl,rfl⟩:=H
 go_enter Tryz.func32,Tryz.ntmps32
 go_wp2_with (first | ((with_reducible refine gate_dst (N:=4) rfl ?_);refine box_event ?hg (N:=4) ?hd (cs:=#[.int .i64 0,.int .i64 0,.int .i64 0,.int .i64 0,.int .i64 0]) (t:=42) ?hr ?_;(case hd=>rfl);(case hg=>rfl);(case hr=>first | (go_simp;done) | (go_simp;rfl));intro gb272 hg w3 hbox hb;have n0_:=Aside0.mk (below_step (by repeat (first | (with_reducible first | exact HB.out | apply below_alloc | apply pw_below_drewN | apply below_drew1) | exact HB.out)) hb);have n1_:=Aside0.mk (hbox);have n2_:=Aside0.mk ((by rw [hg];exact (below_size (by repeat (first | (with_reducible first | exact HB.out | apply below_alloc | apply pw_below_drewN | apply below_drew1) | exact HB.out))):w.heap.size≤gb272));have n3_:=Aside0.mk ((by rw [hg];exact (below_size (by repeat (first | (with_reducible first | exact HB.out | apply below_alloc | apply pw_below_drewN | apply below_drew1) | exact HB.out))):w.heap.size≤gb272));clear HB;have HB:=n0_;have BK272:=n1_;have GW272:=n2_;have GE272:=n3_;clear n0_ n1_ n2_ n3_;clear hb hbox hg;have hcz4_0:w3.cell? ⟨gb272,0,none⟩=some (.int .i64 0):=(blk_cell BK272.out 0).trans rfl;have hcz4_1:w3.cell? ⟨gb272,1,none⟩=some (.int .i64 0):=(blk_cell BK272.out 1).trans rfl;have hcz4_2:w3.cell? ⟨gb272,2,none⟩=some (.int .i64 0):=(blk_cell BK272.out 2).trans rfl;have hcz4_3:w3.cell? ⟨gb272,3,none⟩=some (.int .i64 0):=(blk_cell BK272.out 3).trans rfl;have hcz4_4:w3.cell? ⟨gb272,4,none⟩=some (.int .i64 0):=(blk_cell BK272.out 4).trans rfl;have hfz4_0:=blk_frozen BK272.out 0;have hfz4_1:=blk_frozen BK272.out 1;have hfz4_2:=blk_frozen BK272.out 2;have hfz4_3:=blk_frozen BK272.out 3;have hfz4_4:=blk_frozen BK272.out 4))
 refine bodyPost_ret (results_cell_row rfl _ _ gb272 42 #[.int .i64 0,.int .i64 a0,.int .i64 a1,.int .i64 20,.int .i64 0] (0,0) _ rfl (by (with_reducible repeat (first | refine blk_drewN ?_ _ | refine blk_drew ?_ | refine blk_alloc ?_ _));refine blk_put (cs:=#[.int .i64 0,.int .i64 a0,.int .i64 a1,.int .i64 20,.int .i64 0]) ?_ 4 _ rfl;(with_reducible repeat (first | refine blk_drewN ?_ _ | refine blk_drew ?_ | refine blk_alloc ?_ _));refine blk_put (cs:=#[.int .i64 0,.int .i64 a0,.int .i64 a1,.int .i64 0,.int .i64 0]) ?_ 3 _ rfl;(with_reducible repeat (first | refine blk_drewN ?_ _ | refine blk_drew ?_ | refine blk_alloc ?_ _));refine blk_put (cs:=#[.int .i64 0,.int .i64 a0,.int .i64 0,.int .i64 0,.int .i64 0]) ?_ 2 _ rfl;(with_reducible repeat (first | refine blk_drewN ?_ _ | refine blk_drew ?_ | refine blk_alloc ?_ _));refine blk_put (cs:=#[.int .i64 0,.int .i64 0,.int .i64 0,.int .i64 0,.int .i64 0]) ?_ 1 _ rfl;(with_reducible repeat (first | refine blk_drewN ?_ _ | refine blk_drew ?_ | refine blk_alloc ?_ _));refine blk_put (cs:=#[.int .i64 0,.int .i64 0,.int .i64 0,.int .i64 0,.int .i64 0]) ?_ 0 _ rfl;(with_reducible repeat (first | refine blk_drewN ?_ _ | refine blk_drew ?_ | refine blk_alloc ?_ _));exact BK272.out) Tryz.underlying42 rfl (by kernel_rfl)) rfl ?_
 exact ⟨by first | rfl | (simp [errW_none,errW_some]<;>rfl) | (simp [*,errW_none,errW_some]<;>rfl),by repeat (first | (with_reducible first | exact HB.out | apply below_alloc | apply pw_below_drewN | apply below_drew1 | refine below_set ?_ GE272.out) | exact HB.out)⟩
end Go.Proofs.YtnineoajmgneiaaGreat.L
namespace Go.Proofs.YtnineoajmgneiaaGreat.Tl
open Go.RowKit YtnineoajmgneiaaGreatW YtnineoajmgneiaaGreatW.PrintWords YtnineoajmgneiaaGreatW.PrintLast YtnineoajmgneiaaGreatW.PrintMore Fr L Ky Tm Lm It Tg Tp
/-! ### the base level: what lies under it is empty -/
/-! ### the files' sizes -/
def fl (o:Lm.Op) (bl:Int):Nat→Nat→Int→List Int
 | 0,_,_=>[]
 | k+1,i,t=>if (i:Int)≤bl then t :: fl o bl k (i+1) t else wrap64 (t*o.tmul) :: fl o bl k (i+1) (wrap64 (t*o.tmul))
/-! ### the wanted sizes -/
theorem w64_big {x:Int} (h:0≤x∧x≤1000000000000000000):wrap64 x=x:=by
 unfold wrap64
 omega
def sizeOf (l:List S68):Int:=(l.map (·.f5)).sum
theorem size_take {l:List S68} {j:Nat} (h:j<l.length):sizeOf (l.take (j+1))=sizeOf (l.take j)+(rd_T68 l (j:Int)).f5:=by
 unfold sizeOf
 rw [List.take_succ_eq_append_getElem h,List.map_append,List.sum_append]
 simp [rd_T68,h]
theorem total_tb (l:List S68):total (l.map tbOf)=sizeOf l:=by
 unfold total sizeOf
 rw [List.map_map]
 rfl
theorem size_bd {l:List S68} (hin:∀ t∈l,InTab t):0≤sizeOf l∧sizeOf l≤17179869184*l.length:=by
 have:=total_bd (ts:=l.map tbOf) (fun t ht=>by
  obtain ⟨t0,h0,rfl⟩:=List.mem_map.1 ht
  exact (Bd.tb_ok (hin t0 h0)).2)
 rwa [total_tb,List.length_map] at this
theorem size_at {l:List S68} (hl:l.length≤50000) (hin:∀ t∈l,InTab t):∀ (m j k:Nat),j+m=l.length→m+1≤k→spec_Size.l0 k (sizeOf (l.take j)) l (l.length:Int) (j:Int)=some (sizeOf l)
 | 0,j,k,hj,hk=>by
  obtain ⟨k,rfl⟩ : ∃ q,k=q+1:=⟨k - 1,by omega⟩
  rw [spec_Size.l0,if_neg (by omega),List.take_of_length_le (by omega)]
 | m+1,j,k,hj,hk=>by
  obtain ⟨k,rfl⟩ : ∃ q,k=q+1:=⟨k - 1,by omega⟩
  have hb:=size_bd (l:=l.take (j+1)) (fun t ht=>hin t (List.mem_of_mem_take ht))
  have hle:=List.length_take_le (j+1) l
  rw [size_take (by omega)] at hb
  rw [spec_Size.l0,if_pos (by omega),if_pos (by omega),if_pos (by omega),w64 (x:=(j:Int)+1) (by omega),w64_big ⟨hb.1,by omega⟩,← size_take (by omega)]
  exact size_at hl hin m (j+1) k (by omega) (by omega)
theorem size_spec {l:List S68} (hl:l.length≤50000) (hin:∀ t∈l,InTab t) {k:Nat} (hk:l.length+1≤k):spec_Size.f k l=some (sizeOf l):=size_at hl hin l.length 0 k (by omega) hk
/-! ### level 0 is not looked at -/
end Go.Proofs.YtnineoajmgneiaaGreat.Tl
namespace Go.Proofs.YtnineoajmgneiaaGreat.Rn
open Lib (hid)
open Go.RowKit YtnineoajmgneiaaGreatW YtnineoajmgneiaaGreatW.PrintWords YtnineoajmgneiaaGreatW.PrintLast YtnineoajmgneiaaGreatW.PrintMore Fr L Ky Tm Lm It Tg
theorem zero137 (w:World):(zeroValue 137).run Tryz.prog w=.ok (.agg #[]) w:=by kernel_rfl
theorem u119:Tryz.prog.underlying 119=some (.map 88 137):=Tryz.underlying119
theorem u88:Tryz.prog.underlying 88=some (.int .u64):=Tryz.underlying88
set_option maxHeartbeats 1000000 in
/-- Whether table number k runs: the entries' values are empty structs. -/
theorem running_calls {w:World} {lp sb mb ck:Nat} {es:List Ent} {k:Int} {r:Bool} (h0:w.cell? ⟨lp,0,none⟩=some (ptr sb)) (h1:w.cell? ⟨sb,3,none⟩=some (.map (some mb))) (hm:w.heap[mb]? = some (.map (rawM .u64 es) ck)) (hr:(lookE k es).isSome=r) (hv:∀ v,lookE k es=some v→v=.agg #[]) :
  Calls Tryz.prog 67 #[.pointer (some ⟨lp,0,none⟩),.int .u64 k] w fun e w'=>e=.returned (.bool r)∧Below w.heap.size w w':=by
 have HE:=hid (show (lookE k es).getD (.agg #[])=.agg #[] by
  cases h:lookE k es with
  | none=>rfl
  | some v=>rw [hv v h];rfl)
 have HR:=hid hr
 have HM:=hid hm
 simp only [ptr] at h0
 clear hr hm hv
 go_enter Tryz.func67,Tryz.ntmps67
 go_wp2_with (refine wpL_look_ok _ rfl (.tmp 15) (.tmp 16) rfl (.agg #[]) u119 u88 (zero137 _) rfl rfl HM.out ?_;rw [HE.out,HR.out])
 go_ret
 exact ⟨rfl,by repeat (first | exact Below.refl _ _ | apply below_alloc)⟩
set_option maxHeartbeats 1000000 in
theorem isLast_calls {w:World} {hp ob i m:Nat} (h3:w.cell? ⟨hp,3,none⟩=some (.int .i64 (i:Int))) (h4:w.cell? ⟨hp,4,none⟩=some (ptr ob)) (h0:w.cell? ⟨ob,0,none⟩=some (.int .i64 ((m:Int)+1))) (hm:m≤1000) {r:Bool} (hr:((i:Int) == (m:Int))=r) :
  Calls Tryz.prog 73 #[.pointer (some ⟨hp,0,none⟩)] w fun e w'=>e=.returned (.bool r)∧∃ q,w'=w.drewN q:=by
 simp only [ptr] at h4
 have s1:IntKind.i64.wrap ((m:Int)+1 - 1)=(m:Int):=by rw [IntWalk.i64_in _ (by omega)];omega
 have s2:IntKind.i64.wrap (m:Int)=(m:Int):=by rw [IntWalk.i64_in _ (by omega)]
 go_enter Tryz.func73,Tryz.ntmps73
 go_wp2_with fail
 go_quiet (fail)
 go_wp2
 go_ret
 exact ⟨by first | rfl | (simp [← hr];done),nq,rfl⟩
set_option maxHeartbeats 1000000 in
theorem parseKey_calls {w:World} {b k c:Nat} (hk:k≤100000000) (hc:k+8≤c) :
  Calls Tryz.prog 64 #[.slice (some ⟨b,0,none⟩) (k+8) c] w fun e w'=>e=.returned (.slice (some ⟨b,0,none⟩) k c)∧w=w':=by
 have d0:decide ((k:Int)+8<8)=false:=decide_eq_false (by omega)
 go_enter Tryz.func64,Tryz.ntmps64
 go_wp2
 go_ret
 exact ⟨rfl,rfl⟩
end Go.Proofs.YtnineoajmgneiaaGreat.Rn
namespace Go.Proofs.YtnineoajmgneiaaGreat.Rg
open Go.RowKit YtnineoajmgneiaaGreatW YtnineoajmgneiaaGreatW.PrintWords YtnineoajmgneiaaGreatW.PrintLast YtnineoajmgneiaaGreatW.PrintMore Fr L Ky Tm Lm It
def isE (n m:Nat) (inf:Bool):Bool:=n == 0 && (m == 0 && !inf)
set_option maxHeartbeats 2000000 in
theorem isEmpty_calls {w:World} {A B:Option Addr} {n c m d:Nat} {inf:Bool} {s:Int} :
  Calls Tryz.prog 107 #[.agg #[.slice A n c,.slice B m d,.bool inf,.int .i64 s]] w fun e w'=>e=.returned (.bool (isE n m inf))∧Below w.heap.size w w':=by
 cases n with
 | succ n =>
  have d0:(((n:Int)+1) == 0)=false:=by simp;omega
  go_enter Tryz.func107,Tryz.ntmps107
  go_wp2
  go_ret
  exact ⟨by simp [isE],by repeat (first | exact Below.refl _ _ | apply below_alloc)⟩
 | zero =>
  cases m with
  | succ m =>
   have d0:(((m:Int)+1) == 0)=false:=by simp;omega
   go_enter Tryz.func107,Tryz.ntmps107
   go_wp2
   go_ret
   exact ⟨by simp [isE],by repeat (first | exact Below.refl _ _ | apply below_alloc)⟩
  | zero =>
   cases inf with
   | true =>
    go_enter Tryz.func107,Tryz.ntmps107
    go_wp2
    go_ret
    exact ⟨by simp [isE],by repeat (first | exact Below.refl _ _ | apply below_alloc)⟩
   | false =>
    go_enter Tryz.func107,Tryz.ntmps107
    go_wp2
    go_ret
    exact ⟨by simp [isE],by repeat (first | exact Below.refl _ _ | apply below_alloc)⟩
end Go.Proofs.YtnineoajmgneiaaGreat.Rg
namespace Go.Proofs.YtnineoajmgneiaaGreat.Rg
open Lib (hid)
open Go.RowKit YtnineoajmgneiaaGreatW YtnineoajmgneiaaGreatW.PrintWords YtnineoajmgneiaaGreatW.PrintLast YtnineoajmgneiaaGreatW.PrintMore Fr L Ky Tm Lm It
def ovG (e1 e2 i1 i2:Bool) (x y:Int):Bool:=if e1 then true else if e2 then false else if i1 || i2 then true else if 0<x then false else if y<0 then false else true
set_option maxRecDepth 100000 in
set_option maxHeartbeats 4000000 in
theorem ov_calls {w:World} {A B A2 B2:Option Addr} {n c m d n2 c2 m2 d2:Nat} {i i2:Bool} {s s2 x y:Int} {e1 e2:Bool} (h1:isE n m i=e1) (h2:isE n2 m2 i2=e2)
  (K1:e1=false→e2=false→i=false→i2=false→∀ W,Below w.heap.size w W→Calls Tryz.prog 112 #[.slice A n c,.slice B2 m2 d2] W fun e w'=>e=.returned (.int .i64 x)∧∃ q,w'=W.drewN q)
  (K2:e1=false→e2=false→i=false→i2=false→∀ W,Below w.heap.size w W→Calls Tryz.prog 112 #[.slice B m d,.slice A2 n2 c2] W fun e w'=>e=.returned (.int .i64 y)∧∃ q,w'=W.drewN q) :
  Calls Tryz.prog 119 #[.agg #[.slice A n c,.slice B m d,.bool i,.int .i64 s],.agg #[.slice A2 n2 c2,.slice B2 m2 d2,.bool i2,.int .i64 s2]] w fun e w'=>e=.returned (.bool (ovG e1 e2 i i2 x y))∧Below w.heap.size w w':=by
 have HK1:=hid K1
 have HK2:=hid K2
 have E1:=hid (fun W=>(isEmpty_calls (w:=W) (A:=A) (B:=B) (n:=n) (c:=c) (m:=m) (d:=d) (inf:=i) (s:=s)))
 have E2:=hid (fun W=>(isEmpty_calls (w:=W) (A:=A2) (B:=B2) (n:=n2) (c:=c2) (m:=m2) (d:=d2) (inf:=i2) (s:=s2)))
 rw [h1] at E1
 rw [h2] at E2
 clear K1 K2 h1 h2
 go_enter Tryz.func119,Tryz.ntmps119
 go_upto_region 1 with (fail)
 obtain ⟨w1,hw1⟩ : ∃ w1,w1=(w.alloc (.cells #[.slice A n c,.slice B m d,.bool i,.int .i64 s] 126)).alloc (.cells #[.slice A2 n2 c2,.slice B2 m2 d2,.bool i2,.int .i64 s2] 126):=⟨_,rfl⟩
 rw [← hw1]
 obtain ⟨b2,hb2⟩ : ∃ b,b=w.heap.size:=⟨_,rfl⟩
 obtain ⟨b3,hb3⟩ : ∃ b,b=b2+1:=⟨_,rfl⟩
 rw [← hb2,← hb3]
 have HB:=hid (show Below w.heap.size w w1 by rw [hw1];exact below_alloc (below_alloc (Below.refl _ _) _) _)
 have X2:=hid (show w1.heap[b2]? = some (.cells #[.slice A n c,.slice B m d,.bool i,.int .i64 s] 126 (0,0)) by rw [hw1,hb2];exact up1 (blk_new w _))
 have X3:=hid (show w1.heap[b3]? = some (.cells #[.slice A2 n2 c2,.slice B2 m2 d2,.bool i2,.int .i64 s2] 126 (0,0)) by
  rw [hw1,hb3,hb2,← Nw.szA w (.cells #[.slice A n c,.slice B m d,.bool i,.int .i64 s] 126)];exact blk_new _ _)
 clear hw1 hb2 hb3
 have p0:=blk_cell X2.out 0
 have p1:=blk_cell X2.out 1
 have p2:=blk_cell X2.out 2
 have p3:=blk_cell X2.out 3
 go_wp2_with fail
 refine (E1.out _).mono ?_
 rintro e w2 ⟨rfl,hb⟩
 have HB2:=hid (below_step HB.out hb)
 have X22:=hid ((hb.block _ (blk_lt X2.out)).trans X2.out)
 have X32:=hid ((hb.block _ (blk_lt X3.out)).trans X3.out)
 clear hb p0 p1 p2 p3
 cases e1 with
 | true =>
  go_wp2_with fail
  go_ret
  exact ⟨by simp [ovG],HB2.out⟩
 | false =>
  have p0:=blk_cell X32.out 0
  have p1:=blk_cell X32.out 1
  have p2:=blk_cell X32.out 2
  have p3:=blk_cell X32.out 3
  go_wp2_with fail
  refine (E2.out _).mono ?_
  rintro e w3 ⟨rfl,hb⟩
  have HB3:=hid (below_step HB2.out hb)
  have X23:=hid ((hb.block _ (blk_lt X22.out)).trans X22.out)
  have X33:=hid ((hb.block _ (blk_lt X32.out)).trans X32.out)
  clear hb p0 p1 p2 p3
  cases e2 with
  | true =>
   go_wp2_with fail
   go_ret
   exact ⟨by simp [ovG],HB3.out⟩
  | false =>
   have p0:=blk_cell X23.out 0
   have p1:=blk_cell X23.out 1
   have p2:=blk_cell X23.out 2
   have q0:=blk_cell X33.out 0
   have q1:=blk_cell X33.out 1
   have q2:=blk_cell X33.out 2
   cases i with
   | true =>
    go_wp2_with fail
    go_ret
    exact ⟨by simp [ovG],HB3.out⟩
   | false =>
    cases i2 with
    | true =>
     go_wp2_with fail
     go_ret
     exact ⟨by simp [ovG],HB3.out⟩
    | false =>
     have K:=hid (HK1.out (by trivial) (by trivial) (by trivial) (by trivial) w3 HB3.out)
     go_wp2_with fail
     refine K.out.mono ?_
     rintro e w4 ⟨rfl,nq,rfl⟩
     have HB4:=hid (pw_below_drewN HB3.out nq)
     have K4:=hid (HK2.out (by trivial) (by trivial) (by trivial) (by trivial) (w3.drewN nq) HB4.out)
     by_cases hx:0<x
     ·have g:=decide_eq_true hx
      have HX:=hid hx
      clear hx
      go_wp2_with fail
      go_ret
      exact ⟨by simp [ovG,HX.out],HB4.out⟩
     ·have g:=decide_eq_false hx
      have HX:=hid hx
      clear hx
      go_wp2_with fail
      refine K4.out.mono ?_
      rintro e w5 ⟨rfl,nq2,rfl⟩
      have HB5:=hid (show Below w.heap.size w (w3.drewN (nq+nq2)) from pw_below_drewN HB3.out (nq+nq2))
      by_cases hy:y<0
      ·have g2:=decide_eq_true hy
       have HY:=hid hy
       clear hy
       go_wp2_with fail
       go_ret
       exact ⟨by simp [ovG,HX.out,HY.out],HB5.out⟩
      ·have g2:=decide_eq_false hy
       have HY:=hid hy
       clear hy
       go_wp2_with fail
       go_ret
       exact ⟨by simp [ovG,HX.out,HY.out],HB5.out⟩
end Go.Proofs.YtnineoajmgneiaaGreat.Rg
namespace Go.Proofs.YtnineoajmgneiaaGreat.Rg
open Go.RowKit YtnineoajmgneiaaGreatW YtnineoajmgneiaaGreatW.PrintWords YtnineoajmgneiaaGreatW.PrintLast YtnineoajmgneiaaGreatW.PrintMore Fr L Ky Tm Lm It
end Go.Proofs.YtnineoajmgneiaaGreat.Rg
namespace Go.Proofs.YtnineoajmgneiaaGreat.Rg
open Go.RowKit YtnineoajmgneiaaGreatW YtnineoajmgneiaaGreatW.PrintWords YtnineoajmgneiaaGreatW.PrintLast YtnineoajmgneiaaGreatW.PrintMore Fr L Ky Tm Lm It
end Go.Proofs.YtnineoajmgneiaaGreat.Rg
namespace Go.Proofs.YtnineoajmgneiaaGreat.Rg
open Go.RowKit YtnineoajmgneiaaGreatW YtnineoajmgneiaaGreatW.PrintWords YtnineoajmgneiaaGreatW.PrintLast YtnineoajmgneiaaGreatW.PrintMore Fr L Ky Tm Lm It
theorem num_calls {w:World} {hp n c:Nat} {A:Option Addr} (h:w.cell? ⟨hp,0,none⟩=some (.slice A n c)):Calls Tryz.prog 85 #[.pointer (some ⟨hp,0,none⟩)] w fun e w'=>e=.returned (.int .i64 (n:Int))∧w=w':=by
 go_enter Tryz.func85,Tryz.ntmps85
 go_wp2
 go_ret
 exact ⟨rfl,rfl⟩
theorem delSize_calls {w:World} {sb g n c i p:Nat} {x:Int} (h0:w.cell? ⟨sb,2,none⟩=some (.slice (some ⟨g,0,none⟩) n c)) (hi:i<n) (h1:w.cell? ⟨g,i,none⟩=some (ptr p)) (h2:w.cell? ⟨p,1,none⟩=some (.int .i64 x)) :
  Calls Tryz.prog 86 #[.pointer (some ⟨sb,2,none⟩),.int .i64 (i:Int)] w fun e w'=>e=.returned (.int .i64 x)∧w=w':=by
 simp only [ptr] at h1
 go_enter Tryz.func86,Tryz.ntmps86
 go_wp2
 go_ret
 exact ⟨rfl,rfl⟩
end Go.Proofs.YtnineoajmgneiaaGreat.Rg
namespace Go.Proofs.YtnineoajmgneiaaGreat.Rg
open Lib (hid)
open Go.RowKit YtnineoajmgneiaaGreatW YtnineoajmgneiaaGreatW.PrintWords YtnineoajmgneiaaGreatW.PrintLast YtnineoajmgneiaaGreatW.PrintMore Fr L Ky Tm Lm It
theorem info88:(Tryz.prog.info? 88).map (fun i=>(i.zero,i.size,i.bytes))=some (some (.int .u64 0),1,8):=by kernel_rfl
/-- A row of table pointers, read cell by cell, with the numbers behind them. -/
def NumRow (w:World) (A:Option Addr) (ks:List Int):Prop:=∀ j,j<ks.length→∃ b p,A=some ⟨b,0,none⟩∧w.cell? ⟨b,j,none⟩=some (ptr p)∧w.cell? ⟨p,0,none⟩=some (.int .u64 (ks.getD j 0))
theorem NumRow.below {w w1:World} {A:Option Addr} {ks:List Int} (h:NumRow w A ks) (hb:Below w.heap.size w w1):NumRow w1 A ks:=fun j hj=>by
 obtain ⟨b,p,e,h1,h2⟩:=h j hj
 exact ⟨b,p,e,(hb.cell (World.block_lt_of_cell? w _ h1)).trans h1,(hb.cell (World.block_lt_of_cell? w _ h2)).trans h2⟩
def NumPost (w:World) (ks:List Int) (e:Ending) (w':World):Prop:=∃ v,e=.returned v∧Kd.R (Kd.int .u64) 88 w' w.heap.size (fun _=>True) v ks∧Below w.heap.size w w'
set_option maxRecDepth 100000 in
set_option maxHeartbeats 4000000 in
theorem numbers_calls {w:World} {A:Option Addr} {c:Nat} {ks:List Int} (h:NumRow w A ks) (hn:ks.length≤200000):Calls Tryz.prog 76 #[.slice A ks.length c] w (NumPost w ks):=by
 have H0:=hid h
 clear h
 go_enter Tryz.func76,Tryz.ntmps76
 go_wp2_with (first | ((with_reducible refine gate_dst (N:=6) rfl ?_);refine Kd.R_lit (Kd.int .u64) (w0:=w) w.heap.size 88 ?hg (N:=6) ?hd (xs:=([]:List Int)) (inner:=[]) (ok:=fun _=>True) (okp:=fun _=>True) ?hr ?hp (fun _ hk=>hk) trivial (Below.refl _ _) (Nat.le_refl _) (by simp) ?_;(case hd=>rfl);(case hg=>rfl);(case hr=>first | (go_simp;done) | (go_simp;rfl));(case hp=>exact (Reps.none _ _));intro v5 w2 ho hb hg_ hnew_;have HR2:=hid ho;have HB2:=hid hb;clear hg_ hnew_ ho hb))
 go_loopg [3,9] ks.length (fun kq v3 v9 wr=>∃ j:Nat,v9=.int .i64 (j:Int)∧Aside0 (j+kq=ks.length∧Kd.R (Kd.int .u64) 88 wr w.heap.size (fun _=>True) v3 (ks.take j)∧Below w.heap.size w wr))
 case atStart=>exact ⟨0,rfl,⟨by omega,by simpa using HR2.out,HB2.out⟩⟩
 case round =>
  clear HR2 HB2
  obtain ⟨j,rfl,HQ⟩:=hrel
  have HJ:=hid HQ.out.1
  have HR:=hid HQ.out.2.1
  have HB:=hid HQ.out.2.2
  clear HQ
  by_cases hj:j<ks.length
  ·have d1:decide ((j:Int)<(ks.length:Int))=true:=decide_eq_true (by omega)
   obtain ⟨b,p,e,k1,k2⟩:=H0.out.below HB.out j hj
   subst e
   simp only [ptr] at k1
   have HGK:=hid (show gk - 1<gk∧j+1+(gk - 1)=ks.length by have:=HJ.out;omega)
   have HTK:=hid (show ks.take (j+1)=ks.take j++[ks.getD j 0] by rw [List.take_succ_eq_append_getElem hj];simp [hj])
   have HL:=hid (show (ks.take j).length≤200000 by rw [List.length_take];omega)
   have K:=hid (id_calls (w:=wr) (p:=p) k2)
   clear HJ k2
   generalize ks.getD j 0=q at *
   go_wp2_with (first | (go_at_call 104;refine K.out.mono ?_;rintro e w' ⟨rfl,rfl⟩) | ((with_reducible refine gate_builtin (b:=.append) (xs:=#[.tmp 13,.tmp 16]) rfl ?_);at_builtin;refine Kd.R_append (Kd.int .u64) (w0:=w) w.heap.size rfl (.tmp 13) (.tmp 16) 80 88 (.int .u64 0) 8 rfl Tryz.underlying80 info88 rfl (by decide) (by omega) _ (ks.take j) q [.int .u64 q] (fun _=>True) (fun _=>False) rfl rfl ?aP (fun _ hk=>hk.elim) ?aF ?aO ?aB ?aS ?aL ?_;(case aP=>exact rfl);(case aB=>exact HB.out);(case aF=>exact (fun _ _=>trivial));(case aO=>exact HR.out);(case aS=>exact below_size HB.out);(case aL=>have:=HL.out;omega);intro v7 w7 ho hb hg hat;have HR7:=hid ho;have HB7:=hid hb;clear ho hb hg hat))
   go_roundg (gk - 1)
   case measure=>exact HGK.out.1
   case rel=>exact ⟨j+1,rfl,⟨HGK.out.2,by rw [HTK.out];exact HR7.out,HB7.out⟩⟩
  ·have d1:decide ((j:Int)<(ks.length:Int))=false:=decide_eq_false (by omega)
   have HE:=hid (show NumPost w ks (.returned u3) wr from ⟨u3,rfl,by have h:=HR.out;rwa [List.take_of_length_le (by omega)] at h,HB.out⟩)
   go_wp2_with fail
   go_ret
   exact HE.out
end Go.Proofs.YtnineoajmgneiaaGreat.Rg
namespace Go.Proofs.YtnineoajmgneiaaGreat.Rg
open Go.RowKit YtnineoajmgneiaaGreatW YtnineoajmgneiaaGreatW.PrintWords YtnineoajmgneiaaGreatW.PrintLast YtnineoajmgneiaaGreatW.PrintMore Fr L Ky Tm Lm It
/-- A range: the least and the greatest key; all keys. -/
structure Rg where
 lo:List UInt8
 hi:List UInt8
 inf:Bool
def rE:Rg:=⟨[],[],false⟩
def rI:Rg:=⟨[],[],true⟩
/-- A key's slice: no block, or a block of its own. -/
def KB (w:World) (ok:Nat→Prop) (A:Option Addr) (x:List UInt8):Prop:=(x=[]∧A=none)∨∃ b,A=some ⟨b,0,none⟩∧w.heap[b]? = some (keyO x)∧ok b
def rgC (A B:Option Addr) (r:Rg):List Value:=[.slice A r.lo.length r.lo.length,.slice B r.hi.length r.hi.length,.bool r.inf,.int .i64 0]
def RgK (w:World) (ok:Nat→Prop) (r:Rg) (cs:List Value):Prop:=∃ A B,cs=rgC A B r∧KB w ok A r.lo∧KB w ok B r.hi
theorem KB.mono {w:World} {ok ok':Nat→Prop} {A:Option Addr} {x:List UInt8} (h:KB w ok A x) (hk:∀ b,ok b→b<w.heap.size→w.heap[b]? = some (keyO x)→ok' b):KB w ok' A x:=by
 rcases h with h | ⟨b,e,h1,h2⟩
 ·exact .inl h
 ·exact .inr ⟨b,e,h1,hk b h2 (blk_lt h1) h1⟩
theorem KB.move {w w1:World} {ok:Nat→Prop} {A:Option Addr} {x:List UInt8} (h:KB w ok A x) (hk:∀ b,ok b→b<w.heap.size→w1.heap[b]? = w.heap[b]?):KB w1 ok A x:=by
 rcases h with h | ⟨b,e,h1,h2⟩
 ·exact .inl h
 ·exact .inr ⟨b,e,(hk b h2 (blk_lt h1)).trans h1,h2⟩
theorem RgK.mono {w:World} {ok ok':Nat→Prop} {r:Rg} {cs:List Value} (h:RgK w ok r cs) (hk:∀ b,ok b→b<w.heap.size→(∃ x,w.heap[b]? = some (keyO x))→ok' b):RgK w ok' r cs:=by
 obtain ⟨A,B,e,h1,h2⟩:=h
 exact ⟨A,B,e,h1.mono (fun b k l m=>hk b k l ⟨_,m⟩),h2.mono (fun b k l m=>hk b k l ⟨_,m⟩)⟩
theorem RgK.move {w w1:World} {ok:Nat→Prop} {r:Rg} {cs:List Value} (h:RgK w ok r cs) (hk:∀ b,ok b→b<w.heap.size→w1.heap[b]? = w.heap[b]?):RgK w1 ok r cs:=by
 obtain ⟨A,B,e,h1,h2⟩:=h
 exact ⟨A,B,e,h1.move hk,h2.move hk⟩
theorem RgK.below {w w1:World} {ok:Nat→Prop} {r:Rg} {cs:List Value} (h:RgK w ok r cs) (hb:Below w.heap.size w w1):RgK w1 ok r cs:=h.move (fun b _ hl=>hb.block b hl)
/-- Ranges in a row. -/
def kR:Kd Rg where
 sz:=4
 E:=[5]
 K:=fun w r cs=>RgK w (fun _=>True) r cs
 M:=fun w base ok r cs=>RgK w ok r cs∧RgK w (fun k=>base≤k) r cs
 K_len:=fun ⟨_,_,h,_⟩=>by rw [h];rfl
 K_one:=fun ⟨_,_,h,_⟩=>by
  rw [h]
  intro u hu
  simp only [rgC,List.mem_cons,List.not_mem_nil,or_false] at hu
  rcases hu with h | h | h | h<;>rw [h]<;>rfl
 K_below:=fun hb h=>h.below hb
 K_of_M:=fun h=>h.1.mono (fun _ _ _ _=>trivial)
 M_mono:=fun hk h=>⟨h.1.mono (fun b q _ _=>hk b q),h.2⟩
 M_bound:=fun {w base ok r cs} h=>by
  obtain ⟨⟨A,B,e,h1,h2⟩,A',B',e',k1,k2⟩:=h
  rw [e] at e'
  simp only [rgC,List.cons.injEq,Value.slice.injEq,and_true,true_and] at e'
  obtain ⟨rfl,rfl⟩:=e'
  have key:∀ {A:Option Addr} {x:List UInt8},KB w ok A x→KB w (fun k=>base≤k) A x→KB w (fun k=>ok k∧base≤k∧k<w.heap.size∧∃ q,q∈[5]∧∃ cells,w.heap[k]? = some (.cells cells q (0,0))) A x:=by
   intro A x a b
   rcases a with a | ⟨g,ea,ha,oa⟩
   ·exact .inl a
   ·rcases b with b | ⟨g',eb,hb,ob⟩
    ·rw [b.2] at ea;cases ea
    ·rw [ea] at eb
     injection eb with eb
     injection eb with eb
     subst eb
     exact .inr ⟨g,ea,ha,oa,ob,blk_lt ha,5,List.mem_singleton.2 rfl,_,ha⟩
  exact ⟨⟨A,B,e,key h1 k1,key h2 k2⟩,A,B,e,k1,k2⟩
 M_move:=fun {w w1 base ok r cs} hk h=>by
  obtain ⟨⟨A,B,e,h1,h2⟩,A',B',e',k1,k2⟩:=h
  rw [e] at e'
  simp only [rgC,List.cons.injEq,Value.slice.injEq,and_true,true_and] at e'
  obtain ⟨rfl,rfl⟩:=e'
  have key:∀ {A:Option Addr} {x:List UInt8},KB w ok A x→KB w (fun k=>base≤k) A x→KB w1 (fun k=>base≤k) A x:=by
   intro A x a b
   rcases a with a | ⟨g,ea,ha,oa⟩
   ·exact .inl a
   ·rcases b with b | ⟨g',eb,hb,ob⟩
    ·exact .inl b
    ·rw [ea] at eb
     injection eb with eb
     injection eb with eb
     subst eb
     exact .inr ⟨g,ea,(hk g oa).trans ha,ob⟩
  exact ⟨⟨A,B,e,h1.move (fun b q _=>hk b q),h2.move (fun b q _=>hk b q)⟩,A,B,e,key h1 k1,key h2 k2⟩
 M_lower:=fun hb h=>⟨h.1,h.2.mono (fun b q _ _=>Nat.le_trans hb q)⟩
/-! ### plain -/
/-- A range that is none, all, or from a key to another one. -/
def RgOk (r:Rg):Prop:=(r.lo=[]∧r.hi=[])∨((8≤r.lo.length∧r.lo.length≤100000100)∧8≤r.hi.length∧r.hi.length≤100000100)
def emptyR (r:Rg):Bool:=isE r.lo.length r.hi.length r.inf
def ovR (r d:Rg):Bool:=ovG (emptyR r) (emptyR d) r.inf d.inf (cmpK r.lo d.hi) (cmpK r.hi d.lo)
/-- A key without its version. -/
def uk (x:List UInt8):List UInt8:=x.take (x.length - 8)
def loK (c:List UInt8):List Tb→List UInt8
 | []=>c
 | t :: ts=>loK (if cmpK t.small c<0 then t.small else c) ts
def hiK (c:List UInt8):List Tb→List UInt8
 | []=>c
 | t :: ts=>hiK (if 0<cmpK t.big c then t.big else c) ts
def z8:List UInt8:=be64b 0
def f8:List UInt8:=be64b 18446744073709551615
/-- The range of tables: all versions of its least and its greatest key. -/
def rgOf:List Tb→Rg
 | []=>rE
 | t :: ts=>⟨uk (loK t.small ts)++z8,uk (hiK t.big ts)++f8,false⟩
def loE (r k:Rg):List UInt8:=if r.lo.length=0∨cmpK k.lo r.lo<0 then k.lo else r.lo
def hiE (r k:Rg):List UInt8:=if r.hi.length=0∨0<cmpK k.hi r.hi then k.hi else r.hi
def extR (r k:Rg):Rg:=
 if emptyR k then r else
 let r1:=if emptyR r then k else r
 ⟨loE r1 k,hiE r1 k,k.inf || r1.inf⟩
theorem loK_mem:∀ (ts:List Tb) (c:List UInt8),loK c ts=c∨∃ t∈ts,loK c ts=t.small
 | [],c=>.inl rfl
 | t :: ts,c=>by
  unfold loK
  rcases loK_mem ts (if cmpK t.small c<0 then t.small else c) with h | ⟨u,hu,h⟩
  ·rw [h]
   split
   ·exact .inr ⟨t,List.mem_cons_self,rfl⟩
   ·exact .inl rfl
  ·exact .inr ⟨u,List.mem_cons_of_mem _ hu,h⟩
theorem hiK_mem:∀ (ts:List Tb) (c:List UInt8),hiK c ts=c∨∃ t∈ts,hiK c ts=t.big
 | [],c=>.inl rfl
 | t :: ts,c=>by
  unfold hiK
  rcases hiK_mem ts (if 0<cmpK t.big c then t.big else c) with h | ⟨u,hu,h⟩
  ·rw [h]
   split
   ·exact .inr ⟨t,List.mem_cons_self,rfl⟩
   ·exact .inl rfl
  ·exact .inr ⟨u,List.mem_cons_of_mem _ hu,h⟩
theorem uk_len (x:List UInt8):(uk x).length=x.length - 8:=by simp [uk]
theorem z8_len:z8.length=8:=rfl
theorem f8_len:f8.length=8:=rfl
/-- Lengths that a table's keys have. -/
def KLen (t:Tb):Prop:=(8≤t.small.length∧t.small.length≤100000000)∧8≤t.big.length∧t.big.length≤100000000
theorem lo_len {t:Tb} {ts:List Tb} (h:∀ u∈t :: ts,KLen u):8≤(loK t.small ts).length∧(loK t.small ts).length≤100000000:=by
 rcases loK_mem ts t.small with e | ⟨u,hu,e⟩
 ·rw [e];exact (h t List.mem_cons_self).1
 ·rw [e];exact (h u (List.mem_cons_of_mem _ hu)).1
theorem hi_len {t:Tb} {ts:List Tb} (h:∀ u∈t :: ts,KLen u):8≤(hiK t.big ts).length∧(hiK t.big ts).length≤100000000:=by
 rcases hiK_mem ts t.big with e | ⟨u,hu,e⟩
 ·rw [e];exact (h t List.mem_cons_self).2
 ·rw [e];exact (h u (List.mem_cons_of_mem _ hu)).2
theorem rgOf_ok {ts:List Tb} (h:∀ u∈ts,KLen u):RgOk (rgOf ts):=by
 cases ts with
 | nil=>exact .inl ⟨rfl,rfl⟩
 | cons t ts =>
  have a:=lo_len h
  have b:=hi_len h
  refine .inr ⟨?_,?_⟩
  ·simp only [rgOf,List.length_append,uk_len,z8_len];omega
  ·simp only [rgOf,List.length_append,uk_len,f8_len];omega
theorem ext_ok {r k:Rg} (hr:RgOk r) (hk:RgOk k) (hki:emptyR k=false→k.inf=false):RgOk (extR r k):=by
 unfold extR
 cases he:emptyR k with
 | true=>exact hr
 | false =>
  have hk2:(8≤k.lo.length∧k.lo.length≤100000100)∧8≤k.hi.length∧k.hi.length≤100000100:=by
   rcases hk with ⟨h1,h2⟩ | h
   ·have hi:=hki he
    simp [emptyR,isE,h1,h2,hi] at he
   ·exact h
  have key:∀ r1:Rg,RgOk r1→RgOk ⟨loE r1 k,hiE r1 k,k.inf || r1.inf⟩:=by
   intro r1 h1
   refine .inr ⟨?_,?_⟩
   ·show 8≤(loE r1 k).length∧(loE r1 k).length≤_
    unfold loE
    split
    ·exact hk2.1
    ·rename_i hn
     rcases h1 with h2 | h2
     ·exact absurd (.inl (by rw [h2.1];rfl)) hn
     ·exact h2.1
   ·show 8≤(hiE r1 k).length∧(hiE r1 k).length≤_
    unfold hiE
    split
    ·exact hk2.2
    ·rename_i hn
     rcases h1 with h2 | h2
     ·exact absurd (.inl (by rw [h2.2];rfl)) hn
     ·exact h2.2
  cases emptyR r with
  | true=>exact key k hk
  | false=>exact key r hr
/-- A row of table pointers, read cell by cell, with the tables behind them. -/
def TRow (w:World) (A:Option Addr) (ts:List Tb):Prop:=∀ j,j<ts.length→∃ b p,A=some ⟨b,0,none⟩∧w.cell? ⟨b,j,none⟩=some (ptr p)∧Ls.TabH w p (Ls.tAt ts j)
theorem TRow.below {w w1:World} {A:Option Addr} {ts:List Tb} (h:TRow w A ts) (hb:Below w.heap.size w w1):TRow w1 A ts:=fun j hj=>by
 obtain ⟨b,p,e,h1,h2⟩:=h j hj
 exact ⟨b,p,e,(hb.cell (World.block_lt_of_cell? w _ h1)).trans h1,Nw.tab_below hb h2⟩
end Go.Proofs.YtnineoajmgneiaaGreat.Rg
namespace Go.Proofs.YtnineoajmgneiaaGreat.Rg
open Lib (hid)
open Go.RowKit YtnineoajmgneiaaGreatW YtnineoajmgneiaaGreatW.PrintWords YtnineoajmgneiaaGreatW.PrintLast YtnineoajmgneiaaGreatW.PrintMore Fr L Ky Tm Lm It
def RgPost (w:World) (r:Rg) (e:Ending) (w':World):Prop:=∃ A B,e=.returned (.agg (rgC A B r).toArray)∧KB w' (fun k=>w.heap.size≤k) A r.lo∧KB w' (fun k=>w.heap.size≤k) B r.hi∧Below w.heap.size w w'
theorem tab_keys {w:World} {p:Nat} {t:Tb} (h:Ls.TabH w p t):∃ b c,w.cell? ⟨p,1,none⟩=some (.slice (some ⟨b,0,none⟩) t.small.length t.small.length)∧w.cell? ⟨p,2,none⟩=some (.slice (some ⟨c,0,none⟩) t.big.length t.big.length)∧w.heap[b]? = some (keyO t.small)∧w.heap[c]? = some (keyO t.big):=by
 obtain ⟨b,c,h1,h2,h3⟩:=h
 exact ⟨b,c,blk_cell h1 1,blk_cell h1 2,h2,h3⟩
/-- What the loop keeps of the least and the greatest key up to now. -/
structure KrI (w:World) (ts:List Tb) (lo hi:List UInt8) (i b c n m:Nat) (x y:List UInt8) (wr:World):Prop where
 one:1≤i∧i≤ts.length
 lx:x.length=n+8∧n≤99999992
 ly:y.length=m+8∧m≤99999992
 el:loK x (ts.drop i)=lo
 eh:hiK y (ts.drop i)=hi
 hx:wr.heap[b]? = some (keyO x)
 hy:wr.heap[c]? = some (keyO y)
 bel:Below w.heap.size w wr
theorem drop_at {ts:List Tb} {i:Nat} (h:i<ts.length):ts.drop i=Ls.tAt ts i :: ts.drop (i+1):=by
 rw [List.drop_eq_getElem_cons h];simp [Ls.tAt,h]
theorem KrI.next {w:World} {ts:List Tb} {lo hi:List UInt8} {i b c n m:Nat} {x y:List UInt8} {wr:World} (h:KrI w ts lo hi i b c n m x y wr) {t:Tb} (hd:ts.drop i=t :: ts.drop (i+1)) (hj:i<ts.length) {b' c' n' m':Nat} {x' y':List UInt8} (q:Nat)
  (ex:x'=if cmpK t.small x<0 then t.small else x) (lx:x'.length=n'+8∧n'≤99999992) (hx:wr.heap[b']? = some (keyO x')) (ey:y'=if 0<cmpK t.big y then t.big else y) (ly:y'.length=m'+8∧m'≤99999992) (hy:wr.heap[c']? = some (keyO y')):KrI w ts lo hi (i+1) b' c' n' m' x' y' (wr.drewN q):=
 ⟨⟨by omega,by omega⟩,lx,ly,by have:=h.el;rw [hd] at this;rw [ex];exact this,by have:=h.eh;rw [hd] at this;rw [ey];exact this,hx,hy,pw_below_drewN h.bel q⟩
theorem at_key0 {w:World} {b:Nat} {x:List UInt8} (h:w.heap[b]? = some (keyO x)):At w ⟨b,0,none⟩ (uk x):=key_low h
/-- A result's four cells filled. -/
theorem four_set {w:World} {rb:Nat} {x0 x1 x2 x3 u0 u1 u2 u3:Value} {t:Nat} (h:w.heap[rb]? = some (.cells #[x0,x1,x2,x3] t (0,0))) :
  ((((w.setCell ⟨rb,0,none⟩ u0).setCell ⟨rb,1,none⟩ u1).setCell ⟨rb,2,none⟩ u2).setCell ⟨rb,3,none⟩ u3).heap[rb]? = some (.cells #[u0,u1,u2,u3] t (0,0))∧(∀ b,b≠rb→((((w.setCell ⟨rb,0,none⟩ u0).setCell ⟨rb,1,none⟩ u1).setCell ⟨rb,2,none⟩ u2).setCell ⟨rb,3,none⟩ u3).heap[b]? = w.heap[b]?) ∧
  ∀ {w0:World},Below w0.heap.size w0 w→w0.heap.size≤rb→Below w0.heap.size w0 ((((w.setCell ⟨rb,0,none⟩ u0).setCell ⟨rb,1,none⟩ u1).setCell ⟨rb,2,none⟩ u2).setCell ⟨rb,3,none⟩ u3):=by
 refine ⟨?_,fun b hb=>?_,fun h hB=>?_⟩
 ·have h0:=blk_set h 0 u0
  have h1:=blk_set h0 1 u1
  have h2:=blk_set h1 2 u2
  have h3:=blk_set h2 3 u3
  simpa using h3
 ·rw [Below.heap_setCell _ _ _ b hb,Below.heap_setCell _ _ _ b hb,Below.heap_setCell _ _ _ b hb,Below.heap_setCell _ _ _ b hb]
 ·exact below_set (below_set (below_set (below_set h hB) hB) hB) hB
set_option maxRecDepth 100000 in
set_option maxHeartbeats 4000000 in
theorem range_calls {w:World} {A:Option Addr} {c:Nat} {ts:List Tb} (h:TRow w A ts) (hn:ts.length≤200000) (hk:∀ t∈ts,KLen t):Calls Tryz.prog 95 #[.slice A ts.length c] w (RgPost w (rgOf ts)):=by
 cases hts:ts with
 | nil =>
  go_enter Tryz.func95,Tryz.ntmps95
  go_wp2_with fail
  have HX:=blk_new w (.cells #[.slice none 0 0,.slice none 0 0,.bool false,.int .i64 0] 126)
  refine bodyPost_ret (results_cell_row rfl _ _ w.heap.size 126 #[.slice none 0 0,.slice none 0 0,.bool false,.int .i64 0] (0,0) _ rfl HX Tryz.underlying126 rfl (by kernel_rfl)) rfl ?_
  exact ⟨none,none,rfl,.inl ⟨rfl,rfl⟩,.inl ⟨rfl,rfl⟩,below_alloc (Below.refl _ _) _⟩
 | cons t0 tl =>
  have hpos:0<ts.length:=by rw [hts];simp
  rw [← hts]
  have h0:Ls.tAt ts 0=t0:=by rw [hts];rfl
  have H0:=hid h
  have HK:=hid (show ∀ j,j<ts.length→KLen (Ls.tAt ts j) from fun j hj=>hk _ (It.tAt_mem hj))
  have HLO:=hid (show rgOf ts=⟨uk (loK t0.small tl)++z8,uk (hiK t0.big tl)++f8,false⟩ by rw [hts];rfl)
  have HD:=hid (show ts.drop 1=tl by rw [hts];rfl)
  obtain ⟨b0,p0,e0,c0,T0⟩:=h 0 hpos
  rw [h0] at T0
  have K0:KLen t0:=by rw [← h0];exact HK.out 0 hpos
  subst e0
  simp only [ptr] at c0
  have d0:((ts.length:Int) == 0)=false:=beq_eq_false_iff_ne.2 (by omega)
  have d1:decide (0<(ts.length:Int))=true:=decide_eq_true (by omega)
  have HN:=hid hn
  clear h hk hn h0 hts
  have T1:=hid T0
  clear T0
  go_enter Tryz.func95,Tryz.ntmps95
  go_upto_region 1 with (fail)
  obtain ⟨w1,hw1⟩ : ∃ w1,w1=w.alloc (.cells #[.slice none 0 0,.slice none 0 0,.bool false,.int .i64 0] 126):=⟨_,rfl⟩
  rw [← hw1]
  obtain ⟨rb,hrb⟩ : ∃ rb,rb=w.heap.size:=⟨_,rfl⟩
  rw [← hrb]
  have HB1:=hid (show Below w.heap.size w w1 by rw [hw1];exact below_alloc (Below.refl _ _) _)
  have HX1:=hid (show w1.heap[rb]? = some (.cells #[.slice none 0 0,.slice none 0 0,.bool false,.int .i64 0] 126 (0,0)) by rw [hw1,hrb];exact blk_new w _)
  have HRB:=hid (show w.heap.size≤rb by omega)
  have HW1:=hid (show w.heap.size≤w1.heap.size from HB1.out.size)
  clear hw1 hrb
  have cA:=(HB1.out.cell (World.block_lt_of_cell? w _ c0)).trans c0
  obtain ⟨lb,hb,k1,k2,k3,k4⟩:=tab_keys (Nw.tab_below HB1.out T1.out)
  have HS:=hid (smallest_calls k1)
  have HG:=hid (biggest_calls k2)
  have H3:=hid k3
  have H4:=hid k4
  have HC:=hid c0
  clear k1 k2 k3 k4 T1 c0
  go_wp2_with (first | (go_at_call 113;refine HS.out.mono ?_;rintro e w' ⟨rfl,rfl⟩) | (go_at_call 103;refine HG.out.mono ?_;rintro e w' ⟨rfl,rfl⟩))
  clear HS HG cA
  go_loopg [3,4,5] ts.length (fun kq v3 v4 v5 wr=>∃ (i b c n m:Nat) (x y:List UInt8),v3=.slice (some ⟨b,0,none⟩) (n+8) (n+8)∧v4=.slice (some ⟨c,0,none⟩) (m+8) (m+8)∧v5=.int .i64 (i:Int)∧Aside0 (i+kq=ts.length+1)∧Aside0 (KrI w1 ts (loK t0.small tl) (hiK t0.big tl) i b c n m x y wr))
  case atStart =>
   have e1:t0.small.length=(t0.small.length - 8)+8:=by have:=K0.1;omega
   have e2:t0.big.length=(t0.big.length - 8)+8:=by have:=K0.2;omega
   exact ⟨1,lb,hb,t0.small.length - 8,t0.big.length - 8,t0.small,t0.big,by rw [← e1],by rw [← e2],rfl,⟨by omega⟩,⟨⟨⟨by omega,by omega⟩,⟨e1,by have:=K0.1;omega⟩,⟨e2,by have:=K0.2;omega⟩,by rw [HD.out],by rw [HD.out],H3.out,H4.out,Below.refl _ _⟩⟩⟩
  case round =>
   clear H3 H4
   obtain ⟨i,b,c2,n,m,x,y,rfl,rfl,rfl,HI,HQ⟩:=hrel
   by_cases hj:i<ts.length
   ·have d2:decide ((i:Int)<(ts.length:Int))=true:=decide_eq_true (by omega)
    have HGK:=hid (show gk - 1<gk∧i+1+(gk - 1)=ts.length+1 by have:=HI.out;omega)
    obtain ⟨b1,p,e1,c1,T1⟩:=(H0.out.below HB1.out).below HQ.out.bel i hj
    injection e1 with e1
    injection e1 with e1
    subst e1
    simp only [ptr] at c1
    have HK1:=hid (HK.out i hj)
    have HDR:=hid (drop_at hj)
    obtain ⟨t,ht⟩ : ∃ t,t=Ls.tAt ts i:=⟨_,rfl⟩
    rw [← ht] at T1 HK1 HDR
    have s3:IntKind.i64.wrap ((i:Int)+1)=((i+1:Nat):Int):=by rw [IntWalk.i64_in _ (by have:=HN.out;omega)];omega
    obtain ⟨l1,l2,k1,k2,k3,k4⟩:=tab_keys T1
    have HS0:=hid (smallest_calls k1)
    have HS:=hid (fun q=>smallest_calls (w:=wr.drewN q) k1)
    have HG:=hid (fun q=>biggest_calls (w:=wr.drewN q) k2)
    have HQL:=hid HQ.out
    have HC1:=hid (compareKeys_calls (w:=wr) (x:=t.small) (y:=x) rfl HQ.out.lx.1 k3 HQ.out.hx HK1.out.1.1 (by have:=HQ.out.lx.1;omega) (by have:=HK1.out.1.2;omega) (by have:=HQ.out.lx;omega))
    have HC2:=hid (fun q=>compareKeys_calls (w:=wr.drewN q) (x:=t.big) (y:=y) rfl HQ.out.ly.1 k4 HQ.out.hy HK1.out.2.1 (by have:=HQ.out.ly.1;omega) (by have:=HK1.out.2.2;omega) (by have:=HQ.out.ly;omega))
    have H3:=hid k3
    have H4:=hid k4
    clear k1 k2 k3 k4 T1 HQ HI ht
    obtain ⟨z1,hz1⟩ : ∃ z,z=cmpK t.small x:=⟨_,rfl⟩
    obtain ⟨z2,hz2⟩ : ∃ z,z=cmpK t.big y:=⟨_,rfl⟩
    rw [← hz1] at HC1
    rw [← hz2] at HC2
    have HZ1:=hid hz1
    have HZ2:=hid hz2
    clear hz1 hz2
    go_wp2_with (first | (go_at_call 113;refine HS0.out.mono ?_;rintro e w' ⟨rfl,rfl⟩))
    refine HC1.out.mono ?_
    rintro e w' ⟨rfl,nq,rfl⟩
    by_cases g1:z1<0
    ·have f1:=decide_eq_true g1
     have G1:=hid g1
     clear g1
     go_wp2_with (first | (go_at_call 113;refine (HS.out _).mono ?_;rintro e w' ⟨rfl,rfl⟩) | (go_at_call 103;refine (HG.out _).mono ?_;rintro e w' ⟨rfl,rfl⟩))
     refine (HC2.out _).mono ?_
     rintro e w' ⟨rfl,nq2,rfl⟩
     by_cases g2:0<z2
     ·have f2:=decide_eq_true g2
      have G2:=hid g2
      clear g2
      go_wp2_with (first | (go_at_call 103;refine (HG.out _).mono ?_;rintro e w' ⟨rfl,rfl⟩))
      have g1:=G1.out
      have g2:=G2.out
      go_roundg (gk - 1)
      case measure=>exact HGK.out.1
      case rel=>exact ⟨i+1,l1,l2,(t.small.length - 8),(t.big.length - 8),t.small,t.big,by rw [show t.small.length - 8+8=t.small.length by have:=HK1.out.1;omega],by rw [show t.big.length - 8+8=t.big.length by have:=HK1.out.2;omega],rfl,⟨HGK.out.2⟩,⟨HQL.out.next HDR.out hj (nq+nq2) (by rw [if_pos (by rw [← HZ1.out];omega)]) ⟨by have:=HK1.out.1;omega,by have:=HK1.out.1;omega⟩ H3.out (by rw [if_pos (by rw [← HZ2.out];omega)]) ⟨by have:=HK1.out.2;omega,by have:=HK1.out.2;omega⟩ H4.out⟩⟩
     ·have f2:=decide_eq_false g2
      have G2:=hid g2
      clear g2
      go_wp2_with (first | (go_at_call 103;refine (HG.out _).mono ?_;rintro e w' ⟨rfl,rfl⟩))
      have g1:=G1.out
      have g2:=G2.out
      go_roundg (gk - 1)
      case measure=>exact HGK.out.1
      case rel=>exact ⟨i+1,l1,c2,(t.small.length - 8),m,t.small,y,by rw [show t.small.length - 8+8=t.small.length by have:=HK1.out.1;omega],rfl,rfl,⟨HGK.out.2⟩,⟨HQL.out.next HDR.out hj (nq+nq2) (by rw [if_pos (by rw [← HZ1.out];omega)]) ⟨by have:=HK1.out.1;omega,by have:=HK1.out.1;omega⟩ H3.out (by rw [if_neg (by rw [← HZ2.out];omega)]) HQL.out.ly HQL.out.hy⟩⟩
    ·have f1:=decide_eq_false g1
     have G1:=hid g1
     clear g1
     go_wp2_with (first | (go_at_call 113;refine (HS.out _).mono ?_;rintro e w' ⟨rfl,rfl⟩) | (go_at_call 103;refine (HG.out _).mono ?_;rintro e w' ⟨rfl,rfl⟩))
     refine (HC2.out _).mono ?_
     rintro e w' ⟨rfl,nq2,rfl⟩
     by_cases g2:0<z2
     ·have f2:=decide_eq_true g2
      have G2:=hid g2
      clear g2
      go_wp2_with (first | (go_at_call 103;refine (HG.out _).mono ?_;rintro e w' ⟨rfl,rfl⟩))
      have g1:=G1.out
      have g2:=G2.out
      go_roundg (gk - 1)
      case measure=>exact HGK.out.1
      case rel=>exact ⟨i+1,b,l2,n,(t.big.length - 8),x,t.big,rfl,by rw [show t.big.length - 8+8=t.big.length by have:=HK1.out.2;omega],rfl,⟨HGK.out.2⟩,⟨HQL.out.next HDR.out hj (nq+nq2) (by rw [if_neg (by rw [← HZ1.out];omega)]) HQL.out.lx HQL.out.hx (by rw [if_pos (by rw [← HZ2.out];omega)]) ⟨by have:=HK1.out.2;omega,by have:=HK1.out.2;omega⟩ H4.out⟩⟩
     ·have f2:=decide_eq_false g2
      have G2:=hid g2
      clear g2
      go_wp2_with (first | (go_at_call 103;refine (HG.out _).mono ?_;rintro e w' ⟨rfl,rfl⟩))
      have g1:=G1.out
      have g2:=G2.out
      go_roundg (gk - 1)
      case measure=>exact HGK.out.1
      case rel=>exact ⟨i+1,b,c2,n,m,x,y,rfl,rfl,rfl,⟨HGK.out.2⟩,⟨HQL.out.next HDR.out hj (nq+nq2) (by rw [if_neg (by rw [← HZ1.out];omega)]) HQL.out.lx HQL.out.hx (by rw [if_neg (by rw [← HZ2.out];omega)]) HQL.out.ly HQL.out.hy⟩⟩
   ·have d2:decide ((i:Int)<(ts.length:Int))=false:=decide_eq_false (by omega)
    have HQL:=hid HQ.out
    have hi:i=ts.length:=by have:=HQ.out.one;omega
    subst hi
    have KP:=hid (Rn.parseKey_calls (w:=wr) (b:=b) (k:=n) (c:=n+8) (by have:=HQL.out.lx;omega) (Nat.le_refl _))
    have KP2:=hid (fun (W:World)=>Rn.parseKey_calls (w:=W) (b:=c2) (k:=m) (c:=m+8) (by have:=HQL.out.ly;omega) (Nat.le_refl _))
    have K1:=hid (keyWithTs_calls (w:=wr) (A:=some ⟨b,0,none⟩) (n:=n) (c:=n+8) (x:=uk x) (ts:=18446744073709551615) (by rw [uk_len,HQL.out.lx.1];omega) (fun _=>⟨_,rfl,at_key0 HQL.out.hx⟩) (by have:=HQL.out.lx;omega) (by omega) (by omega))
    have K2:=hid (fun (W:World) (hb:Below wr.heap.size wr W)=>keyWithTs_calls (w:=W) (A:=some ⟨c2,0,none⟩) (n:=m) (c:=m+8) (x:=uk y) (ts:=0) (by rw [uk_len,HQL.out.ly.1];omega) (fun _=>⟨_,rfl,at_key0 ((hb.block _ (blk_lt HQL.out.hy)).trans HQL.out.hy)⟩) (by have:=HQL.out.ly;omega) (by omega) (by omega))
    clear HI HQ
    go_wp2_with (first | (go_at_call 64;refine KP.out.mono ?_;rintro e w' ⟨rfl,rfl⟩))
    refine K1.out.mono ?_
    rintro e w2 ⟨rfl,hk1,hb1⟩
    obtain ⟨g1,hg1⟩ : ∃ g,g=wr.heap.size:=⟨_,rfl⟩
    rw [← hg1] at hk1
    rw [← hg1]
    have HG1:=hid hg1
    have HK1:=hid hk1
    have HB2:=hid hb1
    have K3:=hid (K2.out w2 hb1)
    clear hk1 hb1 hg1 K1 K2
    go_wp2_with (first | (go_at_call 64;refine (KP2.out _).mono ?_;rintro e w' ⟨rfl,rfl⟩))
    refine K3.out.mono ?_
    rintro e w3 ⟨rfl,hk2,hb2⟩
    obtain ⟨g2,hg2⟩ : ∃ g,g=w2.heap.size:=⟨_,rfl⟩
    rw [← hg2] at hk2
    rw [← hg2]
    have HG2:=hid hg2
    have HK2:=hid hk2
    have HB3:=hid hb2
    have HX3:=hid ((HB3.out.block _ (blk_lt ((HB2.out.block _ (blk_lt ((HQL.out.bel.block _ (blk_lt HX1.out)).trans HX1.out))).trans ((HQL.out.bel.block _ (blk_lt HX1.out)).trans HX1.out)))).trans ((HB2.out.block _ (blk_lt ((HQL.out.bel.block _ (blk_lt HX1.out)).trans HX1.out))).trans ((HQL.out.bel.block _ (blk_lt HX1.out)).trans HX1.out)))
    clear hk2 hb2 hg2 K3
    have m0:=blk_cell HX3.out 0
    have m1:=blk_cell HX3.out 1
    have m2:=blk_cell HX3.out 2
    have m3:=blk_cell HX3.out 3
    have f0:=blk_frozen HX3.out 0
    have f1:=blk_frozen HX3.out 1
    have f2:=blk_frozen HX3.out 2
    have f3:=blk_frozen HX3.out 3
    go_wp2_with fail
    obtain ⟨w4,hw4⟩ : ∃ w4,w4=(((w3.setCell ⟨rb,0,none⟩ (.slice (some ⟨g1,0,none⟩) (n+8) (n+8))).setCell ⟨rb,1,none⟩ (.slice (some ⟨g2,0,none⟩) (m+8) (m+8))).setCell ⟨rb,2,none⟩ (.bool false)).setCell ⟨rb,3,none⟩ (.int .i64 0):=⟨_,rfl⟩
    rw [← hw4]
    obtain ⟨q1,q2,q3⟩:=four_set (u0:=.slice (some ⟨g1,0,none⟩) (n+8) (n+8)) (u1:=.slice (some ⟨g2,0,none⟩) (m+8) (m+8)) (u2:=.bool false) (u3:=.int .i64 0) HX3.out
    rw [← hw4] at q1 q2
    have hr1:rb<w1.heap.size:=blk_lt HX1.out
    have b3:Below w.heap.size w w3:=below_step (below_step (below_step HB1.out HQL.out.bel) HB2.out) HB3.out
    have hs1:w1.heap.size≤wr.heap.size:=HQL.out.bel.size
    have hs2:wr.heap.size≤w2.heap.size:=HB2.out.size
    have hg1:=HG1.out
    have hg2:=HG2.out
    have hq:=HW1.out
    refine bodyPost_ret (results_cell_row rfl _ _ rb 126 #[.slice (some ⟨g1,0,none⟩) (n+8) (n+8),.slice (some ⟨g2,0,none⟩) (m+8) (m+8),.bool false,.int .i64 0] (0,0) _ rfl q1 Tryz.underlying126 rfl (by kernel_rfl)) rfl ?_
    have el:=HQL.out.el
    have eh:=HQL.out.eh
    rw [List.drop_length] at el eh
    have l1:(uk x++z8).length=n+8:=by rw [List.length_append,uk_len,z8_len,HQL.out.lx.1];omega
    have l2:(uk y++f8).length=m+8:=by rw [List.length_append,uk_len,f8_len,HQL.out.ly.1];omega
    have er:rgOf ts=⟨uk x++z8,uk y++f8,false⟩:=by rw [HLO.out,← el,← eh];rfl
    rw [er]
    have b4:Below w.heap.size w w4:=by rw [hw4];exact q3 b3 HRB.out
    refine ⟨some ⟨g1,0,none⟩,some ⟨g2,0,none⟩,by simp only [rgC,l1,l2],.inr ⟨g1,rfl,?_,by omega⟩,.inr ⟨g2,rfl,?_,by omega⟩,b4⟩
    ·rw [q2 g1 (by omega)]
     exact (HB3.out.block _ (blk_lt HK1.out)).trans HK1.out
    ·rw [q2 g2 (by omega)]
     exact HK2.out
end Go.Proofs.YtnineoajmgneiaaGreat.Rg
namespace Go.Proofs.YtnineoajmgneiaaGreat.Rg
open Lib (hid)
open Go.RowKit YtnineoajmgneiaaGreatW YtnineoajmgneiaaGreatW.PrintWords YtnineoajmgneiaaGreatW.PrintLast YtnineoajmgneiaaGreatW.PrintMore Fr L Ky Tm Lm It
theorem cmpU_self:∀ x:List UInt8,cmpU x x=0
 | []=>rfl
 | a :: t=>by rw [cmpU_same];exact cmpU_self t
theorem cmpK_self (x:List UInt8):cmpK x x=0:=by unfold cmpK;simp [cmpU_self]
def ExtPost (w:World) (ok:Nat→Prop) (g o T:Nat) (arr:Array Value) (r:Rg) (e:Ending) (w':World):Prop:=
 e=.returned (.tuple #[])∧∃ arr' A B,w'.heap[g]? = some (.cells arr' T (0,0))∧(∀ i u,(rgC A B r)[i]? = some u→arr'[o+i]? = some u)∧(∀ i,i<o∨o+4≤i→arr'[i]? = arr[i]?)∧arr'.size=arr.size∧KB w' ok A r.lo∧KB w' ok B r.hi∧Below 0 w w'∧∀ b,b<w.heap.size→b≠g→w'.heap[b]? = w.heap[b]?
/-- Four cells in line, set. -/
def put4 (arr:Array Value) (o:Nat) (u0 u1 u2 u3:Value):Array Value:=(((arr.setIfInBounds o u0).setIfInBounds (o+1) u1).setIfInBounds (o+2) u2).setIfInBounds (o+3) u3
theorem put4_set {w:World} {g o T:Nat} {arr:Array Value} (h:w.heap[g]? = some (.cells arr T (0,0))) (u0 u1 u2 u3:Value) :
  ((((w.setCell ⟨g,o,none⟩ u0).setCell ⟨g,o+1,none⟩ u1).setCell ⟨g,o+2,none⟩ u2).setCell ⟨g,o+3,none⟩ u3).heap[g]? = some (.cells (put4 arr o u0 u1 u2 u3) T (0,0)):=blk_set (blk_set (blk_set (blk_set h o u0) (o+1) u1) (o+2) u2) (o+3) u3
theorem put4_size (arr:Array Value) (o:Nat) (u0 u1 u2 u3:Value):(put4 arr o u0 u1 u2 u3).size=arr.size:=by simp [put4]
theorem put4_at {arr:Array Value} {o:Nat} (u0 u1 u2 u3:Value) (ho:o+4≤arr.size):∀ i u,[u0,u1,u2,u3][i]? = some u→(put4 arr o u0 u1 u2 u3)[o+i]? = some u:=by
 intro i u h
 have hi:i<4:=(List.getElem?_eq_some_iff.1 h).1
 have:i=0∨i=1∨i=2∨i=3:=by omega
 rcases this with rfl | rfl | rfl | rfl<;>simp only [put4,Array.getElem?_setIfInBounds] at h ⊢ <;> simp at h<;>subst h<;>simp<;>omega
theorem put4_far {arr:Array Value} {o:Nat} (u0 u1 u2 u3:Value):∀ i,i<o∨o+4≤i→(put4 arr o u0 u1 u2 u3)[i]? = arr[i]?:=by
 intro i h
 simp only [put4,Array.getElem?_setIfInBounds]
 rw [if_neg (by omega),if_neg (by omega),if_neg (by omega),if_neg (by omega)]
set_option maxRecDepth 100000 in
set_option maxHeartbeats 4000000 in
/-- Nothing, grown by a range: that range. -/
theorem extE_calls {w:World} {ok:Nat→Prop} {g o T a b:Nat} {arr:Array Value} {k:Rg} (hg:w.heap[g]? = some (.cells arr T (0,0))) (hT:T≠5) {A0 B0:Option Addr} (hc:∀ i u,(rgC A0 B0 rE)[i]? = some u→arr[o+i]? = some u)
  (ha:w.heap[a]? = some (keyO k.lo)) (oa:ok a) (hb:w.heap[b]? = some (keyO k.hi)) (ob:ok b) (l1:8≤k.lo.length∧k.lo.length≤100000100) (l2:8≤k.hi.length∧k.hi.length≤100000100) (hi:k.inf=false) :
  Calls Tryz.prog 100 #[.pointer (some ⟨g,o,none⟩),.agg (rgC (some ⟨a,0,none⟩) (some ⟨b,0,none⟩) k).toArray] w (ExtPost w ok g o T arr k):=by
 obtain ⟨lo,hi0,inf⟩:=k
 simp only at ha hb l1 l2 hi
 subst hi
 have c0:w.cell? ⟨g,o,none⟩=some (.slice A0 0 0):=(blk_cell hg o).trans (hc 0 _ rfl)
 have c1:w.cell? ⟨g,o+1,none⟩=some (.slice B0 0 0):=(blk_cell hg (o+1)).trans (hc 1 _ rfl)
 have c2:w.cell? ⟨g,o+2,none⟩=some (.bool false):=(blk_cell hg (o+2)).trans (hc 2 _ rfl)
 have c3:w.cell? ⟨g,o+3,none⟩=some (.int .i64 0):=(blk_cell hg (o+3)).trans (hc 3 _ rfl)
 have f0:=blk_frozen hg o
 have f1:=blk_frozen hg (o+1)
 have f2:=blk_frozen hg (o+2)
 have f3:=blk_frozen hg (o+3)
 have d0:(((lo.length:Nat):Int) == 0)=false:=beq_eq_false_iff_ne.2 (by omega)
 have d1:(((hi0.length:Nat):Int) == 0)=false:=beq_eq_false_iff_ne.2 (by omega)
 have ho:o+4≤arr.size:=by
  have:=hc 3 _ rfl
  have:=(Array.getElem?_eq_some_iff.1 this).1
  omega
 have HG:=hid hg
 have HC:=hid hc
 have HA:=hid ha
 have HB:=hid hb
 have HE:=hid (fun W=>(isEmpty_calls (w:=W) (A:=some ⟨a,0,none⟩) (B:=some ⟨b,0,none⟩) (n:=lo.length) (c:=lo.length) (m:=hi0.length) (d:=hi0.length) (inf:=false) (s:=0)))
 rw [show isE lo.length hi0.length false=false by unfold isE;rw [beq_eq_false_iff_ne.2 (show lo.length≠0 by omega)];rfl] at HE
 have HE2:=hid (fun W=>(isEmpty_calls (w:=W) (A:=A0) (B:=B0) (n:=0) (c:=0) (m:=0) (d:=0) (inf:=false) (s:=0)))
 clear hg ha hb hc
 simp only [rgC]
 go_enter Tryz.func100,Tryz.ntmps100
 go_upto_region 1 with (fail)
 obtain ⟨w1,hw1⟩ : ∃ w1,w1=w.alloc (.cells #[.slice (some ⟨a,0,none⟩) lo.length lo.length,.slice (some ⟨b,0,none⟩) hi0.length hi0.length,.bool false,.int .i64 0] 126):=⟨_,rfl⟩
 rw [← hw1]
 obtain ⟨kb,hkb⟩ : ∃ b,b=w.heap.size:=⟨_,rfl⟩
 rw [← hkb]
 have HB1:=hid (show Below w.heap.size w w1 by rw [hw1];exact below_alloc (Below.refl _ _) _)
 have HX:=hid (show w1.heap[kb]? = some (.cells #[.slice (some ⟨a,0,none⟩) lo.length lo.length,.slice (some ⟨b,0,none⟩) hi0.length hi0.length,.bool false,.int .i64 0] 126 (0,0)) by rw [hw1,hkb];exact blk_new w _)
 have HKB:=hid (show kb≠g by have:=blk_lt HG.out;omega)
 clear hw1 hkb c0 c1 c2 c3 f0 f1 f2 f3
 have m0:=blk_cell HX.out 0
 have m1:=blk_cell HX.out 1
 have m2:=blk_cell HX.out 2
 have m3:=blk_cell HX.out 3
 go_wp2_with fail
 clear m0 m1 m2 m3
 refine (HE.out _).mono ?_
 rintro e w2 ⟨rfl,hb2⟩
 have HB2:=hid (below_step HB1.out hb2)
 have HX2:=hid ((hb2.block _ (blk_lt HX.out)).trans HX.out)
 clear hb2
 have HG2:=hid ((HB2.out.block _ (blk_lt HG.out)).trans HG.out)
 have c0:w2.cell? ⟨g,o,none⟩=some (.slice A0 0 0):=(blk_cell HG2.out o).trans (HC.out 0 _ rfl)
 have c1:w2.cell? ⟨g,o+1,none⟩=some (.slice B0 0 0):=(blk_cell HG2.out (o+1)).trans (HC.out 1 _ rfl)
 have c2:w2.cell? ⟨g,o+2,none⟩=some (.bool false):=(blk_cell HG2.out (o+2)).trans (HC.out 2 _ rfl)
 have c3:w2.cell? ⟨g,o+3,none⟩=some (.int .i64 0):=(blk_cell HG2.out (o+3)).trans (HC.out 3 _ rfl)
 go_wp2_with fail
 refine (HE2.out _).mono ?_
 rintro e w3 ⟨rfl,hb3⟩
 clear c0 c1 c2 c3
 have HB3:=hid (below_step HB2.out hb3)
 have HX3:=hid ((hb3.block _ (blk_lt HX2.out)).trans HX2.out)
 have HG3:=hid ((hb3.block _ (blk_lt HG2.out)).trans HG2.out)
 clear hb3
 have m0:=blk_cell HX3.out 0
 have m1:=blk_cell HX3.out 1
 have m2:=blk_cell HX3.out 2
 have m3:=blk_cell HX3.out 3
 have c0:w3.cell? ⟨g,o,none⟩=some (.slice A0 0 0):=(blk_cell HG3.out o).trans (HC.out 0 _ rfl)
 have c1:w3.cell? ⟨g,o+1,none⟩=some (.slice B0 0 0):=(blk_cell HG3.out (o+1)).trans (HC.out 1 _ rfl)
 have c2:w3.cell? ⟨g,o+2,none⟩=some (.bool false):=(blk_cell HG3.out (o+2)).trans (HC.out 2 _ rfl)
 have c3:w3.cell? ⟨g,o+3,none⟩=some (.int .i64 0):=(blk_cell HG3.out (o+3)).trans (HC.out 3 _ rfl)
 have f0:=blk_frozen HG3.out o
 have f1:=blk_frozen HG3.out (o+1)
 have f2:=blk_frozen HG3.out (o+2)
 have f3:=blk_frozen HG3.out (o+3)
 have hr:isE 0 0 false=true:=rfl
 rw [hr]
 go_upto_region 4 with (fail)
 obtain ⟨w4,hw4⟩ : ∃ w4,w4=(((w3.setCell ⟨g,o,none⟩ (.slice (some ⟨a,0,none⟩) lo.length lo.length)).setCell ⟨g,o+1,none⟩ (.slice (some ⟨b,0,none⟩) hi0.length hi0.length)).setCell ⟨g,o+2,none⟩ (.bool false)).setCell ⟨g,o+3,none⟩ (.int .i64 0):=⟨_,rfl⟩
 rw [← hw4]
 clear m0 m1 m2 m3 c0 c1 c2 c3 f0 f1 f2 f3
 have HG4:=hid (show w4.heap[g]? = some (.cells (put4 arr o (.slice (some ⟨a,0,none⟩) lo.length lo.length) (.slice (some ⟨b,0,none⟩) hi0.length hi0.length) (.bool false) (.int .i64 0)) T (0,0)) by rw [hw4];exact put4_set HG3.out _ _ _ _)
 have HF4:=hid (show ∀ b,b≠g→w4.heap[b]? = w3.heap[b]? by
  intro q hq
  rw [hw4,Below.heap_setCell _ _ _ q hq,Below.heap_setCell _ _ _ q hq,Below.heap_setCell _ _ _ q hq,Below.heap_setCell _ _ _ q hq])
 have HS4:=hid (show Below 0 w w4 by rw [hw4];exact ((((HB3.out.mono (Nat.zero_le _)).setCell (Nat.zero_le _) _).setCell (Nat.zero_le _) _).setCell (Nat.zero_le _) _).setCell (Nat.zero_le _) _)
 clear hw4
 have HAT:=hid (put4_at (arr:=arr) (o:=o) (.slice (some ⟨a,0,none⟩) lo.length lo.length) (.slice (some ⟨b,0,none⟩) hi0.length hi0.length) (.bool false) (.int .i64 0) ho)
 have HX4:=hid ((HF4.out kb HKB.out).trans HX3.out)
 have HAG:=hid (show a≠g by
  have:=HA.out
  rintro rfl
  rw [HG.out] at this
  injection this with this
  injection this with _ h _
  exact hT h)
 have HBG:=hid (show b≠g by
  have:=HB.out
  rintro rfl
  rw [HG.out] at this
  injection this with this
  injection this with _ h _
  exact hT h)
 have HA4:=hid ((HF4.out a HAG.out).trans ((HB3.out.block _ (blk_lt HA.out)).trans HA.out))
 have HB4:=hid ((HF4.out b HBG.out).trans ((HB3.out.block _ (blk_lt HB.out)).trans HB.out))
 have c0:w4.cell? ⟨g,o,none⟩=some (.slice (some ⟨a,0,none⟩) lo.length lo.length):=(blk_cell HG4.out o).trans (HAT.out 0 _ rfl)
 have c1:w4.cell? ⟨g,o+1,none⟩=some (.slice (some ⟨b,0,none⟩) hi0.length hi0.length):=(blk_cell HG4.out (o+1)).trans (HAT.out 1 _ rfl)
 have m0:=blk_cell HX4.out 0
 have m1:=blk_cell HX4.out 1
 have m2:=blk_cell HX4.out 2
 have H0:=hid (fun k=>Calls.quiet_of (compareKeys_calls (w:=w4.drewN k) (x:=lo) (y:=lo) rfl rfl HA4.out HA4.out l1.1 l1.1 (by have:=l1.2;omega) (by have:=l1.2;omega)))
 rw [cmpK_self] at H0
 go_wp2_with fail
 go_quiet ((go_at_call 112;with_reducible exact H0.out _))
 have H1:=hid (fun k=>Calls.quiet_of (compareKeys_calls (w:=(w4.drewN nq).drewN k) (x:=hi0) (y:=hi0) rfl rfl HB4.out HB4.out l2.1 l2.1 (by have:=l2.2;omega) (by have:=l2.2;omega)))
 rw [cmpK_self] at H1
 clear H0
 obtain ⟨w5,hw5⟩ : ∃ w5,w5=w4.drewN nq:=⟨_,rfl⟩
 have c1:w5.cell? ⟨g,o+1,none⟩=some (.slice (some ⟨b,0,none⟩) hi0.length hi0.length):=by rw [hw5];exact c1
 have m1:w5.cell? ⟨kb,1,none⟩=some (.slice (some ⟨b,0,none⟩) hi0.length hi0.length):=by rw [hw5];exact m1
 have m2:w5.cell? ⟨kb,2,none⟩=some (.bool false):=by rw [hw5];exact m2
 rw [← hw5] at H1
 rw [← hw5]
 have HW5:=hid hw5
 clear hw5 c0 m0
 go_wp2_with fail
 go_quiet ((go_at_call 112;with_reducible exact H1.out _))
 go_wp2_with fail
 go_end0
 rw [HW5.out]
 refine ⟨rfl,_,some ⟨a,0,none⟩,some ⟨b,0,none⟩,HG4.out,HAT.out,put4_far _ _ _ _,put4_size _ _ _ _ _ _,.inr ⟨a,rfl,HA4.out,oa⟩,.inr ⟨b,rfl,HB4.out,ob⟩,?_,fun q hq hne=>?_⟩
 ·exact pw_below_drewN (pw_below_drewN HS4.out _) _
 ·exact (HF4.out q hne).trans (HB3.out.block q hq)
end Go.Proofs.YtnineoajmgneiaaGreat.Rg
namespace Go.Proofs.YtnineoajmgneiaaGreat.Oo
open Go.RowKit YtnineoajmgneiaaGreatW YtnineoajmgneiaaGreatW.PrintWords Fr L Ky Tm Lm It Rg
open YtnineoajmgneiaaGreat.Ls (tAt)
theorem less_cmp:∀ l m:List UInt8,Op.bytesLess l m=decide (cmpU l m<0)
 | [],[]=>by rfl
 | [],_ :: _=>by rfl
 | _ :: _,[]=>by rfl
 | a :: s,b :: t=>by
  have ih:=less_cmp s t
  rw [Op.bytesLess,cmpU]
  by_cases h:a<b
  ·simp [h]
  ·by_cases e:a=b
   ·subst e
    simp [ih]
   ·have h2:b<a:=by
     rcases Nat.lt_trichotomy a.toNat b.toNat with k | k | k
     ·exact absurd (UInt8.lt_iff_toNat_lt.2 k) h
     ·exact absurd (UInt8.toNat_inj.1 k) e
     ·exact UInt8.lt_iff_toNat_lt.2 k
    simp [h,e,h2]
theorem cmpU_neg:∀ l m:List UInt8,cmpU m l = - cmpU l m
 | [],[]=>by rfl
 | [],_ :: _=>by rfl
 | _ :: _,[]=>by rfl
 | a :: s,b :: t=>by
  have ih:=cmpU_neg s t
  rw [cmpU,cmpU]
  rcases Nat.lt_trichotomy a.toNat b.toNat with k | k | k
  ·have h:a<b:=UInt8.lt_iff_toNat_lt.2 k
   have h2:¬ b<a:=fun x=>by have:=UInt8.lt_iff_toNat_lt.1 x;omega
   have h3:¬ b=a:=fun x=>by rw [x] at k;omega
   rw [if_pos h,if_neg h2,if_neg h3]<;>try rfl
  ·have e:a=b:=UInt8.toNat_inj.1 k
   subst e
   rw [if_neg (UInt8.lt_irrefl a),if_pos rfl,if_neg (UInt8.lt_irrefl a),if_pos rfl,ih]
  ·have h:b<a:=UInt8.lt_iff_toNat_lt.2 k
   have h2:¬ a<b:=fun x=>by have:=UInt8.lt_iff_toNat_lt.1 x;omega
   have h3:¬ a=b:=fun x=>by rw [x] at k;omega
   rw [if_pos h,if_neg h2,if_neg h3]<;>try rfl
theorem cmpU_zero:∀ {l m:List UInt8},cmpU l m=0→l=m
 | [],[],_=>rfl
 | [],_ :: _,h=>by rw [cmpU] at h;cases h
 | _ :: _,[],h=>by rw [cmpU] at h;cases h
 | a :: s,b :: t,h=>by
  rw [cmpU] at h
  by_cases k:a<b
  ·rw [if_pos k] at h;cases h
  ·rw [if_neg k] at h
   by_cases e:a=b
   ·rw [if_pos e] at h;rw [e,cmpU_zero h]
   ·rw [if_neg e] at h;cases h
theorem cmpU_trans:∀ {l m n:List UInt8},cmpU l m<0→cmpU m n<0→cmpU l n<0
 | [],[],_,h,_=>by rw [cmpU] at h;omega
 | _ :: _,[],_,h,_=>by rw [cmpU] at h;omega
 | [],_ :: _,[],_,h=>by rw [cmpU] at h;omega
 | _ :: _,_ :: _,[],_,h=>by rw [cmpU] at h;omega
 | [],_ :: _,_ :: _,_,_=>by rw [cmpU];omega
 | a :: s,b :: t,c :: u,h,k=>by
  rw [cmpU] at h k ⊢
  by_cases h1:a<b
  ·by_cases k1:b<c
   ·rw [if_pos (UInt8.lt_trans h1 k1)];omega
   ·rw [if_neg k1] at k
    by_cases k2:b=c
    ·subst k2;rw [if_pos h1];omega
    ·rw [if_neg k2] at k;omega
  ·rw [if_neg h1] at h
   by_cases h2:a=b
   ·subst h2
    rw [if_pos rfl] at h
    by_cases k1:a<c
    ·rw [if_pos k1];omega
    ·rw [if_neg k1] at k ⊢
     by_cases k2:a=c
     ·rw [if_pos k2] at k ⊢; exact cmpU_trans h k
     ·rw [if_neg k2] at k;omega
   ·rw [if_neg h2] at h;omega
theorem cmpK_neg (x y:List UInt8):cmpK y x = - cmpK x y:=by
 unfold cmpK
 rw [cmpU_neg (x.take _) (y.take _),cmpU_neg (x.drop _) (y.drop _)]
 by_cases h:cmpU (x.take (x.length - 8)) (y.take (y.length - 8))=0
 ·rw [if_neg (by omega),if_neg (by omega)]
 ·rw [if_pos (by omega),if_pos (by omega)]
theorem cmpK_zero {x y:List UInt8} (h:cmpK x y=0) (z:List UInt8):cmpK x z=cmpK y z:=by
 unfold cmpK at h ⊢
 by_cases k:cmpU (x.take (x.length - 8)) (y.take (y.length - 8))=0
 ·rw [if_neg (by omega)] at h
  rw [cmpU_zero k,cmpU_zero h]
 ·rw [if_pos (by omega)] at h;exact absurd h k
theorem cmpK_trans {x y z:List UInt8} (h:cmpK x y<0) (k:cmpK y z<0):cmpK x z<0:=by
 unfold cmpK at h k ⊢
 by_cases h1:cmpU (x.take (x.length - 8)) (y.take (y.length - 8))=0
 ·rw [if_neg (by omega)] at h
  rw [cmpU_zero h1]
  by_cases k1:cmpU (y.take (y.length - 8)) (z.take (z.length - 8))=0
  ·rw [if_neg (by omega)] at k ⊢
   exact cmpU_trans h k
  ·rw [if_pos (by omega)] at k ⊢
   exact k
 ·rw [if_pos (by omega)] at h
  by_cases k1:cmpU (y.take (y.length - 8)) (z.take (z.length - 8))=0
  ·rw [← cmpU_zero k1,if_pos h1];exact h
  ·rw [if_pos (by omega)] at k
   have:=cmpU_trans h k
   rw [if_pos (by omega)]
   exact this
theorem sw_ltOf (i n:Nat) (ts:List Tb):Od.SW n (It.ltOf i ts):=by
 unfold It.ltOf
 split
 ·refine ⟨fun x _=>decide_eq_false (by omega),fun x y z _ _ _ h1 h2=>?_,fun x y z _ _ _ h1 h2=>?_⟩
  ·have h1:=of_decide_eq_true h1
   have h2:=of_decide_eq_true h2
   exact decide_eq_true (by omega)
  ·have h1:=of_decide_eq_false h1
   have h2:=of_decide_eq_false h2
   exact decide_eq_false (by omega)
 ·refine ⟨fun x _=>decide_eq_false (by rw [cmpK_self];omega),fun x y z _ _ _ h1 h2=>?_,fun x y z _ _ _ h1 h2=>?_⟩
  ·exact decide_eq_true (cmpK_trans (of_decide_eq_true h1) (of_decide_eq_true h2))
  ·have h1:=of_decide_eq_false h1
   have h2:=of_decide_eq_false h2
   refine decide_eq_false (fun h=>?_)
   by_cases e:cmpK (tAt ts x).small (tAt ts y).small=0
   ·rw [cmpK_zero e] at h;exact h2 h
   ·have h3:cmpK (tAt ts y).small (tAt ts x).small<0:=by rw [cmpK_neg (tAt ts x).small (tAt ts y).small];omega
    exact h2 (cmpK_trans h3 h)
theorem ord_of {i:Nat} {ts:List Tb} (h:∀ a b,a<b→b<ts.length→It.ltOf i ts a b=true):Od.SW ts.length (It.ltOf i ts)∧Od.ord ts.length (It.ltOf i ts)=List.range ts.length:=
 ⟨sw_ltOf _ _ _,Od.ord_id (sw_ltOf _ _ _) h⟩
/-- A key's text and its version. -/
theorem take_key (s:ByteArray) (v:Int):(Tm.keyOf s v).take ((Tm.keyOf s v).length - 8)=s.toList:=by
 unfold Tm.keyOf
 rw [List.length_append,show (be64b (top v)).length=8 from rfl,Nat.add_sub_cancel,List.take_left]
theorem key_lt {s t:ByteArray} {v u:Int} (h:cmpU s.toList t.toList<0):cmpK (Tm.keyOf s v) (Tm.keyOf t u)<0:=by
 unfold cmpK
 rw [take_key,take_key,if_pos (by omega)]
 exact h
end Go.Proofs.YtnineoajmgneiaaGreat.Oo
namespace Go.Proofs.YtnineoajmgneiaaGreat.Lk
open Lib (hid)
open Go.RowKit YtnineoajmgneiaaGreatW YtnineoajmgneiaaGreatW.PrintWords YtnineoajmgneiaaGreatW.PrintLast YtnineoajmgneiaaGreatW.PrintMore Fr L Ky Tm Lm It Tg Tp Tl
theorem within (a b c:Int):spec_Within.f a b c=some (decide (b≤a∧a≤c)):=by
 unfold spec_Within.f
 by_cases h:b≤a
 ·rw [if_pos (show a ≥ b from h)];simp [h]
 ·rw [if_neg (show ¬ a ≥ b from h)];simp [h]
structure OOk (m a b c d e f g:Int):Prop where
 m:2≤m∧m≤7
 a:2≤a∧a≤100
 b:1≤b∧b≤10
 c:1≤c∧c≤100
 d:1≤d∧d≤1099511627776
 e:1≤e∧e≤1073741824
 f:1≤f∧f≤1073741824
 g:0≤g∧g≤1099511627776
theorem opts_ok (m a b c d e f g:Int):∃ r,spec_OptionsOk.f m a b c d e f g=some r∧(r=true→OOk m a b c d e f g):=by
 unfold spec_OptionsOk.f
 simp only [within,Option.bind_some]
 repeat' split
 all_goals refine ⟨_,rfl,fun h=>?_⟩
 all_goals first | (cases h;done) | (simp only [decide_eq_true_eq] at *; constructor<;>assumption)
structure TOk (t:S68):Prop where
 n:1≤t.f0∧t.f0≤1099511627776
 b:1≤t.f5∧t.f5≤17179869184
 v1:0≤t.f2∧t.f2≤1099511627776
 v2:0≤t.f4∧t.f4≤1099511627776
 v3:0≤t.f6∧t.f6≤1099511627776
 s:0≤t.f7∧t.f7≤1073741824
 a:0≤t.f8∧t.f8≤1073741824
 o:Op.bytesLess t.f1.toList t.f3.toList=true∨t.f1.toList=t.f3.toList
theorem table_ok (t:S68):∃ r,spec_tableOk.f t.f0 t.f1 t.f2 t.f3 t.f4 t.f5 t.f6 t.f7 t.f8=some r∧(r=true→TOk t):=by
 unfold spec_tableOk.f
 simp only [within,Option.bind_some]
 repeat' split
 all_goals refine ⟨_,rfl,fun h=>?_⟩
 all_goals first | (cases h;done) | (simp only [decide_eq_true_eq] at *; constructor<;>first | assumption | exact .inl (by assumption) | exact .inr (by assumption))
theorem has_at {l:List Int} {x:Int} (hl:l.length≤1000000):∀ (m j k:Nat),j+m=l.length→m+1≤k→spec_Has.l0 k x l (l.length:Int) (j:Int)=some (decide (x∈l.drop j))
 | 0,j,k,hj,hk=>by
  obtain ⟨k,rfl⟩ : ∃ q,k=q+1:=⟨k - 1,by omega⟩
  rw [spec_Has.l0,if_neg (by omega),List.drop_eq_nil_of_le (by omega)]
  simp
 | m+1,j,k,hj,hk=>by
  obtain ⟨k,rfl⟩ : ∃ q,k=q+1:=⟨k - 1,by omega⟩
  have hjl:j<l.length:=by omega
  have hr:PrintWords.rd l (j:Int)=l[j]:=by simp [PrintWords.rd,hjl]
  have hd:l.drop j=l[j] :: l.drop (j+1):=List.drop_eq_getElem_cons hjl
  rw [spec_Has.l0,if_pos (by omega),if_pos (by omega),if_pos (by omega),hr]
  by_cases h:l[j]=x
  ·have e:x∈l.drop j:=by rw [hd,h];exact List.mem_cons_self
   rw [if_pos h,decide_eq_true e]
  ·have e:decide (x∈l.drop j)=decide (x∈l.drop (j+1)):=by
    rw [hd]
    exact decide_eq_decide.2 ⟨fun k=>(List.mem_cons.1 k).resolve_left (fun e=>h e.symm),fun k=>List.mem_cons_of_mem _ k⟩
   rw [if_neg h,e,show wrap64 ((j:Int)+1)=((j+1:Nat):Int) by unfold wrap64;omega,has_at hl m (j+1) k (by omega) (by omega)]
theorem has_spec {l:List Int} (hl:l.length≤1000000) (x:Int):spec_Has.f (l.length+1) l x=some (decide (x∈l)):=by
 have:=has_at (x:=x) hl l.length 0 (l.length+1) (by omega) (by omega)
 rwa [List.drop_zero] at this
/-- What is asked of two tables that lie side by side in level i. -/
def Adj2 (i:Nat) (t u:S68):Prop:=(i=0→t.f0<u.f0)∧(i≠0→Op.bytesLess t.f3.toList u.f1.toList=true)
structure RowOk (i:Nat) (l:List S68):Prop where
 len:l.length≤1000
 tab:∀ t∈l,TOk t
 adj:∀ k t u,l[k]? = some t→l[k+1]? = some u→Adj2 i t u
structure LvOk (ls:List (List S68)) (m a b c d e f g:Int):Prop where
 opt:OOk m a b c d e f g
 len:(ls.length:Int)=m
 row:∀ i l,ls[i]? = some l→RowOk i l
 nums:(ls.flatten.map (·.f0)).Nodup
theorem in_tab {t:S68} (h:TOk t) (hs:t.f1.size≤2000000∧t.f3.size≤2000000):InTab t:=
 ⟨⟨by have:=h.n;omega,h.n.2⟩,hs.1,h.v1,hs.2,h.v2,⟨by have:=h.b;omega,h.b.2⟩,h.v3,h.s,h.a⟩
def OkPost (w:World) (ls:List (List S68)) (m a b c d e f g:Int) (en:Ending) (w':World):Prop:=∃ r,en=.returned (.bool r)∧(r=true→LvOk ls m a b c d e f g)∧Below w.heap.size w w'
set_option maxRecDepth 100000 in
set_option maxHeartbeats 8000000 in
theorem ok_calls {w:World} {A0:Option Addr} {c0:Nat} {ls:List (List S68)} {m a b c d e f g:Int} (hC:Kd.C (Kd.slice 68 k68) w A0 ls.length ls) (hc0:ls.length≤c0) (hlen:ls.length≤2000000000) (hts:∀ l∈ls,∀ t∈l,t.f1.size≤2000000∧t.f3.size≤2000000) :
  Calls Tryz.prog 23 #[.slice A0 ls.length c0,.agg #[.int .i64 m,.int .i64 a,.int .i64 b,.int .i64 c,.int .i64 d,.int .i64 e,.int .i64 f,.int .i64 g]] w (OkPost w ls m a b c d e f g):=by
 obtain ⟨Q,hQ⟩ : ∃ Q,Q=OkPost w ls m a b c d e f g:=⟨_,rfl⟩
 rw [← hQ]
 have HQ:=hid hQ
 have HC:=hid hC
 have HC0:=hid hc0
 have HTS:=hid hts
 have HLN:=hid hlen
 obtain ⟨r1,hr1,hok1⟩:=opts_ok m a b c d e f g
 have K53:=hid (fun W=>spec_OptionsOk.calls m a b c d e f g r1 W hr1)
 have HOK:=hid hok1
 clear hQ hC hc0 hts hlen hr1 hok1
 go_enter Tryz.func23,Tryz.ntmps23
 go_upto_region 1 with (fail)
 obtain ⟨w1,hw1⟩ : ∃ w1,w1=w.alloc (.cells #[.int .i64 m,.int .i64 a,.int .i64 b,.int .i64 c,.int .i64 d,.int .i64 e,.int .i64 f,.int .i64 g] 24):=⟨_,rfl⟩
 rw [← hw1]
 obtain ⟨b3,hb3⟩ : ∃ b3,b3=w.heap.size:=⟨_,rfl⟩
 rw [← hb3]
 have HB1:=hid (show Below w.heap.size w w1 by rw [hw1];exact below_alloc (Below.refl _ _) _)
 have HO1:=hid (show w1.heap[b3]? = some (.cells #[.int .i64 m,.int .i64 a,.int .i64 b,.int .i64 c,.int .i64 d,.int .i64 e,.int .i64 f,.int .i64 g] 24 (0,0)) by rw [hw1,hb3];exact blk_new w _)
 clear hw1 hb3
 have o0:=blk_cell HO1.out 0
 have o1:=blk_cell HO1.out 1
 have o2:=blk_cell HO1.out 2
 have o3:=blk_cell HO1.out 3
 have o4:=blk_cell HO1.out 4
 have o5:=blk_cell HO1.out 5
 have o6:=blk_cell HO1.out 6
 have o7:=blk_cell HO1.out 7
 go_wp2_with fail
 refine (K53.out w1).mono ?_
 rintro en w2 ⟨rfl,hb2⟩
 have HB2:=hid (below_step HB1.out hb2)
 have HO2:=hid ((hb2.block _ (blk_lt HO1.out)).trans HO1.out)
 clear o0 o1 o2 o3 o4 o5 o6 o7 hb2
 cases r1 with
 | false =>
  go_wp2_with fail
  rw [HQ.out]
  exact ⟨false,rfl,(fun h=>by cases h),HB2.out⟩
 | true =>
  have HOO:=hid (HOK.out rfl)
  have o0:=blk_cell HO2.out 0
  by_cases hm:(ls.length:Int)=m
  ·have dm:((ls.length:Int) != m)=false:=bne_eq_false_iff_eq.2 hm
   have HM:=hid hm
   clear hm
   go_upto_region 4 with (first | ((with_reducible refine gate_dst (N:=22) rfl ?_);refine Kd.R_lit (Kd.int .i64) (w0:=w2) w2.heap.size 3 ?hg (N:=22) ?hd (xs:=([]:List Int)) (inner:=[]) (ok:=fun _=>True) (okp:=fun _=>True) ?hr ?hp (fun _ hk=>hk) trivial (Below.refl _ _) (Nat.le_refl _) (by simp) ?_;(case hd=>rfl);(case hg=>rfl);(case hr=>first | (go_simp;done) | (go_simp;rfl));(case hp=>exact (Reps.none _ _));intro v5 w3 ho hb hg_ hnew_;have HR3:=hid ho;have HB3:=hid hb;clear hg_ hnew_ ho hb))
   go_upto_block 0 with (fail)
   clear o0
   go_cut [5] from 23 to 87 (fun v5 wr=>LvOk ls m a b c d e f g∧Below w2.heap.size w2 wr)
   case first =>
    go_wp2_with fail
    go_loopg [5,25] ls.length (fun kq v5 v25 wr=>∃ (i:Nat) (seen:List Int),v25=.int .i64 (i:Int)∧Aside0 (i+kq=ls.length)∧Aside0 (Kd.R (Kd.int .i64) 3 wr w2.heap.size (fun _=>True) v5 seen∧Below w2.heap.size w2 wr∧seen=(ls.take i).flatten.map (·.f0)∧seen.Nodup∧seen.length≤i*1000∧∀ j l,j<i→ls[j]? = some l→RowOk j l))
    case atStart=>exact ⟨0,[],rfl,⟨by omega⟩,⟨HR3.out,HB3.out,rfl,.nil,by simp,fun j l hj=>by omega⟩⟩
    case round =>
     obtain ⟨i,seen,rfl,HI,HQ2⟩:=hrel
     obtain ⟨gq,rfl⟩ : ∃ gq,gq=gk:=⟨gk,rfl⟩
     have HR:=hid HQ2.out.1
     have HB:=hid HQ2.out.2.1
     have HSE:=hid HQ2.out.2.2
     clear HQ2 HR3 HB3
     by_cases hi:i<ls.length
     ·have d1:decide ((i:Int)<(ls.length:Int))=true:=decide_eq_true (by omega)
      have dn:i<ls.length:=hi
      have hm7:i≤7:=by have:=HOO.out.m;have:=HM.out;omega
      have HGK:=hid (show gq - 1<gq∧i+1+(gq - 1)=ls.length by have:=HI.out;omega)
      have HWR:=hid (show Value.int IntKind.i64 (wrap64 ((i:Int)+1))=Value.int IntKind.i64 ((i+1:Nat):Int) by rw [show wrap64 ((i:Int)+1)=((i+1:Nat):Int) by unfold wrap64;omega])
      obtain ⟨ad,A1,c1,eA,x0,hc1,hC1⟩:=at_L3 (Kd.C_below HC.out HB2.out) (i:Int) (by omega) (by omega)
      subst eA
      obtain ⟨l,hl⟩ : ∃ l,l=rd_L3 ls (i:Int):=⟨_,rfl⟩
      rw [← hl] at x0 hc1 hC1
      have hls:ls[i]? = some l:=by rw [hl];simp [rd_L3,hi]
      rw [show ((i:Int)).toNat=i from rfl] at x0
      have x0:=(HB.out.cell (World.block_lt_of_cell? w2 _ x0)).trans x0
      have HL:=hid hls
      have HC1:=hid hC1
      have HC1L:=hid hc1
      have HI7:=hid hm7
      clear hls hC1 hc1 hl hi hm7 HI
      go_upto_region 7 with (fail)
      by_cases h1000:l.length > 1000
      ·have d2:decide ((1000:Int)<(l.length:Int))=true:=decide_eq_true (by omega)
       have d3:decide (1000<l.length)=true:=decide_eq_true h1000
       clear h1000
       go_wp2_with fail
       rw [HQ.out]
       exact ⟨false,rfl,(fun h=>by cases h),below_step HB2.out HB.out⟩
      ·have d2:decide ((1000:Int)<(l.length:Int))=false:=decide_eq_false (by omega)
       have d3:decide (1000<l.length)=false:=decide_eq_false h1000
       have HLL:=hid (show l.length≤1000 by omega)
       clear h1000
       go_upto_block 2 with (fail)
       clear d2 d3 x0
       go_wp2_with fail
       go_loopg [5,35] l.length (fun kq v5 v35 wx=>∃ (k:Nat) (seen2:List Int),v35=.int .i64 (k:Int)∧Aside0 (k+kq=l.length)∧Aside0 (Kd.R (Kd.int .i64) 3 wx w2.heap.size (fun _=>True) v5 seen2∧Below w2.heap.size w2 wx∧seen2=seen++(l.take k).map (·.f0)∧seen2.Nodup∧(∀ t∈l.take k,TOk t)∧∀ q t u,q+1<k→l[q]? = some t→l[q+1]? = some u→Adj2 i t u))
       case atStart=>exact ⟨0,seen,rfl,⟨by omega⟩,⟨HR.out,HB.out,by simp,HSE.out.2.1,by simp,fun q t u hq=>by omega⟩⟩
       case round =>
        obtain ⟨k,seen2,rfl,HI2,HQ3⟩:=hrel
        have HR2:=hid HQ3.out.1
        have HB2':=hid HQ3.out.2.1
        have HS2:=hid HQ3.out.2.2
        clear HQ3 HR HB
        by_cases hk:k<l.length
        ·have d2:decide ((k:Int)<(l.length:Int))=true:=decide_eq_true (by omega)
         have d3:k<l.length:=hk
         have HGK2:=hid (show gk - 1<gk∧k+1+(gk - 1)=l.length by have:=HI2.out;omega)
         have HWK:=hid (show Value.int IntKind.i64 (wrap64 ((k:Int)+1))=Value.int IntKind.i64 ((k+1:Nat):Int) by rw [show wrap64 ((k:Int)+1)=((k+1:Nat):Int) by have:=HLL.out;unfold wrap64;omega])
         obtain ⟨A5,c5,rfl⟩:=Kd.R_slice HR2.out
         obtain ⟨n5,l5,hC5⟩:=Kd.R_reads' HR2.out
         have HC5:=hid hC5
         have HL5:=hid l5
         obtain ⟨ad1,eA1,y0,y1,y2,y3,y4,y5,y6,y7,y8⟩:=at_T68 (Kd.C_below HC1.out HB2'.out) (k:Int) (by omega) (by omega)
         subst eA1
         have htk:l[k]? = some (rd_T68 l (k:Int)):=by simp [rd_T68,hk]
         have HTK:=hid (show l.take (k+1)=l.take k++[rd_T68 l (k:Int)] by rw [List.take_succ_eq_append_getElem hk];simp [rd_T68,hk])
         obtain ⟨t,ht⟩ : ∃ t,t=rd_T68 l (k:Int):=⟨_,rfl⟩
         rw [← ht] at y0 y1 y2 y3 y4 y5 y6 y7 y8 htk HTK
         rw [show ((k:Int)).toNat=k from rfl] at y0 y1 y2 y3 y4 y5 y6 y7 y8
         have HT:=hid htk
         have HSL:=hid (show (seen2.length+1)*8≤140737488355328∧seen2.length≤1000000 by
          have e2:seen2.length=seen.length+(l.take k).length:=by rw [HS2.out.1,List.length_append,List.length_map]
          have:=HSE.out.2.2.1
          have:=HLL.out
          have:=HI7.out
          rw [List.length_take] at e2
          omega)
         obtain ⟨rt,hrt,htok⟩:=table_ok t
         have K54:=hid (fun W=>spec_tableOk.calls t.f0 t.f1 t.f2 t.f3 t.f4 t.f5 t.f6 t.f7 t.f8 rt W hrt)
         have K52:=hid (fun W hC=>spec_Has.calls (seen2.length+1) A5 c5 seen2 t.f0 (decide (t.f0∈seen2)) W hC HL5.out (has_spec HSL.out.2 t.f0))
         have HTOK:=hid htok
         clear hk HI2 n5 l5 hC5 ht htk hrt htok
         go_upto_region 12 with (fail)
         obtain ⟨w4,hw4⟩ : ∃ w4,w4=wr.alloc (.cells #[.int .i64 t.f0,.string t.f1,.int .i64 t.f2,.string t.f3,.int .i64 t.f4,.int .i64 t.f5,.int .i64 t.f6,.int .i64 t.f7,.int .i64 t.f8] 68):=⟨_,rfl⟩
         rw [← hw4]
         obtain ⟨tb,htb⟩ : ∃ b,b=wr.heap.size:=⟨_,rfl⟩
         rw [← htb]
         have HB4:=hid (show Below wr.heap.size wr w4 by rw [hw4];exact below_alloc (Below.refl _ _) _)
         have HX4:=hid (show w4.heap[tb]? = some (.cells #[.int .i64 t.f0,.string t.f1,.int .i64 t.f2,.string t.f3,.int .i64 t.f4,.int .i64 t.f5,.int .i64 t.f6,.int .i64 t.f7,.int .i64 t.f8] 68 (0,0)) by rw [hw4,htb];exact blk_new wr _)
         clear hw4 htb y0 y1 y2 y3 y4 y5 y6 y7 y8
         have y0:=blk_cell HX4.out 0
         have y1:=blk_cell HX4.out 1
         have y2:=blk_cell HX4.out 2
         have y3:=blk_cell HX4.out 3
         have y4:=blk_cell HX4.out 4
         have y5:=blk_cell HX4.out 5
         have y6:=blk_cell HX4.out 6
         have y7:=blk_cell HX4.out 7
         have y8:=blk_cell HX4.out 8
         go_wp2_with fail
         refine (K54.out w4).mono ?_
         rintro en w5 ⟨rfl,hb5⟩
         have HB5:=hid (below_step HB4.out hb5)
         have HX5:=hid ((hb5.block _ (blk_lt HX4.out)).trans HX4.out)
         clear y0 y1 y2 y3 y4 y5 y6 y7 y8 hb5
         cases rt with
         | false =>
          go_wp2_with fail
          rw [HQ.out]
          exact ⟨false,rfl,(fun h=>by cases h),below_step HB2.out (below_step HB2'.out HB5.out)⟩
         | true =>
          have HTOK2:=hid (HTOK.out rfl)
          have y0:=blk_cell HX5.out 0
          go_wp2_with fail
          refine (K52.out w5 (Kd.C_below HC5.out HB5.out)).mono ?_
          rintro en w6 ⟨rfl,hd6⟩
          have HB6:=hid (below_step HB5.out hd6.below)
          have HX6:=hid ((hd6.below.block _ (blk_lt HX5.out)).trans HX5.out)
          clear y0 hd6
          have y0:=blk_cell HX6.out 0
          by_cases hm:t.f0∈seen2
          ·rw [decide_eq_true hm]
           clear hm
           go_wp2_with fail
           rw [HQ.out]
           exact ⟨false,rfl,(fun h=>by cases h),below_step HB2.out (below_step HB2'.out HB6.out)⟩
          ·rw [decide_eq_false hm]
           have HNM:=hid hm
           have HRA:=hid (Kd.R_below HR2.out HB6.out)
           have HBA:=hid (below_step HB2'.out HB6.out)
           clear hm
           go_upto_region 15 with (first | ((with_reducible refine gate_builtin (b:=.append) (xs:=#[.tmp 49,.tmp 52]) rfl ?_);at_builtin;refine Kd.R_append (Kd.int .i64) (w0:=w2) w2.heap.size rfl (.tmp 49) (.tmp 52) 28 3 (.int .i64 0) 8 rfl (by kernel_rfl) info3 rfl (by decide) (by omega) _ seen2 t.f0 [.int .i64 t.f0] (fun _=>True) (fun _=>False) rfl rfl ?aP (fun _ hk=>hk.elim) ?aF ?aO ?aB ?aS ?aL ?_;(case aP=>exact rfl);(case aB=>exact HBA.out);(case aF=>exact (fun _ _=>trivial));(case aO=>exact HRA.out);(case aS=>exact below_size HBA.out);(case aL=>exact HSL.out.1);intro v7 w7 ho hb hg hat;have HR7:=hid ho;have HB7:=hid hb;have HG7:=hid hg;clear ho hb hg hat))
           have HX7:=hid (show w7.heap[tb]? = some (.cells #[.int .i64 t.f0,.string t.f1,.int .i64 t.f2,.string t.f3,.int .i64 t.f4,.int .i64 t.f5,.int .i64 t.f6,.int .i64 t.f7,.int .i64 t.f8] 68 (0,0)) by
            refine (HG7.out.block tb (blk_lt HX6.out) (fun e=>?_)).trans HX6.out
            obtain ⟨cs,hc⟩:=Kd.R_typed HRA.out tb e.symm
            rw [HX6.out] at hc
            injection hc with hc
            injection hc with _ e _
            exact absurd e (by decide))
           have HNX:=hid (show ∀ W,Drawn0 w7 W→(∀ q u,q+1=k→l[q]? = some u→Adj2 i u t)→Kd.R (Kd.int .i64) 3 W w2.heap.size (fun _=>True) v7 (seen2++[t.f0])∧Below w2.heap.size w2 W∧seen2++[t.f0]=seen++(l.take (k+1)).map (·.f0)∧(seen2++[t.f0]).Nodup∧(∀ t∈l.take (k+1),TOk t)∧∀ q t u,q+1<k+1→l[q]? = some t→l[q+1]? = some u→Adj2 i t u from fun W hW hA=>by
            obtain ⟨nq,rfl⟩:=hW
            have hs:=HS2.out
            refine ⟨Kd.R_drewN HR7.out nq,pw_below_drewN HB7.out nq,?_,?_,?_,fun q x u hq h1 h2=>?_⟩
            ·rw [HTK.out,hs.1,List.map_append,List.append_assoc];rfl
            ·rw [List.nodup_append]
             refine ⟨hs.2.1,by simp,fun x hx y hy e=>?_⟩
             rw [List.mem_singleton.1 hy] at e
             exact HNM.out (e ▸ hx)
            ·intro x hx
             rw [HTK.out] at hx
             rcases List.mem_append.1 hx with h | h
             ·exact hs.2.2.1 x h
             ·rw [List.mem_singleton.1 h];exact HTOK2.out
            ·by_cases e:q+1=k
             ·rw [e,HT.out] at h2
              obtain rfl:=Option.some.inj h2
              exact hA q x e h1
             ·exact hs.2.2.2 q x u (by omega) h1 h2)
           clear y0 HR2 HRA HBA HX4 HX5 HX6 HB4 HB5 HB6 HTOK HTOK2 HS2 HNM HG7 HR7 K54 K52 HTK
           have y0:=blk_cell HX7.out 0
           have y1:=blk_cell HX7.out 1
           cases k with
           | zero =>
            go_quiet (fail)
            go_wp2_with fail
            go_roundg (gk - 1)
            case measure=>exact HGK2.out.1
            case rel=>exact ⟨0+1,seen2++[t.f0],rfl,⟨HGK2.out.2⟩,⟨HNX.out _ ⟨nq,rfl⟩ (fun q u hq=>by omega)⟩⟩
           | succ j =>
            obtain ⟨ad2,eA2,z0,-,-,z3,-,-,-,-,-⟩:=at_T68 (Kd.C_below HC1.out HB7.out) (j:Int) (by omega) (by omega)
            obtain rfl:=Option.some.inj eA2
            have huk:l[j]? = some (rd_T68 l (j:Int)):=by simp [rd_T68,show j<l.length by omega]
            obtain ⟨u,hu⟩ : ∃ u,u=rd_T68 l (j:Int):=⟨_,rfl⟩
            rw [← hu] at z0 z3 huk
            rw [show ((j:Int)).toNat=j from rfl] at z0 z3
            have HU:=hid huk
            have dj:j<l.length:=by omega
            have p0:decide ((0:Int)<(j:Int)+1)=true:=decide_eq_true (by omega)
            have p1:IntKind.i64.wrap ((j:Int)+1 - 1)=(j:Int):=by rw [IntWalk.i64_in _ (by have:=HLL.out;omega)];omega
            have p2:IntKind.i64.wrap (j:Int)=(j:Int):=by rw [IntWalk.i64_in _ (by have:=HLL.out;omega)]
            clear hu huk eA2
            by_cases h0:i=0
            ·have q0:((i:Int) == 0)=true:=beq_iff_eq.2 (by omega)
             have q1:decide ((0:Int)<(i:Int))=false:=decide_eq_false (by omega)
             have q2:decide (0<i)=false:=decide_eq_false (by omega)
             have HI0:=hid h0
             clear h0
             by_cases hn:u.f0<t.f0
             ·have r0:decide (t.f0≤u.f0)=false:=decide_eq_false (by omega)
              have HNN:=hid hn
              clear hn
              go_quiet (fail)
              go_wp2_with fail
              go_roundg (gk - 1)
              case measure=>exact HGK2.out.1
              case rel=>exact ⟨j+1+1,seen2++[t.f0],HWK.out,⟨HGK2.out.2⟩,⟨HNX.out _ ⟨nq,rfl⟩ (fun q x hq hx=>by
               obtain rfl:q=j:=by omega
               rw [HU.out] at hx
               obtain rfl:=Option.some.inj hx
               exact ⟨fun _=>HNN.out,fun h=>absurd HI0.out h⟩)⟩⟩
             ·have r0:decide (t.f0≤u.f0)=true:=decide_eq_true (by omega)
              clear hn
              go_quiet (fail)
              go_wp2_with fail
              rw [HQ.out]
              exact ⟨false,rfl,(fun h=>by cases h),below_step HB2.out (pw_below_drewN HB7.out nq)⟩
            ·have q0:((i:Int) == 0)=false:=beq_eq_false_iff_ne.2 (by omega)
             have q1:decide ((0:Int)<(i:Int))=true:=decide_eq_true (by omega)
             have q2:decide (0<i)=true:=decide_eq_true (by omega)
             have HI0:=hid h0
             clear h0
             cases hn:Op.bytesLess u.f3.toList t.f1.toList with
             | true =>
              have HNN:=hid hn
              go_quiet (fail)
              go_wp2_with fail
              go_roundg (gk - 1)
              case measure=>exact HGK2.out.1
              case rel=>exact ⟨j+1+1,seen2++[t.f0],HWK.out,⟨HGK2.out.2⟩,⟨HNX.out _ ⟨nq,rfl⟩ (fun q x hq hx=>by
               obtain rfl:q=j:=by omega
               rw [HU.out] at hx
               obtain rfl:=Option.some.inj hx
               exact ⟨fun h=>absurd h HI0.out,fun _=>HNN.out⟩)⟩⟩
             | false =>
              go_quiet (fail)
              go_wp2_with fail
              rw [HQ.out]
              exact ⟨false,rfl,(fun h=>by cases h),below_step HB2.out (pw_below_drewN HB7.out nq)⟩
        ·have d2:decide ((k:Int)<(l.length:Int))=false:=decide_eq_false (by omega)
         have d3:decide (k<l.length)=false:=decide_eq_false hk
         have HLK:=hid (show l.take k=l from List.take_of_length_le (by omega))
         have HKE:=hid (show k=l.length by have:=HI2.out;omega)
         clear hk HI2
         go_wp2_with fail
         go_roundg (gq - 1)
         case measure=>exact HGK.out.1
         case rel =>
          have hs:=HS2.out
          rw [HLK.out] at hs
          have hsn:=HSE.out
          refine ⟨i+1,seen2,HWR.out,⟨HGK.out.2⟩,⟨HR2.out,HB2'.out,?_,hs.2.1,?_,fun j l2 hj hl2=>?_⟩⟩
          ·rw [hs.1,hsn.1,List.take_add_one,HL.out]
           simp
          ·have e2:seen2.length=seen.length+l.length:=by rw [hs.1,List.length_append,List.length_map]
           have:=hsn.2.2.1
           have:=HLL.out
           omega
          ·by_cases e:j=i
           ·subst e
            rw [HL.out] at hl2
            obtain rfl:=Option.some.inj hl2
            exact ⟨HLL.out,hs.2.2.1,fun q t u h1 h2=>hs.2.2.2 q t u (by rw [HKE.out];exact (List.getElem?_eq_some_iff.1 h2).1) h1 h2⟩
           ·exact hsn.2.2.2 j l2 (by omega) hl2
     ·have d1:decide ((i:Int)<(ls.length:Int))=false:=decide_eq_false (by omega)
      have dn:decide (i<ls.length)=false:=decide_eq_false hi
      have HE:=hid (show LvOk ls m a b c d e f g from by
       have hs:=HSE.out
       rw [List.take_of_length_le (by omega)] at hs
       exact ⟨HOO.out,HM.out,fun j l hj=>hs.2.2.2 j l (by have:=(List.getElem?_eq_some_iff.1 hj).1;omega) hj,by rw [← hs.1];exact hs.2.1⟩)
      clear hi HI
      go_wp2_with fail
      go_meet
      case rel=>exact ⟨HE.out,HB.out⟩
   case rest =>
    obtain ⟨hlv,hbw⟩:=hcut
    have HLV:=hid hlv
    have HBW:=hid (below_step HB2.out hbw)
    have HO3:=hid ((hbw.block _ (blk_lt HO2.out)).trans HO2.out)
    clear hlv hbw HR3 HB3
    obtain ⟨n,hn⟩ : ∃ n,ls.length=n+1:=⟨ls.length - 1,by have:=HOO.out.m;have:=HM.out;omega⟩
    have HN:=hid (show n≤100 from by have:=HOO.out.m;have:=HM.out;omega)
    obtain ⟨ad,A1,c1,eA,x0,hc1,hC1⟩:=at_L3 (Kd.C_below HC.out HBW.out) (n:Int) (by omega) (by omega)
    subst eA
    obtain ⟨l,hl⟩ : ∃ l,l=rd_L3 ls (n:Int):=⟨_,rfl⟩
    rw [← hl] at x0 hc1 hC1
    have hls:ls[n]? = some l:=by rw [hl];simp [rd_L3,show n<ls.length by omega]
    rw [show ((n:Int)).toNat=n from rfl] at x0
    have hin:∀ t∈l,InTab t:=fun t ht=>in_tab ((HLV.out.row n l hls).tab t ht) (HTS.out l (List.mem_of_getElem? hls) t ht)
    have hll:=(HLV.out.row n l hls).len
    have K50:=hid (spec_Size.calls (l.length+1) A1 c1 l (Tl.sizeOf l) wc hC1 hc1 (size_spec (by omega) hin (Nat.le_refl _)))
    have HSZ:=hid (show 0≤Tl.sizeOf l∧Tl.sizeOf l≤1000000000000000 from ⟨(size_bd hin).1,by have:=(size_bd hin).2;omega⟩)
    have s1:IntKind.i64.wrap ((n:Int)+1 - 1)=(n:Int):=by rw [IntWalk.i64_in _ (by have:=HN.out;omega)];omega
    have s2:wrap64 (n:Int)=(n:Int):=by have:=HN.out;unfold wrap64;omega
    have HMU:=hid HOO.out.a
    rw [hn]
    clear hl hls hin hll hc1 hC1 hn HLN HM HOO HOK K53
    go_wp2_with fail
    refine K50.out.mono ?_
    rintro en w9 ⟨rfl,hb9⟩
    have HB9:=hid (below_step HBW.out hb9)
    have HO9:=hid ((hb9.block _ (blk_lt HO3.out)).trans HO3.out)
    clear hb9 x0 s1 s2 K50
    generalize Tl.sizeOf l=sz0 at HSZ ⊢
    go_wp2_with fail
    go_loopg [10,11] (n+1) (fun kq v10 v11 wr=>w9=wr∧∃ (s:Int) (k:Nat),v10=.int .i64 s∧v11=.int .i64 (k:Int)∧Aside0 (0≤s∧s≤1000000000000000∧2≤k∧k≤n+2∧n+1≤k+kq))
    case atStart=>exact ⟨rfl,sz0,2,rfl,rfl,⟨HSZ.out.1,HSZ.out.2,by omega,by omega,by omega⟩⟩
    case round =>
     obtain ⟨rfl,s,k,rfl,rfl,HI⟩:=hrel
     by_cases hk:k<n+1
     ·have d1:decide ((k:Int)<(n:Int)+1)=true:=decide_eq_true (by omega)
      have d2:k<n+1:=hk
      have d3:0≤s:=HI.out.1
      have d4:2≤a:=HMU.out.1
      have HTD:=hid (show 0≤wrap64 (s.tdiv a)∧wrap64 (s.tdiv a)≤s by
       have h:=tdiv_in d3 d4
       have:=HI.out
       rw [Int.tdiv_eq_ediv_of_nonneg d3]
       unfold wrap64
       omega)
      have HI2:=hid HI.out
      have HGK:=hid (show gk - 1<gk∧k+1≤n+2∧n+1≤k+1+(gk - 1) by have:=HI.out;omega)
      have HWR:=hid (show Value.int IntKind.i64 (wrap64 ((k:Int)+1))=Value.int IntKind.i64 ((k+1:Nat):Int) by rw [show wrap64 ((k:Int)+1)=((k+1:Nat):Int) by have:=HN.out;unfold wrap64;omega])
      have x1:=blk_cell HO9.out 1
      clear HI hk
      go_wp2_with fail
      go_roundg (gk - 1)
      case measure=>exact HGK.out.1
      case rel=>exact ⟨rfl,_,k+1,rfl,HWR.out,⟨HTD.out.1,Int.le_trans HTD.out.2 HI2.out.2.1,by have:=HI2.out;omega,HGK.out.2.1,HGK.out.2.2⟩⟩
     ·have d1:decide ((k:Int)<(n:Int)+1)=false:=decide_eq_false (by omega)
      have d2:decide (k<n+1)=false:=decide_eq_false hk
      have x4:=blk_cell HO9.out 4
      clear HI hk
      go_wp2_with fail
      rw [HQ.out]
      exact ⟨_,rfl,(fun _=>HLV.out),HB9.out⟩
  ·have dm:((ls.length:Int) != m)=true:=bne_iff_ne.2 hm
   clear hm
   go_wp2_with fail
   rw [HQ.out]
   exact ⟨false,rfl,(fun h=>by cases h),HB2.out⟩
end Go.Proofs.YtnineoajmgneiaaGreat.Lk
