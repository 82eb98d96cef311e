/- sort.Slice and sort.Search at this program: their layings (written by the kit's lay-plain.mjs). The order that sort.Slice makes: plain. What a call keeps of memory, and what the operations on a map do to its entries, told by the entries themselves. Keys: rows of bytes; how they compare; how they are made and read: the walks. Keys compared: the walk of CompareKeys; what a table tells of itself. A number behind a key: the walks of bePutUint16, 32, 64 and of KeyWithTs. A key made of its text and its version: the walk of KeyWithTs. Tables in memory: as elements of a row, and as blocks of their own. Levels in memory: the words. sort.Slice at a row of pointers: what the row holds behind it. The four comparisons that tables are sorted by: their walks. A level's tables laid: the walk of initTables. New: the walk. New: the walk. build: the walk. -/
import Derived.Ground.GgsProg
import Derived.Ground.SlsoProg
import Derived.Shelf.GgSortFunc.Whole
import Derived.Shelf.SlSorted.Search
import Derived.Test.YtnineoajmgneiaaGreatProg
import Derived.Test.YtnineoajmgneiaaGreatYa
import Derived.Maps.Own
import Derived.Maps.OwnOps
import Derived.Maps.OwnSet
import Derived.Maps.RangeWalk
import Derived.WalkKit
import Derived.WalkSpells
import Derived.Lib.Hide
import Derived.StillTailTactics
import Derived.Deep.QuietTactic
import Derived.BigQuiet
import Derived.Lib.BytesEntry
import Derived.Laws.Externs
import Derived.IntWalk
import Derived.Laws.CopyOwn
import Derived.Shelf.GgSortFunc.Tiny
import Derived.Deep.RegionHeld3
set_option linter.unusedSimpArgs false
set_option linter.unusedVariables false
namespace Go.Proofs
open Go.Shelf
def Tryz.laysGg6_ren:Go.Shelf.Ren:=⟨fun | 6=>88 | 10=>114 | 11=>115 | 12=>116 | 13=>117 | 14=>118 | 24=>146 | 25=>147 | 26=>148 | 27=>149 | 28=>150 | 29=>151 | 30=>152 | 31=>153 | 32=>154 | 33=>155 | 34=>160 | 35=>161 | 36=>162 | 37=>163 | 38=>164 | 39=>167 | n=>n,fun | 20=>20 | 26=>153 | 35=>178 | 0=>0 | 37=>180 | 3=>3 | 41=>169 | 44=>185 | 49=>96 | 51=>88 | 4=>4 | 54=>201 | 53=>200 | 58=>205 | 5=>5 | 9=>9 | 60=>208 | 64=>211 | 66=>213 | 67=>158 | 17=>17 | 32=>175 | 33=>176 | 82=>235 | 12=>12 | 75=>228 | 76=>229 | 77=>230 | 78=>231 | 79=>232 | 80=>233 | n=>n,fun | n=>n⟩
theorem Tryz.laysGg6:Go.Proofs.LaysGg.n6 Tryz.prog Tryz.laysGg6_ren:={
 mixed:=by kernel_rfl
 f6:=Tryz.func88.trans (congrArg some (by kernel_rfl))
 f10:=Tryz.func114.trans (congrArg some (by kernel_rfl))
 f11:=Tryz.func115.trans (congrArg some (by kernel_rfl))
 f12:=Tryz.func116.trans (congrArg some (by kernel_rfl))
 f13:=Tryz.func117.trans (congrArg some (by kernel_rfl))
 f14:=Tryz.func118.trans (congrArg some (by kernel_rfl))
 f24:=Tryz.func146.trans (congrArg some (by kernel_rfl))
 f25:=Tryz.func147.trans (congrArg some (by kernel_rfl))
 f26:=Tryz.func148.trans (congrArg some (by kernel_rfl))
 f27:=Tryz.func149.trans (congrArg some (by kernel_rfl))
 f28:=Tryz.func150.trans (congrArg some (by kernel_rfl))
 f29:=Tryz.func151.trans (congrArg some (by kernel_rfl))
 f30:=Tryz.func152.trans (congrArg some (by kernel_rfl))
 f31:=Tryz.func153.trans (congrArg some (by kernel_rfl))
 f32:=Tryz.func154.trans (congrArg some (by kernel_rfl))
 f33:=Tryz.func155.trans (congrArg some (by kernel_rfl))
 f34:=Tryz.func160.trans (congrArg some (by kernel_rfl))
 f35:=Tryz.func161.trans (congrArg some (by kernel_rfl))
 f36:=Tryz.func162.trans (congrArg some (by kernel_rfl))
 f37:=Tryz.func163.trans (congrArg some (by kernel_rfl))
 f38:=Tryz.func164.trans (congrArg some (by kernel_rfl))
 f39:=Tryz.func167.trans (congrArg some (by kernel_rfl))
 t0:=Tryz.underlying0
 a0:=Tryz.isAgg0
 z0:=Tryz.sizeOf0
 v0:=Tryz.zeroValue0
 i0:=by kernel_rfl
 t3:=Tryz.underlying3
 a3:=Tryz.isAgg3
 z3:=Tryz.sizeOf3
 v3:=Tryz.zeroValue3
 i3:=by kernel_rfl
 t4:=Tryz.underlying4
 a4:=Tryz.isAgg4
 z4:=Tryz.sizeOf4
 v4:=Tryz.zeroValue4
 i4:=by kernel_rfl
 t5:=Tryz.underlying5
 a5:=Tryz.isAgg5
 z5:=Tryz.sizeOf5
 v5:=Tryz.zeroValue5
 i5:=by kernel_rfl
 t9:=Tryz.underlying9
 a9:=Tryz.isAgg9
 z9:=Tryz.sizeOf9
 v9:=Tryz.zeroValue9
 i9:=by kernel_rfl
 t12:=Tryz.underlying12
 a12:=Tryz.isAgg12
 z12:=Tryz.sizeOf12
 v12:=Tryz.zeroValue12
 i12:=by kernel_rfl
 t17:=Tryz.underlying17
 a17:=Tryz.isAgg17
 z17:=Tryz.sizeOf17
 v17:=Tryz.zeroValue17
 i17:=by kernel_rfl
 t20:=Tryz.underlying20
 a20:=Tryz.isAgg20
 z20:=Tryz.sizeOf20
 v20:=Tryz.zeroValue20
 i20:=by kernel_rfl
 t26:=Tryz.underlying153
 a26:=Tryz.isAgg153
 z26:=Tryz.sizeOf153
 v26:=Tryz.zeroValue153
 i26:=by kernel_rfl
 t32:=Tryz.underlying175
 a32:=Tryz.isAgg175
 z32:=Tryz.sizeOf175
 v32:=Tryz.zeroValue175
 i32:=by kernel_rfl
 t33:=Tryz.underlying176
 a33:=Tryz.isAgg176
 z33:=Tryz.sizeOf176
 v33:=Tryz.zeroValue176
 i33:=by kernel_rfl
 t35:=Tryz.underlying178
 a35:=Tryz.isAgg178
 z35:=Tryz.sizeOf178
 v35:=Tryz.zeroValue178
 i35:=by kernel_rfl
 t37:=Tryz.underlying180
 a37:=Tryz.isAgg180
 z37:=Tryz.sizeOf180
 v37:=Tryz.zeroValue180
 i37:=by kernel_rfl
 t41:=Tryz.underlying169
 a41:=Tryz.isAgg169
 z41:=Tryz.sizeOf169
 v41:=Tryz.zeroValue169
 i41:=by kernel_rfl
 t44:=Tryz.underlying185
 a44:=Tryz.isAgg185
 z44:=Tryz.sizeOf185
 v44:=Tryz.zeroValue185
 i44:=by kernel_rfl
 t49:=Tryz.underlying96
 a49:=Tryz.isAgg96
 z49:=Tryz.sizeOf96
 v49:=Tryz.zeroValue96
 i49:=by kernel_rfl
 t51:=Tryz.underlying88
 a51:=Tryz.isAgg88
 z51:=Tryz.sizeOf88
 v51:=Tryz.zeroValue88
 i51:=by kernel_rfl
 t53:=Tryz.underlying200
 a53:=Tryz.isAgg200
 z53:=Tryz.sizeOf200
 v53:=Tryz.zeroValue200
 i53:=by kernel_rfl
 t54:=Tryz.underlying201
 a54:=Tryz.isAgg201
 z54:=Tryz.sizeOf201
 v54:=Tryz.zeroValue201
 i54:=by kernel_rfl
 t58:=Tryz.underlying205
 a58:=Tryz.isAgg205
 z58:=Tryz.sizeOf205
 v58:=Tryz.zeroValue205
 i58:=by kernel_rfl
 t60:=Tryz.underlying208
 a60:=Tryz.isAgg208
 z60:=Tryz.sizeOf208
 v60:=Tryz.zeroValue208
 i60:=by kernel_rfl
 t64:=Tryz.underlying211
 a64:=Tryz.isAgg211
 z64:=Tryz.sizeOf211
 v64:=Tryz.zeroValue211
 i64:=by kernel_rfl
 t66:=Tryz.underlying213
 a66:=Tryz.isAgg213
 z66:=Tryz.sizeOf213
 v66:=Tryz.zeroValue213
 i66:=by kernel_rfl
 t67:=Tryz.underlying158
 a67:=Tryz.isAgg158
 z67:=Tryz.sizeOf158
 v67:=Tryz.zeroValue158
 i67:=by kernel_rfl
 t75:=Tryz.underlying228
 a75:=Tryz.isAgg228
 z75:=Tryz.sizeOf228
 v75:=Tryz.zeroValue228
 i75:=by kernel_rfl
 t76:=Tryz.underlying229
 a76:=Tryz.isAgg229
 z76:=Tryz.sizeOf229
 v76:=Tryz.zeroValue229
 i76:=by kernel_rfl
 t77:=Tryz.underlying230
 a77:=Tryz.isAgg230
 z77:=Tryz.sizeOf230
 v77:=Tryz.zeroValue230
 i77:=by kernel_rfl
 t78:=Tryz.underlying231
 a78:=Tryz.isAgg231
 z78:=Tryz.sizeOf231
 v78:=Tryz.zeroValue231
 i78:=by kernel_rfl
 t79:=Tryz.underlying232
 a79:=Tryz.isAgg232
 z79:=Tryz.sizeOf232
 v79:=Tryz.zeroValue232
 i79:=by kernel_rfl
 t80:=Tryz.underlying233
 a80:=Tryz.isAgg233
 z80:=Tryz.sizeOf233
 v80:=Tryz.zeroValue233
 i80:=by kernel_rfl
 t82:=Tryz.underlying235
 a82:=Tryz.isAgg235
 z82:=Tryz.sizeOf235
 v82:=Tryz.zeroValue235
 i82:=by kernel_rfl }
def Tryz.laysSearch_ren:Go.Shelf.Ren:=⟨fun | 16=>124 | n=>n,fun | 3=>3 | 35=>91 | 4=>4 | 38=>169 | n=>n,fun | n=>n⟩
theorem Tryz.laysSearch:Go.Proofs.SlLaysO.n16 Tryz.prog Tryz.laysSearch_ren:={
 mixed:=by kernel_rfl
 f16:=Tryz.func124.trans (congrArg some (by kernel_rfl))
 t3:=Tryz.underlying3
 a3:=Tryz.isAgg3
 z3:=Tryz.sizeOf3
 v3:=Tryz.zeroValue3
 t4:=Tryz.underlying4
 a4:=Tryz.isAgg4
 z4:=Tryz.sizeOf4
 v4:=Tryz.zeroValue4
 t35:=Tryz.underlying91
 a35:=Tryz.isAgg91
 z35:=Tryz.sizeOf91
 v35:=Tryz.zeroValue91
 t38:=Tryz.underlying169
 a38:=Tryz.isAgg169
 z38:=Tryz.sizeOf169
 v38:=Tryz.zeroValue169 }
end Go.Proofs
namespace Go.Proofs.YtnineoajmgneiaaGreat.Od
open Go.Sort
/-- An order of the places below n. -/
structure SW (n:Nat) (lt:Nat→Nat→Bool):Prop where
 irrefl:∀ x,x<n→lt x x=false
 trans:∀ x y z,x<n→y<n→z<n→lt x y=true→lt y z=true→lt x z=true
 ntrans:∀ x y z,x<n→y<n→z<n→lt x y=false→lt y z=false→lt x z=false
def onFin (n:Nat) (lt:Nat→Nat→Bool):Fin n→Fin n→Bool:=fun i j=>lt i.val j.val
theorem swo_fin {n:Nat} {lt:Nat→Nat→Bool} (h:SW n lt):SWO (onFin n lt):=
 ⟨fun x=>h.irrefl _ x.isLt,fun x y z=>h.trans _ _ _ x.isLt y.isLt z.isLt,fun x y z=>h.ntrans _ _ _ x.isLt y.isLt z.isLt⟩
abbrev inh {n:Nat} (h:2≤n):Inhabited (Fin n):=⟨⟨0,by omega⟩⟩
/-- The places in the order that sort.Slice leaves them in. -/
def sorted (n:Nat) (h:2≤n) (lt:Nat→Nat→Bool):Array (Fin n):=
 letI:Inhabited (Fin n):=inh h
 pdq (onFin n lt) (Array.finRange n) 0 n (Lib.bitLen n) true true
def ord (n:Nat) (lt:Nat→Nat→Bool):List Nat:=if h:2≤n then (sorted n h lt).toList.map (·.val) else List.range n
theorem fin_range (n:Nat):(Array.finRange n).toList.map (·.val)=List.range n:=by
 refine List.ext_getElem? (fun i=>?_)
 rw [List.getElem?_map]
 by_cases h:i<n
 ·rw [List.getElem?_range h]
  have:(Array.finRange n).toList[i]? = some ⟨i,h⟩:=by
   rw [Array.getElem?_toList,Array.getElem?_eq_getElem (by simpa using h)]
   simp [Array.finRange]
  rw [this];rfl
 ·rw [List.getElem?_eq_none (by simpa using h),List.getElem?_eq_none (by simpa using h)]
  rfl
theorem sorted_facts {n:Nat} (h:2≤n) {lt:Nat→Nat→Bool} (hO:SW n lt) :
  (sorted n h lt).size=n∧(sorted n h lt).toList.Perm (Array.finRange n).toList∧∀ i j (hi:i<(sorted n h lt).size) (hj:j<(sorted n h lt).size),i<j→lt (sorted n h lt)[j].val (sorted n h lt)[i].val=false:=by
 letI:Inhabited (Fin n):=inh h
 have hs:(Array.finRange n).size=n:=by simp
 obtain ⟨⟨p1,_,p3⟩,p4⟩:=pdq_sorts (onFin n lt) (swo_fin hO) (Array.finRange n) 0 n (Lib.bitLen n) true true (Nat.zero_le _) (by rw [hs];exact Nat.le_refl _) (Or.inl rfl)
 have q1:(sorted n h lt).size=n:=p1.trans hs
 have e1:((sorted n h lt).extract 0 n).toList=(sorted n h lt).toList:=by
  have:(sorted n h lt).extract 0 n=sorted n h lt:=by
   have:=@Array.extract_size _ (sorted n h lt)
   rwa [q1] at this
  rw [this]
 have e2:((Array.finRange n).extract 0 n).toList=(Array.finRange n).toList:=by
  have:(Array.finRange n).extract 0 n=Array.finRange n:=by
   have:=@Array.extract_size _ (Array.finRange n)
   rwa [hs] at this
  rw [this]
 refine ⟨q1,?_,fun i j hi hj hij=>?_⟩
 ·rw [← e1,← e2];exact p3
 ·have:=p4 i j (Nat.zero_le _) hij (by rw [q1] at hj;exact hj)
  have g1:(sorted n h lt)[j]! = (sorted n h lt)[j]:=getElem!_pos (sorted n h lt) j hj
  have g2:(sorted n h lt)[i]! = (sorted n h lt)[i]:=getElem!_pos (sorted n h lt) i hi
  have t:onFin n lt (sorted n h lt)[j]! (sorted n h lt)[i]! = false:=this
  rw [g1,g2] at t
  exact t
theorem ord_perm {n:Nat} {lt:Nat→Nat→Bool} (hO:SW n lt):(ord n lt).Perm (List.range n):=by
 unfold ord
 split
 ·rename_i h
  have:=((sorted_facts h hO).2.1).map (fun x=>x.val)
  rwa [fin_range] at this
 ·exact List.Perm.refl _
theorem ord_sorted {n:Nat} {lt:Nat→Nat→Bool} (hO:SW n lt):(ord n lt).Pairwise (fun a b=>lt b a=false):=by
 unfold ord
 split
 ·rename_i h
  rw [List.pairwise_iff_getElem]
  intro i j hi hj hij
  simp only [List.getElem_map,Array.getElem_toList]
  exact (sorted_facts h hO).2.2 i j (by simpa using hi) (by simpa using hj) hij
 ·have h2:n=0∨n=1:=by omega
  rcases h2 with rfl | rfl
  ·exact .nil
  ·exact List.pairwise_singleton _ _
theorem ord_length {n:Nat} {lt:Nat→Nat→Bool} (hO:SW n lt):(ord n lt).length=n:=by rw [(ord_perm hO).length_eq];simp
theorem ord_lt {n:Nat} {lt:Nat→Nat→Bool} (hO:SW n lt):∀ i∈ord n lt,i<n:=fun i hi=>List.mem_range.1 ((ord_perm hO).mem_iff.1 hi)
/-- What is in order stays. -/
theorem ord_id {n:Nat} {lt:Nat→Nat→Bool} (hO:SW n lt) (h:∀ i j,i<j→j<n→lt i j=true):ord n lt=List.range n:=by
 refine List.Perm.eq_of_pairwise (le:=fun a b=>a≤b) (fun a b _ _ h1 h2=>Nat.le_antisymm h1 h2) ?_ List.pairwise_le_range (ord_perm hO)
 refine (ord_sorted hO).imp_of_mem (fun {a b} ha hb hab=>?_)
 refine Nat.le_of_not_lt (fun hlt=>?_)
 rw [h b a hlt (ord_lt hO a ha)] at hab
 exact Bool.noConfusion hab
end Go.Proofs.YtnineoajmgneiaaGreat.Od
namespace Go.Proofs.YtnineoajmgneiaaGreat.Fr
open Go.RowKit YtnineoajmgneiaaGreatW.PrintWords Go.MapKept
/-! ### the frame -/
/-- All blocks that were there, but those of S, are as they were. -/
structure Kp (w w':World) (S:Nat→Prop):Prop where
 b:Below 0 w w'
 k:∀ i,i<w.heap.size→¬ S i→w'.heap[i]? = w.heap[i]?
namespace Kp
variable {w w1 w2:World} {S S2:Nat→Prop}
theorem refl (w:World) (S:Nat→Prop):Kp w w S:=⟨Below.refl _ _,fun _ _ _=>rfl⟩
theorem size (h:Kp w w1 S):w.heap.size≤w1.heap.size:=h.b.size
theorem mono (h:Kp w w1 S) (hs:∀ i,S i→S2 i):Kp w w1 S2:=⟨h.b,fun i hi hn=>h.k i hi (fun x=>hn (hs i x))⟩
theorem trans (h:Kp w w1 S) (h2:Kp w1 w2 S2) (hs:∀ i,S2 i→S i∨w.heap.size≤i):Kp w w2 S:=
 ⟨h.b.trans h2.b,fun i hi hn=>(h2.k i (Nat.lt_of_lt_of_le hi h.size) (fun x=>(hs i x).elim hn (fun y=>by omega))).trans (h.k i hi hn)⟩
theorem alloc (h:Kp w w1 S) (o:Obj):Kp w (w1.alloc o) S:=h.trans (S2:=fun _=>False) ⟨(Below.refl 0 w1).alloc (Nat.zero_le _) o,fun i hi _=>Below.heap_alloc w1 o i hi⟩ (fun _ x=>x.elim)
theorem drew (h:Kp w w1 S):Kp w w1.drew S:=⟨h.b.drew,h.k⟩
theorem drewN (h:Kp w w1 S) (n:Nat):Kp w (w1.drewN n) S:=⟨pw_below_drewN h.b n,h.k⟩
theorem setCell (h:Kp w w1 S) {p:Addr} (hp:S p.block∨w.heap.size≤p.block) (u:Value):Kp w (w1.setCell p u) S:=
 h.trans (S2:=fun i=>i=p.block) ⟨(Below.refl 0 w1).setCell (Nat.zero_le _) u,fun i _ hn=>Below.heap_setCell w1 p u i hn⟩ (fun i x=>by rw [x];exact hp)
theorem grown (h:Kp w w1 S) {row:Option Nat} (hg:w1.grownBy w2 row) (hr:∀ k,row=some k→S k∨w.heap.size≤k):Kp w w2 S:=
 h.trans (S2:=fun i=>row=some i) ⟨(Below.refl 0 w1).grown hg (Nat.zero_le _) (fun _ _=>Nat.zero_le _),fun i hi hn=>hg.block i hi (fun e=>hn e.symm)⟩ hr
theorem of_below (h:Below w.heap.size w w1) (S:Nat→Prop):Kp w w1 S:=⟨h.mono (Nat.zero_le _),fun i hi _=>h.block i hi⟩
theorem below (h:Kp w w1 S) (h2:Below w1.heap.size w1 w2):Kp w w2 S:=h.trans (S2:=fun _=>False) (of_below h2 _) (fun _ x=>x.elim)
theorem blk (h:Kp w w1 S) {i:Nat} {o:Obj} (hb:w.heap[i]? = some o) (hn:¬ S i):w1.heap[i]? = some o:=(h.k i (blk_lt hb) hn).trans hb
theorem cell (h:Kp w w1 S) {a:Addr} {v:Value} (hb:w.cell? a=some v) (hn:¬ S a.block):w1.cell? a=some v:=by
 have:=h.k a.block (World.block_lt_of_cell? w a hb) hn
 simpa [World.cell?,this] using hb
theorem kept (h:Kp w w1 S):Kept w w1 S:=⟨h.size,h.k⟩
theorem toBelow (h:Kp w w1 S) (hs:∀ i,S i→w.heap.size≤i):Below w.heap.size w w1:=⟨h.b.os,h.b.tape,h.b.output,h.b.size,fun i hi=>h.k i hi (fun x=>by have:=hs i x;omega)⟩
theorem toBelowB (h:Kp w w1 S) {B:Nat} (hB:B≤w.heap.size) (hs:∀ i,S i→B≤i):Below B w w1:=⟨h.b.os,h.b.tape,h.b.output,h.b.size,fun i hi=>h.k i (by omega) (fun x=>by have:=hs i x;omega)⟩
end Kp
/-! ### a map's entries -/
/-- The world, its block r another object. -/
def setO (w:World) (r:Nat) (o:Obj):World:={ w with heap:=w.heap.setIfInBounds r o }
theorem setO_same {w:World} {r:Nat} {o o':Obj} (h:w.heap[r]? = some o'):(setO w r o).heap[r]? = some o:=by
 have:=blk_lt h
 simp [setO,this]
theorem setO_far (w:World) {r i:Nat} (o:Obj) (h:i≠r):(setO w r o).heap[i]? = w.heap[i]?:=by simp [setO,Ne.symm h]
/-- An entry: its key, what it holds, its stamp. -/
abbrev Ent:=Int × Value × Nat
def rawE (q:IntKind) (x:Ent):MapEntry:=⟨.int q x.1,x.2.1,x.2.2⟩
def rawM (q:IntKind) (es:List Ent):Array MapEntry:=(es.map (rawE q)).toArray
def lookE (k:Int):List Ent→Option Value
 | []=>none
 | x :: t=>if x.1=k then some x.2.1 else lookE k t
def putE (k:Int) (v:Value):List Ent→List Ent
 | []=>[]
 | x :: t=>if x.1=k then (x.1,v,x.2.2) :: t else x :: putE k v t
def drop_ (k:Int):List Ent→List Ent
 | []=>[]
 | x :: t=>if x.1=k then t else x :: drop_ k t
def placeE (k:Int):List Ent→Nat
 | []=>0
 | x :: t=>if x.1=k then 0 else placeE k t+1
theorem findNow_raw (q:IntKind) (k:Int):∀ (es:List Ent) (i:Nat),Instr.findNow (.int q) (.int q k) (es.map (rawE q)) i=some ((lookE k es).map fun v=>(i+placeE k es,v))
 | [],i=>rfl
 | x :: t,i=>by
  simp only [List.map_cons,Instr.findNow,rawE,Instr.sameNow,if_true,lookE,placeE]
  by_cases h:x.1=k
  ·subst h;simp
  ·have h2:(k == x.1)=false:=by simp;exact fun e=>h e.symm
   have ih:=findNow_raw q k t (i+1)
   simp only [h2,h,if_false]
   rw [show (List.map (rawE q) t)=List.map (rawE q) t from rfl] at ih
   rw [ih]
   cases lookE k t with
   | none=>rfl
   | some v=>simp;omega
section
variable {P:Program} {w:World} {q:IntKind} {t kt et:TypeId} {r ck:Nat} {es:List Ent} {k:Int} {z:Value}
theorem run_checkKey_int (hk:P.underlying kt=some (.int q)) (e:Bool) (n:Nat):(Instr.checkKey e (n+1) kt (.int q k)).run P w=.ok () w:=
 run_checkKey hk (by simp [IsKey]) e n
theorem run_findKey_int (hk:P.underlying kt=some (.int q)):(Instr.findKey kt (.int q k) (rawM q es).toList).run P w=.ok ((lookE k es).map fun v=>(placeE k es,v)) w:=by
 have h:=findNow_raw q k es 0
 simp only [Nat.zero_add] at h
 exact run_findKey hk (by simpa [rawM] using h)
theorem run_getMap (hb:w.heap[r]? = some (.map (rawM q es) ck)):(getObj r).run P w=.ok (.map (rawM q es) ck) w:=by simp [getObj,Sem.run,hb]
theorem run_look_ok (ht:P.underlying t=some (.map kt et)) (hk:P.underlying kt=some (.int q)) (hz:(zeroValue et).run P w=.ok z w) (hb:w.heap[r]? = some (.map (rawM q es) ck)) :
  (Instr.lookup t (.map (some r)) (.int q k) true).run P w=.ok (.tuple #[(lookE k es).getD z,.bool (lookE k es).isSome]) w:=by
 simp only [Instr.lookup]
 cases h:lookE k es with
 | none=>simp [run_underlying ht,run_getMap hb,run_checkKey_int hk,run_findKey_int hk,h,hz,Result.andThen]
 | some v=>simp [run_underlying ht,run_getMap hb,run_checkKey_int hk,run_findKey_int hk,h,Result.andThen]
theorem raw_at {i:Nat} (h:lookE k es≠none) (hi:i=placeE k es):∃ x:Ent,(rawM q es)[i]? = some (rawE q x)∧x.1=k:=by
 subst hi
 induction es with
 | nil=>simp [lookE] at h
 | cons x t ih =>
  simp only [lookE] at h
  by_cases e:x.1=k
  ·exact ⟨x,by simp [rawM,placeE,e],e⟩
  ·rw [if_neg e] at h
   obtain ⟨y,h1,h2⟩:=ih h
   refine ⟨y,?_,h2⟩
   simp only [rawM,placeE,e,if_false,List.map_cons,List.getElem?_toArray,List.getElem?_cons_succ] at h1 ⊢
   exact h1
theorem raw_put (v:Value) (h:lookE k es≠none):(rawM q es).modify (placeE k es) (fun e => { e with key:=.int q k,val:=v })=rawM q (putE k v es):=by
 apply Array.toList_inj.1
 rw [Array.toList_modify]
 simp only [rawM]
 induction es with
 | nil=>simp [lookE] at h
 | cons x t ih =>
  simp only [lookE] at h
  by_cases e:x.1=k
  ·subst e;simp [placeE,putE,rawE,List.modify]
  ·rw [if_neg e] at h
   have:=ih h
   simp only [placeE,putE,e,if_false,List.map_cons,List.modify_succ_cons]
   rw [this]
/-- What a store leaves, and the clock behind it. -/
def storedE (k:Int) (v:Value) (ck:Nat) (es:List Ent):List Ent:=if (lookE k es).isSome then putE k v es else es++[(k,v,ck)]
def clockE (k:Int) (ck:Nat) (es:List Ent):Nat:=if (lookE k es).isSome then ck else ck+1
theorem run_setMap {o':Obj} {m:Array MapEntry} {c:Nat} (hb:w.heap[r]? = some (.map m c)):(Go.setObj r o').run P w=.ok () (setO w r o'):=by simp [Go.setObj,Sem.run,hb,setO]
theorem run_store_map (v:Value) (ht:P.underlying t=some (.map kt et)) (hk:P.underlying kt=some (.int q)) (hb:w.heap[r]? = some (.map (rawM q es) ck)) :
  (Instr.mapUpdate t (.map (some r)) (.int q k) v).run P w=.ok () (setO w r (.map (rawM q (storedE k v ck es)) (clockE k ck es))):=by
 simp only [Instr.mapUpdate]
 cases h:lookE k es with
 | none =>
  simp [run_underlying ht,run_getMap hb,run_checkKey_int hk,run_findKey_int hk,h,Result.andThen,run_setMap hb,storedE,clockE]
  simp [rawM,rawE]
 | some u =>
  obtain ⟨x,hx,e⟩:=raw_at (q:=q) (es:=es) (k:=k) (by rw [h];simp) rfl
  have hp:=raw_put (q:=q) (es:=es) (k:=k) v (by rw [h];simp)
  simp [run_underlying ht,run_getMap hb,run_checkKey_int hk,run_findKey_int hk,h,Result.andThen,hx,rawE,e,Instr.keyThatStays,Instr.sameBits,run_setMap hb,storedE,clockE,← hp]
end
/-! ### the operations, for a walk -/
section
variable {P:Program} {ops:Array Oper} {rest:List Oper} {o:Oper} {a:Act} {Q:Exit→Act→World→Prop} {q:IntKind} {t kt et:TypeId} {b r ck:Nat} {es:List Ent} {k:Int}
theorem wpL_look_ok (w:World) (hg:o.guard=none) (m x:Operand) (hop:o.op=Op.lookup t m x true) (z:Value) (ht:P.underlying t=some (.map kt et)) (hk:P.underlying kt=some (.int q)) (hz:(zeroValue et).run P w=.ok z w)
  (hm:a.eval m=.map (some b)) (hx:a.eval x=.int q k) (hb:w.heap[b]? = some (.map (rawM q es) ck))
  (h:wpList P ops Q rest (a.put o.dst (.tuple #[(lookE k es).getD z,.bool (lookE k es).isSome])) w):wpList P ops Q (o :: rest) a w:=by
 refine wpList_plain hg fun K' hK'=>?_
 have hrun:=run_look_ok (k:=k) ht hk hz hb
 unfold Oper.wp
 simp [execOp,hop,hm,hx,hrun,Result.andThen]
 exact hK' _ _ h
theorem wpL_store (w:World) (hg:o.guard=none) (m x v:Operand) (hop:o.op=Op.mapUpdate t m x v) (val:Value) (ht:P.underlying t=some (.map kt et)) (hk:P.underlying kt=some (.int q))
  (hm:a.eval m=.map (some b)) (hx:a.eval x=.int q k) (hv:a.eval v=val) (hb:w.heap[b]? = some (.map (rawM q es) ck))
  (h:wpList P ops Q rest (a.put o.dst undef) (setO w b (.map (rawM q (storedE k val ck es)) (clockE k ck es)))):wpList P ops Q (o :: rest) a w:=by
 refine wpList_plain hg fun K' hK'=>?_
 have hrun:=run_store_map (k:=k) val ht hk hb
 unfold Oper.wp
 simp [execOp,hop,hm,hx,hv,hrun,Result.andThen]
 exact hK' _ _ h
end
end Go.Proofs.YtnineoajmgneiaaGreat.Fr
namespace Go.Proofs.YtnineoajmgneiaaGreat.Ky
open Go.RowKit YtnineoajmgneiaaGreatW.PrintWords Fr
def cmpU:List UInt8→List UInt8→Int
 | [],[]=>0
 | [],_ :: _ => -1
 | _ :: _,[]=>1
 | a :: s,b :: t=>if a<b then -1 else if a=b then cmpU s t else 1
theorem cmpU_same (a:UInt8) (s t:List UInt8):cmpU (a :: s) (a :: t)=cmpU s t:=by
 rw [cmpU,if_neg (UInt8.lt_irrefl a),if_pos rfl]
theorem get_ba (l:List UInt8) (i:Nat):(⟨l.toArray⟩ : ByteArray)[i]! = l.getD i default:=by
 by_cases h:i<l.length
 ·rw [getElem!_pos (⟨l.toArray⟩ : ByteArray) i (by simpa [ByteArray.size] using h)]
  rw [List.getD_eq_getElem?_getD,List.getElem?_eq_getElem h]
  rfl
 ·rw [getElem!_neg (⟨l.toArray⟩ : ByteArray) i (by simpa [ByteArray.size] using h)]
  rw [List.getD_eq_getElem?_getD,List.getElem?_eq_none (by omega)]
  rfl
theorem size_ba (l:List UInt8):(⟨l.toArray⟩ : ByteArray).size=l.length:=by simp [ByteArray.size]
def cmpAt (l m:List UInt8):Int:=
 match (List.range (min l.length m.length)).find? fun i=>l.getD i default != m.getD i default with
 | some i=>if l.getD i default<m.getD i default then -1 else 1
 | none=>if l.length<m.length then -1 else if l.length > m.length then 1 else 0
theorem cmp_at (l m:List UInt8):Extern.BytealgCompare.cmp ⟨l.toArray⟩ ⟨m.toArray⟩=cmpAt l m:=by
 unfold Extern.BytealgCompare.cmp cmpAt
 simp only [size_ba,get_ba]
 cases List.find? (fun i=>l.getD i default != m.getD i default) (List.range (min l.length m.length))<;>rfl
theorem cmpAt_eq:∀ (l m:List UInt8),cmpAt l m=cmpU l m
 | [],[]=>rfl
 | [],_ :: _=>by simp [cmpAt,cmpU]
 | _ :: _,[]=>by simp [cmpAt,cmpU]
 | a :: s,b :: t=>by
  have ih:=cmpAt_eq s t
  unfold cmpAt at ih ⊢
  rw [show min (a :: s).length (b :: t).length=min s.length t.length+1 by simp [Nat.add_min_add_right],List.range_succ_eq_map,List.find?_cons]
  by_cases h:a=b
  ·subst h
   rw [cmpU_same,← ih]
   simp only [List.getD_cons_zero,bne_self_eq_false,List.find?_map,Function.comp_def,List.getD_cons_succ]
   cases hx:List.find? (fun x=>s.getD x default != t.getD x default) (List.range (min s.length t.length)) with
   | none=>simp only [Option.map_none,List.length_cons,Nat.add_lt_add_iff_right,gt_iff_lt]
   | some i=>simp only [Option.map_some,List.getD_cons_succ]
  ·have:(a != b)=true:=by simp [h]
   simp only [List.getD_cons_zero,this]
   rw [cmpU]
   by_cases h2:a<b
   ·rw [if_pos h2,if_pos h2]
   ·rw [if_neg h2,if_neg h2,if_neg h]
theorem cmpU_bytes (l m:List UInt8):Extern.BytealgCompare.cmp ⟨l.toArray⟩ ⟨m.toArray⟩=cmpU l m:=(cmp_at l m).trans (cmpAt_eq l m)
theorem cmpU_range:∀ l m:List UInt8,cmpU l m = -1∨cmpU l m=0∨cmpU l m=1
 | [],[]=>.inr (.inl rfl)
 | [],_ :: _=>.inl rfl
 | _ :: _,[]=>.inr (.inr rfl)
 | a :: s,b :: t=>by
  rw [cmpU]
  split
  ·exact .inl rfl
  ·split
   ·exact cmpU_range s t
   ·exact .inr (.inr rfl)
/-! ### bytes in memory -/
def bv (u:UInt8):Value:=.int .u8 (u.toNat:Int)
def cells (x:List UInt8):Array Value:=(x.map bv).toArray
/-- Bytes that lie from an address on. -/
def At (w:World) (a:Addr) (x:List UInt8):Prop:=∀ (j:Nat) (u:UInt8),x[j]? = some u→w.cell? (a.add j)=some (bv u)
/-- A key: a row of its own. -/
def KeyAt (w:World) (v:Value) (x:List UInt8):Prop:=∃ b,v=.slice (some ⟨b,0,none⟩) x.length x.length∧w.heap[b]? = some (.cells (cells x) 5 (0,0))
theorem add_off (b o j:Nat):(⟨b,o,none⟩ : Addr).add j=⟨b,o+j,none⟩:=by unfold Addr.add;split<;>simp_all
theorem at_key {w:World} {b:Nat} {x:List UInt8} (h:w.heap[b]? = some (.cells (cells x) 5 (0,0))) (o n:Nat):At w ⟨b,o,none⟩ ((x.drop o).take n):=by
 intro j u hj
 rw [add_off,blk_cell h]
 rw [List.getElem?_take] at hj
 split at hj
 ·rw [List.getElem?_drop] at hj
  simp [cells,hj]
 ·cases hj
theorem at_load {w:World} {a:Addr} {x:List UInt8} (h:At w a x) (P:Program):(Extern.Bytes.loadBytes a x.length .empty).run P w=.ok ⟨x.toArray⟩ w:=by
 have h2:=Lib.run_loadBytesX (P:=P) w (x.map fun u=>(u.toNat:Int)) a .empty (fun j y hj=>by
  rw [List.getElem?_map] at hj
  cases hx:x[j]? with
  | none=>rw [hx] at hj;cases hj
  | some u=>rw [hx] at hj;cases hj;exact h j u hx)
 rw [List.length_map] at h2
 rw [h2]
 congr 1
 apply ByteArray.ext
 simp [Lib.bytesOf,List.map_map,Function.comp_def]
theorem run_compare {w:World} {a b:Addr} {x y:List UInt8} {c d:Nat} (ha:At w a x) (hb:At w b y) :
  (callFunc 159 #[.slice (some a) x.length c,.slice (some b) y.length d]).run Tryz.prog w=.ok (.value (.int .i64 (cmpU x y))) w:=by
 rw [run_callFunc_extern (e:=Extern.BytealgCompare.compare) Tryz.func159 (by kernel_rfl) (by kernel_rfl) (by kernel_rfl) (by kernel_rfl)]
 have h1:=at_load ha Tryz.prog
 have h2:=at_load hb Tryz.prog
 have:(Extern.BytealgCompare.compare #[.slice (some a) x.length c,.slice (some b) y.length d]).run Tryz.prog w=.ok (.int .i64 (cmpU x y)) w:=by
  rw [← cmpU_bytes]
  show Sem.run Tryz.prog (do pure (goInt (Extern.BytealgCompare.cmp (← Extern.Bytes.bytesOf (.slice (some a) x.length c)) (← Extern.Bytes.bytesOf (.slice (some b) y.length d)))):Sem Value) w=_
  simp only [Extern.Bytes.bytesOf,Sem.run_bind,h1,h2,Result.andThen,Sem.run_pure]
  rfl
 rw [this]
 rfl
theorem compare_calls {w:World} {a b:Addr} {x y:List UInt8} {c d:Nat} (ha:At w a x) (hb:At w b y) :
  Calls Tryz.prog 136 #[.slice (some a) x.length c,.slice (some b) y.length d] w fun e w'=>e=.returned (.int .i64 (cmpU x y))∧w=w':=by
 have hx:=run_compare (c:=c) (d:=d) ha hb
 go_enter Tryz.func136,Tryz.ntmps136
 go_wp2
 go_ret
 exact ⟨rfl,rfl⟩
end Go.Proofs.YtnineoajmgneiaaGreat.Ky
namespace Go.Proofs.YtnineoajmgneiaaGreat.Ky
open Lib (hid)
open Go.RowKit YtnineoajmgneiaaGreatW.PrintWords Fr
def cmpK (x y:List UInt8):Int:=if cmpU (x.take (x.length - 8)) (y.take (y.length - 8))≠0 then cmpU (x.take (x.length - 8)) (y.take (y.length - 8)) else cmpU (x.drop (x.length - 8)) (y.drop (y.length - 8))
theorem key_low {w:World} {b:Nat} {x:List UInt8} (h:w.heap[b]? = some (.cells (cells x) 5 (0,0))):At w ⟨b,0,none⟩ (x.take (x.length - 8)):=by
 have:=at_key h 0 (x.length - 8)
 rwa [List.drop_zero] at this
theorem key_high {w:World} {b:Nat} {x:List UInt8} (h8:8≤x.length) (h:w.heap[b]? = some (.cells (cells x) 5 (0,0))):At w ⟨b,x.length - 8,none⟩ (x.drop (x.length - 8)):=by
 have:=at_key h (x.length - 8) 8
 rwa [List.take_of_length_le (by simp;omega)] at this
theorem compare_len {w:World} {a b:Addr} {x y:List UInt8} {p q c d:Nat} (hp:x.length=p) (hq:y.length=q) (ha:At w a x) (hb:At w b y) :
  Calls Tryz.prog 136 #[.slice (some a) p c,.slice (some b) q d] w fun e w'=>e=.returned (.int .i64 (cmpU x y))∧w=w':=by
 subst hp;subst hq;exact compare_calls ha hb
theorem q_same {P:Program} {f:FuncId} {args:Array Value} {w:World} {n:Nat} {v:Value} (h:Calls P f args (w.drewN n) fun e w'=>e=.returned v∧w.drewN n=w'):Calls P f args (w.drewN n) fun e w''=>e=.returned v∧∃ m,w''=w.drewN m:=
 h.mono fun _ _ ⟨he,hm⟩=>⟨he,n,hm.symm⟩
set_option maxHeartbeats 1000000 in
theorem compareKeys_calls {w:World} {a b:Nat} {x y:List UInt8} {p q:Nat} (hp:x.length=p) (hq:y.length=q) (ha:w.heap[a]? = some (.cells (cells x) 5 (0,0))) (hb:w.heap[b]? = some (.cells (cells y) 5 (0,0)))
  (hx:8≤p) (hy:8≤q) (hx2:p≤4611686018427387904) (hy2:q≤4611686018427387904) :
  Calls Tryz.prog 112 #[.slice (some ⟨a,0,none⟩) p p,.slice (some ⟨b,0,none⟩) q q] w fun e w'=>e=.returned (.int .i64 (cmpK x y))∧∃ n,w'=w.drewN n:=by
 obtain ⟨n,rfl⟩ : ∃ n,p=n+8:=⟨p - 8,by omega⟩
 obtain ⟨m,rfl⟩ : ∃ m,q=m+8:=⟨q - 8,by omega⟩
 have hK:cmpK x y=if cmpU (x.take n) (y.take m)≠0 then cmpU (x.take n) (y.take m) else cmpU (x.drop n) (y.drop m):=by
  unfold cmpK;rw [hp,hq,Nat.add_sub_cancel,Nat.add_sub_cancel]
 have HC1:=hid (fun (W:World) (hW:W.heap=w.heap)=>compare_len (w:=W) (a:=⟨a,0,none⟩) (b:=⟨b,0,none⟩) (p:=n) (q:=m) (c:=n+8) (d:=m+8) (show (x.take n).length=n by simp;omega) (show (y.take m).length=m by simp;omega) (by have:=key_low (w:=W) (by rw [hW];exact ha);rwa [hp,Nat.add_sub_cancel] at this) (by have:=key_low (w:=W) (by rw [hW];exact hb);rwa [hq,Nat.add_sub_cancel] at this))
 have HC2:=hid (fun (W:World) (hW:W.heap=w.heap)=>compare_len (w:=W) (a:=⟨a,n,none⟩) (b:=⟨b,m,none⟩) (p:=8) (q:=8) (c:=8) (d:=8) (show (x.drop n).length=8 by simp;omega) (show (y.drop m).length=8 by simp;omega) (by have:=key_high (w:=W) (x:=x) (by omega) (by rw [hW];exact ha);rwa [hp,Nat.add_sub_cancel] at this) (by have:=key_high (w:=W) (x:=y) (by omega) (by rw [hW];exact hb);rwa [hq,Nat.add_sub_cancel] at this))
 rw [hK]
 have hr:=cmpU_range (x.take n) (y.take m)
 generalize cmpU (x.take n) (y.take m)=r at *
 generalize cmpU (x.drop n) (y.drop m)=r2 at *
 clear ha hb hp hq hK
 have s1:IntKind.i64.wrap (((n+8:Nat):Int) - 8)=(n:Int):=by rw [IntWalk.i64_in _ (by omega)];omega
 have s2:IntKind.i64.wrap (((m+8:Nat):Int) - 8)=(m:Int):=by rw [IntWalk.i64_in _ (by omega)];omega
 by_cases h0:r=0
 ·subst h0
  rw [if_neg (by simp)]
  clear hr
  go_enter Tryz.func112,Tryz.ntmps112
  go_wp2_with fail
  go_quiet ((go_at_call 136;exact q_same (HC1.out _ rfl)))
  go_wp2_with fail
  go_quiet ((go_at_call 136;refine (HC2.out (w.drewN _) rfl).mono ?_;rintro e w' ⟨rfl,rfl⟩;exact ⟨rfl,_,rfl⟩))
  go_wp2_with fail
  go_ret
  exact ⟨rfl,_,World.drewN_drewN _ _ _⟩
 ·rw [if_pos h0]
  have hb0:(r != 0)=true:=by simp [h0]
  have HR:=hid h0
  clear h0
  go_enter Tryz.func112,Tryz.ntmps112
  go_wp2_with fail
  go_quiet ((go_at_call 136;exact q_same (HC1.out _ rfl)))
  go_wp2_with fail
  go_ret
  exact ⟨rfl,_,rfl⟩
theorem compareKeys_at {w:World} {u v:Value} {x y:List UInt8} (ha:KeyAt w u x) (hb:KeyAt w v y) (hx:8≤x.length) (hy:8≤y.length) (hx2:x.length≤4611686018427387904) (hy2:y.length≤4611686018427387904) :
  Calls Tryz.prog 112 #[u,v] w fun e w'=>e=.returned (.int .i64 (cmpK x y))∧∃ n,w'=w.drewN n:=by
 obtain ⟨a,rfl,ha⟩:=ha
 obtain ⟨b,rfl,hb⟩:=hb
 exact compareKeys_calls rfl rfl ha hb hx hy hx2 hy2
/-! ### a table's own -/
/-- A table in memory. -/
structure Tb where
 num:Int
 small:List UInt8
 big:List UInt8
 bytes:Int
 ver:Int
 stale:Int
 age:Int
structure TabAt (w:World) (p:Nat) (t:Tb):Prop where
 mk' ::
 blk:∃ v u,w.heap[p]? = some (.cells #[.int .u64 t.num,v,u,.int .i64 t.bytes,.int .u64 t.ver,.int .u32 t.stale,.int .i64 t.age] 98 (0,0))∧KeyAt w v t.small∧KeyAt w u t.big
theorem id_calls {w:World} {p:Nat} {v:Value} (h:w.cell? ⟨p,0,none⟩=some v):Calls Tryz.prog 104 #[.pointer (some ⟨p,0,none⟩)] w fun e w'=>e=.returned v∧w=w':=by
 go_enter Tryz.func104,Tryz.ntmps104
 go_wp2
 go_ret
 exact ⟨rfl,rfl⟩
theorem smallest_calls {w:World} {p:Nat} {v:Value} (h:w.cell? ⟨p,1,none⟩=some v):Calls Tryz.prog 113 #[.pointer (some ⟨p,0,none⟩)] w fun e w'=>e=.returned v∧w=w':=by
 go_enter Tryz.func113,Tryz.ntmps113
 go_wp2
 go_ret
 exact ⟨rfl,rfl⟩
theorem biggest_calls {w:World} {p:Nat} {v:Value} (h:w.cell? ⟨p,2,none⟩=some v):Calls Tryz.prog 103 #[.pointer (some ⟨p,0,none⟩)] w fun e w'=>e=.returned v∧w=w':=by
 go_enter Tryz.func103,Tryz.ntmps103
 go_wp2
 go_ret
 exact ⟨rfl,rfl⟩
theorem size_calls {w:World} {p:Nat} {v:Value} (h:w.cell? ⟨p,3,none⟩=some v):Calls Tryz.prog 94 #[.pointer (some ⟨p,0,none⟩)] w fun e w'=>e=.returned v∧w=w':=by
 go_enter Tryz.func94,Tryz.ntmps94
 go_wp2
 go_ret
 exact ⟨rfl,rfl⟩
theorem maxVersion_calls {w:World} {p:Nat} {v:Value} (h:w.cell? ⟨p,4,none⟩=some v):Calls Tryz.prog 126 #[.pointer (some ⟨p,0,none⟩)] w fun e w'=>e=.returned v∧w=w':=by
 go_enter Tryz.func126,Tryz.ntmps126
 go_wp2
 go_ret
 exact ⟨rfl,rfl⟩
theorem stale_calls {w:World} {p:Nat} {v:Value} (h:w.cell? ⟨p,5,none⟩=some v):Calls Tryz.prog 122 #[.pointer (some ⟨p,0,none⟩)] w fun e w'=>e=.returned v∧w=w':=by
 go_enter Tryz.func122,Tryz.ntmps122
 go_wp2
 go_ret
 exact ⟨rfl,rfl⟩
theorem assertTrue_calls (w:World):Calls Tryz.prog 87 #[.bool true] w fun e w'=>e=.returned (.tuple #[])∧w=w':=by
 go_enter Tryz.func87,Tryz.ntmps87
 go_wp2
 go_end0
 exact ⟨rfl,rfl⟩
end Go.Proofs.YtnineoajmgneiaaGreat.Ky
namespace Go.Proofs.YtnineoajmgneiaaGreat.Ky
open Lib (hid)
open Go.RowKit YtnineoajmgneiaaGreatW.PrintWords Fr
/-- Bytes stored one behind the other. -/
def putB (w:World) (b o:Nat):List Int→World
 | []=>w
 | x :: t=>putB (w.setCell ⟨b,o,none⟩ (.int .u8 x)) b (o+1) t
def putA (arr:Array Value) (o:Nat):List Int→Array Value
 | []=>arr
 | x :: t=>putA (arr.setIfInBounds o (.int .u8 x)) (o+1) t
theorem putA_size:∀ (l:List Int) (arr:Array Value) (o:Nat),(putA arr o l).size=arr.size
 | [],arr,o=>rfl
 | x :: t,arr,o=>by rw [putA,putA_size t];simp
theorem putB_blk {t:Nat} {b:Nat}:∀ (l:List Int) {w:World} {arr:Array Value} (o:Nat),w.heap[b]? = some (.cells arr t (0,0))→(putB w b o l).heap[b]? = some (.cells (putA arr o l) t (0,0))
 | [],w,arr,o,h=>h
 | x :: l,w,arr,o,h=>putB_blk l (o+1) (blk_set h o (.int .u8 x))
theorem putB_append {b:Nat}:∀ (l m:List Int) (w:World) (o:Nat),putB w b o (l++m)=putB (putB w b o l) b (o+l.length) m
 | [],m,w,o=>rfl
 | x :: l,m,w,o=>by
  rw [List.cons_append,putB,putB,putB_append l m,List.length_cons,show o+1+l.length=o+(l.length+1) by omega]
theorem putB_below {b B:Nat} (hB:B≤b):∀ (l:List Int) {w w0:World} (o:Nat),Below B w0 w→Below B w0 (putB w b o l)
 | [],w,w0,o,h=>h
 | x :: l,w,w0,o,h=>putB_below hB l (o+1) (h.setCell (p:=⟨b,o,none⟩) hB _)
def be16 (v:Int):List Int:=[v / 256,v % 256]
def be32 (v:Int):List Int:=be16 (v / 65536)++be16 (v % 65536)
def be64 (v:Int):List Int:=be32 (v / 4294967296)++be32 (v % 4294967296)
theorem be64_len (v:Int):(be64 v).length=8:=rfl
theorem put16_calls {w:World} {b o m c:Nat} {arr:Array Value} {v:Int} (hb:w.heap[b]? = some (.cells arr 5 (0,0))) (ho:o+2≤arr.size) (hm:2≤m) (hv:0≤v) (hv2:v<65536) :
  Calls Tryz.prog 135 #[.slice (some ⟨b,o,none⟩) m c,.int .u16 v] w fun e w'=>e=.returned (.tuple #[])∧w'=putB w b o (be16 v):=by
 have h0:=blk_cell hb o
 have h1:=blk_cell hb (o+1)
 rw [Array.getElem?_eq_getElem (by omega)] at h0 h1
 have f0:=blk_frozen hb o
 have f1:=blk_frozen hb (o+1)
 generalize arr[o]=x0 at h0
 generalize arr[o+1]=x1 at h1
 have e1:(0:Int)<(m:Int):=by omega
 have e2:(1:Int)<(m:Int):=by omega
 show Calls Tryz.prog 135 #[.slice (some ⟨b,o,none⟩) m c,.int .u16 v] w fun e w'=>e=.returned (.tuple #[])∧w'=(w.setCell ⟨b,o,none⟩ (.int .u8 (v / 256))).setCell ⟨b,o+1,none⟩ (.int .u8 (v % 256))
 clear hb ho
 go_enter Tryz.func135,Tryz.ntmps135
 go_wp2
 go_end0
 exact ⟨rfl,rfl⟩
theorem put32_calls {w:World} {b o m c:Nat} {arr:Array Value} {v:Int} (hb:w.heap[b]? = some (.cells arr 5 (0,0))) (ho:o+4≤arr.size) (hm:4≤m) (hmc:m≤c) (hc:c≤4611686018427387904) (hv:0≤v) (hv2:v<4294967296) :
  Calls Tryz.prog 108 #[.slice (some ⟨b,o,none⟩) m c,.int .u32 v] w fun e w'=>e=.returned (.tuple #[])∧w'=putB w b o (be32 v):=by
 have HB:=hid hb
 have HO:=hid ho
 rw [be32,putB_append]
 clear hb ho
 have q1:4≤c:=by omega
 have q2:2≤c:=by omega
 have q3:c≠2:=by omega
 go_enter Tryz.func108,Tryz.ntmps108
 go_wp2_with fail
 refine (put16_calls (v:=v / 65536) HB.out (by have:=HO.out;omega) (by omega) (by omega) (by omega)).mono ?_
 rintro e w1 ⟨rfl,hw⟩
 have HB1:=hid (show w1.heap[b]? = some (.cells (putA arr o (be16 (v / 65536))) 5 (0,0)) by rw [hw];exact putB_blk _ _ HB.out)
 have HW:=hid hw
 clear hw
 go_wp2_with fail
 refine (put16_calls (o:=o+2) (v:=v % 65536) HB1.out (by rw [putA_size];have:=HO.out;omega) (by omega) (by omega) (by omega)).mono ?_
 rintro e w2 ⟨rfl,hw⟩
 have HW2:=hid hw
 clear hw
 go_wp2_with fail
 go_end0
 exact ⟨rfl,by rw [HW2.out,HW.out];rfl⟩
theorem put64_calls {w:World} {b o m c:Nat} {arr:Array Value} {v:Int} (hb:w.heap[b]? = some (.cells arr 5 (0,0))) (ho:o+8≤arr.size) (hm:8≤m) (hmc:m≤c) (hc:c≤4611686018427387904) (hv:0≤v) (hv2:v<18446744073709551616) :
  Calls Tryz.prog 79 #[.slice (some ⟨b,o,none⟩) m c,.int .u64 v] w fun e w'=>e=.returned (.tuple #[])∧w'=putB w b o (be64 v):=by
 have HB:=hid hb
 have HO:=hid ho
 rw [be64,putB_append]
 clear hb ho
 have q1:8≤c:=by omega
 have q2:4≤c:=by omega
 have q3:c≠4:=by omega
 go_enter Tryz.func79,Tryz.ntmps79
 go_wp2_with fail
 refine (put32_calls (v:=v / 4294967296) HB.out (by have:=HO.out;omega) (by omega) (by omega) (by omega) (by omega) (by omega)).mono ?_
 rintro e w1 ⟨rfl,hw⟩
 have HB1:=hid (show w1.heap[b]? = some (.cells (putA arr o (be32 (v / 4294967296))) 5 (0,0)) by rw [hw];exact putB_blk _ _ HB.out)
 have HW:=hid hw
 clear hw
 go_wp2_with fail
 refine (put32_calls (o:=o+4) (v:=v % 4294967296) HB1.out (by rw [putA_size];have:=HO.out;omega) (by omega) (by omega) (by omega) (by omega) (by omega)).mono ?_
 rintro e w2 ⟨rfl,hw⟩
 have HW2:=hid hw
 clear hw
 go_wp2_with fail
 go_end0
 exact ⟨rfl,by rw [HW2.out,HW.out];rfl⟩
end Go.Proofs.YtnineoajmgneiaaGreat.Ky
namespace Go.Proofs.YtnineoajmgneiaaGreat.Ky
open Lib (hid)
open Go.RowKit YtnineoajmgneiaaGreatW.PrintWords Fr L
def be64b (v:Int):List UInt8:=(be64 v).map fun n=>UInt8.ofNat n.toNat
theorem be64b_len (v:Int):(be64b v).length=8:=rfl
theorem putA_toArray:∀ (l:List Int) (p q:List Value),l.length=q.length→putA (p++q).toArray p.length l=(p++l.map (Value.int .u8)).toArray
 | [],p,q,h=>by
  have:q=[]:=List.eq_nil_of_length_eq_zero h.symm
  subst this;rfl
 | x :: l,p,[],h=>by simp at h
 | x :: l,p,y :: q,h=>by
  rw [putA]
  have e:(p++y :: q).toArray.setIfInBounds p.length (.int .u8 x)=((p++[Value.int .u8 x])++q).toArray:=by
   simp
  rw [e]
  have:=putA_toArray l (p++[Value.int .u8 x]) q (by simpa using h)
  rw [List.length_append,List.length_singleton] at this
  rw [this]
  simp
theorem be_range (v:Int) (h:0≤v) (h2:v<18446744073709551616):∀ n∈be64 v,0≤n∧n<256:=by
 intro n hn
 simp only [be64,be32,be16,List.mem_append,List.mem_cons,List.not_mem_nil,or_false] at hn
 omega
theorem be_vals (v:Int) (h:0≤v) (h2:v<18446744073709551616):(be64 v).map (Value.int .u8)=(be64b v).map bv:=by
 unfold be64b
 rw [List.map_map]
 refine List.map_congr_left (fun n hn=>?_)
 have:=be_range v h h2 n hn
 simp only [Function.comp_apply,bv,UInt8.toNat_ofNat']
 congr 1
 omega
theorem made_bytes (n:Nat):madeCells #[Value.int .u8 0] n=(List.replicate n (Value.int .u8 0)).toArray:=by
 unfold madeCells
 apply Array.toList_inj.1
 simp only [Array.toList_map,Array.toList_range]
 refine List.eq_replicate_iff.2 ⟨by simp,?_⟩
 intro v hv
 obtain ⟨i,_,rfl⟩:=List.mem_map.1 hv
 simp [Nat.mod_one]
/-- Less than 2^64 from the top. -/
def top (ts:Int):Int:=18446744073709551615 - ts
theorem top_lo {ts:Int} (h:ts≤18446744073709551615):0≤top ts:=by unfold top;omega
theorem top_hi {ts:Int} (h:0≤ts):top ts<18446744073709551616:=by unfold top;omega
theorem wrap_top {ts:Int} (h0:0≤ts) (h1:ts≤18446744073709551615):IntKind.u64.wrap (18446744073709551615 - ts)=top ts:=by
 unfold top
 exact IntWalk.u64_in _ ⟨by omega,by omega⟩
theorem bv_one (x:List UInt8):∀ v∈x.map bv,v.oneCell'=true:=by
 intro v hv
 obtain ⟨u,_,rfl⟩:=List.mem_map.1 hv
 rfl
theorem src_at {w w1:World} {A:Option Addr} {n:Nat} {x:List UInt8} (hn:x.length=n) (hA:0<n→∃ a,A=some a∧At w a x) (hb:Below w.heap.size w w1) :
  0<(x.map bv).length→∃ ad,A=some ad∧∀ (j:Nat) (v:Value),(x.map bv)[j]? = some v→w1.cell? (ad.add j)=some v:=by
 intro hp
 rw [List.length_map,hn] at hp
 obtain ⟨a,rfl,ha⟩:=hA hp
 refine ⟨a,rfl,fun j v hv=>?_⟩
 rw [List.getElem?_map] at hv
 cases hx:x[j]? with
 | none=>rw [hx] at hv;cases hv
 | some u =>
  rw [hx] at hv
  cases hv
  exact pw_cell_below hb (ha j u hx)
theorem splice_key (x:List UInt8) {n:Nat} (hn:x.length=n):splice (List.replicate (n+8) (Value.int .u8 0)) 0 (x.map bv)=x.map bv++List.replicate 8 (Value.int .u8 0):=by
 unfold splice
 rw [List.take_zero,List.nil_append,Nat.zero_add,List.length_map,hn,List.drop_replicate,Nat.add_sub_cancel_left]
set_option maxRecDepth 4000 in
set_option maxHeartbeats 1000000 in
theorem keyWithTs_calls {w:World} {A:Option Addr} {n c:Nat} {x:List UInt8} {ts:Int} (hn:x.length=n) (hA:0<n→∃ a,A=some a∧At w a x) (hn2:n≤100000000) (h0:0≤ts) (h1:ts≤18446744073709551615) :
  Calls Tryz.prog 68 #[.slice A n c,.int .u64 ts] w fun e w'=>e=.returned (.slice (some ⟨w.heap.size,0,none⟩) (n+8) (n+8))∧w'.heap[w.heap.size]? = some (.cells (cells (x++be64b (top ts))) 5 (0,0))∧Below w.heap.size w w':=by
 have hm:∀ W:World,(Instr.makeSlice 81 (.int .i64 ((n:Int)+8)) (.int .i64 ((n:Int)+8))).run Tryz.prog W=.ok (.slice (some ⟨W.heap.size,0,none⟩) (n+8) (n+8)) (W.alloc (.cells (madeCells #[.int .u8 0] (n+8)) 5)):=by
  have h:=print_make (P:=Tryz.prog) 81 5 .u8 1 Tryz.underlying81 info5 (by omega) (n+8) (by omega)
  rw [show (((n+8:Nat)):Int)=(n:Int)+8 from rfl] at h
  exact h
 have HN:=hid hn
 have HA:=hid hA
 have HT0:=hid h0
 have HT1:=hid h1
 clear hn hA h0 h1
 go_enter Tryz.func68,Tryz.ntmps68
 go_upto_region 2 with (fail)
 obtain ⟨w1,hw1⟩ : ∃ w1,w1=w.alloc (.cells (madeCells #[.int .u8 0] (n+8)) 5):=⟨_,rfl⟩
 have HG:=hid (show w1.heap[w.heap.size]? = some (.cells (List.replicate (n+8) (Value.int .u8 0)).toArray 5 (0,0)) by rw [hw1,made_bytes];exact blk_new _ _)
 have HB1:=hid (show Below w.heap.size w w1 by rw [hw1];exact below_alloc (Below.refl _ _) _)
 rw [← hw1]
 clear hw1
 have HSRC:=hid (src_at HN.out HA.out HB1.out)
 go_wp2_with (first | ((with_reducible refine wpList_copy_splice rfl (.tmp 10) (.tmp 11) 81 81 rfl 5 Tryz.underlying81 (by kernel_rfl) (some ⟨w.heap.size,0,none⟩) A (n+8) (n+8) n c rfl rfl w.heap.size 0 (List.replicate (n+8) (Value.int .u8 0)) 5 HG.out (x.map bv) ?hn ?hpos ?hfit ?h1 w.heap.size w HB1.out (Nat.le_refl _) ?_);(case hn=>exact (List.length_map _).trans (HN.out.trans (Nat.min_eq_left (Nat.le_add_right n 8)).symm));(case hpos=>exact fun hp=>⟨rfl,HSRC.out hp⟩);(case hfit=>rw [List.length_map,List.length_replicate,HN.out];omega);(case h1=>exact bv_one x);intro w2 hg2 hb2;have HG2:=hid hg2.out;have HB2:=hid hb2;clear hg2 hb2))
 rw [wrap_top HT0.out HT1.out]
 have hg3:=HG2.out
 rw [splice_key x HN.out] at hg3
 refine (put64_calls (arr:=(x.map bv++List.replicate 8 (Value.int .u8 0)).toArray) (v:=top ts) hg3 (by rw [List.size_toArray,List.length_append,List.length_map,HN.out,List.length_replicate];omega) (by omega) (by omega) (by omega) (top_lo HT1.out) (top_hi HT0.out)).mono ?_
 rintro e w3 ⟨rfl,hw⟩
 have HG4:=hid (show w3.heap[w.heap.size]? = some (.cells (cells (x++be64b (top ts))) 5 (0,0)) by
  rw [hw]
  have h:=putB_blk (be64 (top ts)) n hg3
  have e:=putA_toArray (be64 (top ts)) (x.map bv) (List.replicate 8 (Value.int .u8 0)) (by rw [be64_len];rfl)
  rw [List.length_map,HN.out] at e
  rw [e,be_vals _ (top_lo HT1.out) (top_hi HT0.out),← List.map_append] at h
  exact h)
 have HB4:=hid (show Below w.heap.size w w3 by rw [hw];exact putB_below (Nat.le_refl _) _ _ HB2.out)
 clear hw hg3
 go_wp2_with fail
 go_ret
 exact ⟨rfl,HG4.out,HB4.out⟩
end Go.Proofs.YtnineoajmgneiaaGreat.Ky
namespace Go.Proofs.YtnineoajmgneiaaGreat.Tm
open Go.RowKit YtnineoajmgneiaaGreatW.PrintWords YtnineoajmgneiaaGreatW.PrintLast YtnineoajmgneiaaGreatW.PrintMore Fr L Ky
theorem info98:(Tryz.prog.info? 98).map (fun i=>(i.zero,i.size,i.bytes))=some (some (.agg #[.int .u64 0,.slice none 0 0,.slice none 0 0,.int .i64 0,.int .u64 0,.int .u32 0,.int .i64 0]),7,88):=by kernel_rfl
theorem info94:(Tryz.prog.info? 94).map (fun i=>(i.zero,i.size,i.bytes))=some (some (.slice none 0 0),1,24):=by kernel_rfl
theorem info140:(Tryz.prog.info? 140).map (fun i=>(i.zero,i.size,i.bytes))=some (some (.pointer none),1,8):=by kernel_rfl
theorem info126:(Tryz.prog.info? 126).map (fun i=>(i.zero,i.size,i.bytes))=some (some (.agg #[.slice none 0 0,.slice none 0 0,.bool false,.int .i64 0]),4,64):=by kernel_rfl
/-- A table's cells, its keys at b and c. -/
def tabC (t:Tb) (b c:Nat):List Value:=[.int .u64 t.num,.slice (some ⟨b,0,none⟩) t.small.length t.small.length,.slice (some ⟨c,0,none⟩) t.big.length t.big.length,.int .i64 t.bytes,.int .u64 t.ver,.int .u32 t.stale,.int .i64 t.age]
def keyO (x:List UInt8):Obj:=.cells (cells x) 5 (0,0)
def TabK (w:World) (ok:Nat→Prop) (t:Tb) (cs:List Value):Prop:=∃ b c,cs=tabC t b c∧(w.heap[b]? = some (keyO t.small)∧ok b)∧(w.heap[c]? = some (keyO t.big)∧ok c)
def kT:Kd Tb where
 sz:=7
 E:=[5]
 K:=fun w t cs=>TabK w (fun _=>True) t cs
 M:=fun w base ok t cs=>TabK w (fun k=>ok k∧base≤k) t cs
 K_len:=fun ⟨_,_,h,_⟩=>by rw [h];rfl
 K_one:=fun ⟨_,_,h,_⟩=>by
  rw [h]
  intro u hu
  simp only [tabC,List.mem_cons,List.not_mem_nil,or_false] at hu
  rcases hu with h | h | h | h | h | h | h<;>rw [h]<;>rfl
 K_below:=fun hb ⟨b,c,h,h1,h2⟩=>⟨b,c,h,⟨(hb.block b (blk_lt h1.1)).trans h1.1,trivial⟩,⟨(hb.block c (blk_lt h2.1)).trans h2.1,trivial⟩⟩
 K_of_M:=fun ⟨b,c,h,h1,h2⟩=>⟨b,c,h,⟨h1.1,trivial⟩,⟨h2.1,trivial⟩⟩
 M_mono:=fun hk ⟨b,c,h,h1,h2⟩=>⟨b,c,h,⟨h1.1,hk _ h1.2.1,h1.2.2⟩,⟨h2.1,hk _ h2.2.1,h2.2.2⟩⟩
 M_bound:=fun ⟨b,c,h,h1,h2⟩=>⟨b,c,h,⟨h1.1,⟨h1.2.1,h1.2.2,blk_lt h1.1,5,List.mem_singleton.2 rfl,_,h1.1⟩,h1.2.2⟩,⟨h2.1,⟨h2.2.1,h2.2.2,blk_lt h2.1,5,List.mem_singleton.2 rfl,_,h2.1⟩,h2.2.2⟩⟩
 M_move:=fun hk ⟨b,c,h,h1,h2⟩=>⟨b,c,h,⟨(hk b h1.2.1).trans h1.1,h1.2⟩,⟨(hk c h2.2.1).trans h2.1,h2.2⟩⟩
 M_lower:=fun hb ⟨b,c,h,h1,h2⟩=>⟨b,c,h,⟨h1.1,h1.2.1,Nat.le_trans hb h1.2.2⟩,⟨h2.1,h2.2.1,Nat.le_trans hb h2.2.2⟩⟩
theorem kT_mkM {w:World} {base:Nat} {ok:Nat→Prop} {t:Tb} {b c:Nat} (h1:w.heap[b]? = some (keyO t.small)) (o1:ok b) (l1:base≤b) (h2:w.heap[c]? = some (keyO t.big)) (o2:ok c) (l2:base≤c):kT.M w base ok t (tabC t b c):=⟨b,c,rfl,⟨h1,o1,l1⟩,⟨h2,o2,l2⟩⟩
theorem kT_open {w:World} {t:Tb} {cs:List Value} (h:kT.K w t cs):∃ b c,cs=tabC t b c∧w.heap[b]? = some (keyO t.small)∧w.heap[c]? = some (keyO t.big):=by
 obtain ⟨b,c,h,h1,h2⟩:=h
 exact ⟨b,c,h,h1.1,h2.1⟩
/-- Text and version as a key. -/
def keyOf (s:ByteArray) (v:Int):List UInt8:=s.toList++be64b (top v)
/-- A table as it is handed in, as the package has it. -/
def tbOf (t:S68):Tb:=⟨t.f0,keyOf t.f1 t.f2,keyOf t.f3 t.f4,t.f5,t.f6,t.f7,t.f8⟩
/-- A table whose numbers fit. -/
structure InTab (t:S68):Prop where
 n0:0≤t.f0∧t.f0≤1099511627776
 s1:t.f1.size≤2000000
 n2:0≤t.f2∧t.f2≤1099511627776
 s3:t.f3.size≤2000000
 n4:0≤t.f4∧t.f4≤1099511627776
 n5:0≤t.f5∧t.f5≤17179869184
 n6:0≤t.f6∧t.f6≤1099511627776
 n7:0≤t.f7∧t.f7≤1073741824
 n8:0≤t.f8∧t.f8≤1073741824
/-- A text as bytes of its own, for reading. -/
theorem bytes_at (W:World) (s:ByteArray):At (Lib.bytesWorld W 5 s) ⟨W.heap.size,0,none⟩ s.toList:=by
 intro j u hj
 rw [ByteArray.toList_eq] at hj
 have hlt:j<s.size:=by
  have:=(List.getElem?_eq_some_iff.1 hj).1
  simpa using this
 rw [add_off,Nat.zero_add,Lib.bytesWorld_cell W 5 s j hlt,List.getD_eq_getElem?_getD,hj]
 rfl
theorem list_size (s:ByteArray):s.toList.length=s.size:=by rw [ByteArray.toList_eq,data_length]
end Go.Proofs.YtnineoajmgneiaaGreat.Tm
namespace Go.Proofs.YtnineoajmgneiaaGreat.Lm
open Lib (hid)
open Go.RowKit YtnineoajmgneiaaGreatW.PrintWords YtnineoajmgneiaaGreatW.PrintLast YtnineoajmgneiaaGreatW.PrintMore Fr L Ky Tm
def ptr (b:Nat):Value:=.pointer (some ⟨b,0,none⟩)
def ptrK:Kd Nat:=Kd.scalar ptr (fun _=>rfl)
/-- The package's options. -/
structure Op where
 max:Int
 mult:Int
 tmul:Int
 zero:Int
 base:Int
 tab:Int
 mem:Int
 disc:Int
def optC (o:Op):Array Value:=#[.int .i64 o.max,.int .i64 o.mult,.int .i64 o.tmul,.int .i64 o.zero,.int .i64 o.base,.int .i64 o.tab,.int .i64 o.mem,.int .u64 o.disc]
/-- A table's block, its keys' blocks; all in F. -/
structure TabF (w:World) (F:Nat→Prop) (p:Nat) (t:Tb):Prop where
 inn:F p
 blk:∃ b c,w.heap[p]? = some (.cells (tabC t b c).toArray 98 (0,0))∧(F b∧w.heap[b]? = some (keyO t.small))∧(F c∧w.heap[c]? = some (keyO t.big))
/-- A row of pointers, in F. -/
def RowF (w:World) (F:Nat→Prop) (e:Nat) (v:Value) (ps:List Nat):Prop:=
 ∃ A c,v=.slice A ps.length c∧ps.length≤c∧(0<ps.length→∃ b cs,A=some ⟨b,0,none⟩∧F b∧w.heap[b]? = some (.cells cs e (0,0))∧∀ (j p:Nat),ps[j]? = some p→cs[j]? = some (ptr p))
def total (ts:List Tb):Int:=(ts.map (·.bytes)).sum
def stales (ts:List Tb):Int:=(ts.map (·.stale)).sum
/-- A level: its handler's block, its row, the tables' blocks, the tables. -/
structure Hd where
 hp:Nat
 tv:Value
 ps:List Nat
 ts:List Tb
structure LevF (w:World) (F:Nat→Prop) (ob i:Nat) (h:Hd):Prop where
 inn:F h.hp
 blk:w.heap[h.hp]? = some (.cells #[h.tv,.int .i64 (total h.ts),.int .i64 (stales h.ts),.int .i64 (i:Int),ptr ob] 132 (0,0))
 row:RowF w F 140 h.tv h.ps
 len:h.ps.length=h.ts.length
 tab:∀ (j p:Nat) (t:Tb),h.ps[j]? = some p→h.ts[j]? = some t→TabF w F p t
theorem TabF.move {w w1:World} {F:Nat→Prop} {p:Nat} {t:Tb} (h:TabF w F p t) (hk:∀ b,F b→w1.heap[b]? = w.heap[b]?):TabF w1 F p t:=by
 obtain ⟨h0,b,c,h1,h2,h3⟩:=h
 exact ⟨h0,b,c,(hk _ h0).trans h1,⟨h2.1,(hk _ h2.1).trans h2.2⟩,⟨h3.1,(hk _ h3.1).trans h3.2⟩⟩
theorem TabF.mono {w:World} {F F2:Nat→Prop} {p:Nat} {t:Tb} (h:TabF w F p t) (hk:∀ b,F b→b<w.heap.size→F2 b):TabF w F2 p t:=by
 obtain ⟨h0,b,c,h1,h2,h3⟩:=h
 exact ⟨hk _ h0 (blk_lt h1),b,c,h1,⟨hk _ h2.1 (blk_lt h2.2),h2.2⟩,⟨hk _ h3.1 (blk_lt h3.2),h3.2⟩⟩
theorem RowF.move {w w1:World} {F:Nat→Prop} {e:Nat} {v:Value} {ps:List Nat} (h:RowF w F e v ps) (hk:∀ b,F b→w1.heap[b]? = w.heap[b]?):RowF w1 F e v ps:=by
 obtain ⟨A,c,h1,h2,h3⟩:=h
 refine ⟨A,c,h1,h2,fun hp=>?_⟩
 obtain ⟨b,cs,e1,e2,e3,e4⟩:=h3 hp
 exact ⟨b,cs,e1,e2,(hk _ e2).trans e3,e4⟩
theorem RowF.mono {w:World} {F F2:Nat→Prop} {e:Nat} {v:Value} {ps:List Nat} (h:RowF w F e v ps) (hk:∀ b,F b→b<w.heap.size→F2 b):RowF w F2 e v ps:=by
 obtain ⟨A,c,h1,h2,h3⟩:=h
 refine ⟨A,c,h1,h2,fun hp=>?_⟩
 obtain ⟨b,cs,e1,e2,e3,e4⟩:=h3 hp
 exact ⟨b,cs,e1,hk _ e2 (blk_lt e3),e3,e4⟩
theorem LevF.move {w w1:World} {F:Nat→Prop} {ob i:Nat} {h:Hd} (hl:LevF w F ob i h) (hk:∀ b,F b→w1.heap[b]? = w.heap[b]?):LevF w1 F ob i h:=
 ⟨hl.inn,(hk _ hl.inn).trans hl.blk,hl.row.move hk,hl.len,fun j p t h1 h2=>(hl.tab j p t h1 h2).move hk⟩
theorem LevF.mono {w:World} {F F2:Nat→Prop} {ob i:Nat} {h:Hd} (hl:LevF w F ob i h) (hk:∀ b,F b→b<w.heap.size→F2 b):LevF w F2 ob i h:=
 ⟨hk _ hl.inn (blk_lt hl.blk),hl.blk,hl.row.mono hk,hl.len,fun j p t h1 h2=>(hl.tab j p t h1 h2).mono hk⟩
/-- The i-th of a row of pointers, as the walk reads it. -/
theorem RowF.at_ {w:World} {F:Nat→Prop} {e:Nat} {v:Value} {ps:List Nat} (h:RowF w F e v ps) {j p:Nat} (hj:ps[j]? = some p) :
  ∃ b c,v=.slice (some ⟨b,0,none⟩) ps.length c∧w.cell? ⟨b,j,none⟩=some (ptr p):=by
 obtain ⟨A,c,h1,h2,h3⟩:=h
 obtain ⟨b,cs,rfl,e2,e3,e4⟩:=h3 (by have:=(List.getElem?_eq_some_iff.1 hj).1;omega)
 exact ⟨b,c,h1,by rw [blk_cell e3];exact e4 j p hj⟩
/-- All levels, and what they are planned by: what never turns. -/
structure Stat (w:World) (F:Nat→Prop) (sb ob mb:Nat) (lv cv:Value) (hs:List Hd) (cs:List Nat) (o:Op):Prop where
 ctl:F sb∧w.heap[sb]? = some (.cells #[lv,ptr ob,cv,.map (some mb)] 123 (0,0))
 opt:F ob∧w.heap[ob]? = some (.cells (optC o) 100 (0,0))
 lrow:RowF w F 115 lv (hs.map (·.hp))
 crow:RowF w F 142 cv cs
 lev:∀ (i:Nat) (h:Hd),hs[i]? = some h→LevF w F ob i h
theorem Stat.move {w w1:World} {F:Nat→Prop} {sb ob mb:Nat} {lv cv:Value} {hs:List Hd} {cs:List Nat} {o:Op} (h:Stat w F sb ob mb lv cv hs cs o) (hk:∀ b,F b→w1.heap[b]? = w.heap[b]?):Stat w1 F sb ob mb lv cv hs cs o:=
 ⟨⟨h.ctl.1,(hk _ h.ctl.1).trans h.ctl.2⟩,⟨h.opt.1,(hk _ h.opt.1).trans h.opt.2⟩,h.lrow.move hk,h.crow.move hk,fun i x hx=>(h.lev i x hx).move hk⟩
theorem cell_far {w:World} {p q:Addr} {v u:Value} (h:w.cell? q=some v) (hne:q.block≠p.block):(w.setCell p u).cell? q=some v:=by
 have:=Below.heap_setCell w p u q.block hne
 simpa [World.cell?,this] using h
theorem cell_same {w:World} {p q:Addr} {v u:Value} (h:w.cell? q=some v) (hne:q≠p):(w.setCell p u).cell? q=some v:=by
 rw [World.cell?_setCell_other w p q u (fun e=>hne e.symm)];exact h
/-! ### a level's sizes -/
set_option maxRecDepth 100000 in
set_option maxHeartbeats 1000000 in
theorem addSize_calls {w:World} {hp p:Nat} {a b s:Int} {t:Int} (h1:w.cell? ⟨hp,1,none⟩=some (.int .i64 a)) (h2:w.cell? ⟨hp,2,none⟩=some (.int .i64 b)) (f1:w.frozen? ⟨hp,1,none⟩=false) (f2:w.frozen? ⟨hp,2,none⟩=false)
  (c3:w.cell? ⟨p,3,none⟩=some (.int .i64 s)) (c5:w.cell? ⟨p,5,none⟩=some (.int .u32 t)) (hne:p≠hp) (hs:0≤s∧s≤17179869184) (ht:0≤t∧t≤1073741824) (ha:0≤a∧a≤1000000000000000) (hb:0≤b∧b≤1000000000000000) :
  Calls Tryz.prog 109 #[ptr hp,ptr p] w fun e w'=>e=.returned (.tuple #[])∧∃ q,w'=((w.setCell ⟨hp,1,none⟩ (.int .i64 (a+s))).setCell ⟨hp,2,none⟩ (.int .i64 (b+t))).drewN q:=by
 have hne2:hp≠p:=fun e=>hne e.symm
 unfold ptr
 go_enter Tryz.func109,Tryz.ntmps109
 go_wp2_with fail
 refine wp_region_still_tail 9 (by kernel_rfl) (by kernel_rfl) ?_
 simp only [List.take_succ_cons,List.take_zero,List.drop_succ_cons,List.drop_zero]
 repeat still_step
 still_call ((size_calls (w:=w.drew) c3).mono fun _ _ ⟨a,b⟩=>⟨a,b.symm⟩)
 repeat still_step
 refine wpStill_nil ?_
 change wpList _ _ _ _ _ w.drew
 go_upto_region 1 with (fail)
 obtain ⟨w1,hw1⟩ : ∃ w1,w1=(w.setCell ⟨hp,1,none⟩ (.int .i64 (a+s))).drew:=⟨_,rfl⟩
 rw [← hw1]
 have k1:w1.cell? ⟨hp,2,none⟩=some (.int .i64 b):=by rw [hw1];exact cell_same (q:=⟨hp,2,none⟩) h2 (u:=.int .i64 (a+s)) (p:=⟨hp,1,none⟩) (by simp)
 have k5:w1.cell? ⟨p,5,none⟩=some (.int .u32 t):=by rw [hw1];exact cell_far (q:=⟨p,5,none⟩) c5 (u:=.int .i64 (a+s)) (p:=⟨hp,1,none⟩) hne
 have g1:w1.frozen? ⟨hp,2,none⟩=false:=by rw [hw1];simpa using f2
 have HW:=hid hw1
 clear hw1 h1 h2 f1 f2 c3 c5
 refine wp_region_still_tail 10 (by kernel_rfl) (by kernel_rfl) ?_
 simp only [List.take_succ_cons,List.take_zero,List.drop_succ_cons,List.drop_zero]
 repeat still_step
 still_call ((stale_calls (w:=w1.drew) k5).mono fun _ _ ⟨a,b⟩=>⟨a,b.symm⟩)
 repeat still_step
 refine wpStill_nil ?_
 change wpList _ _ _ _ _ w1.drew
 go_wp2_with fail
 go_end0
 exact ⟨rfl,2,by rw [HW.out];rfl⟩
end Go.Proofs.YtnineoajmgneiaaGreat.Lm
namespace Go.Proofs.YtnineoajmgneiaaGreat.Sr
open Go.Shelf Go.RowKit Go.Lib Go.Sort YtnineoajmgneiaaGreatW.PrintWords Fr Ky Lm
open YtnineoajmgneiaaGreat.Od (ord onFin swo_fin inh sorted_facts)
noncomputable def siT:TypeInfo:=(Tryz.prog.info? 124).get (by kernel_rfl)
noncomputable def siE:TypeInfo:=(Tryz.prog.info? 140).get (by kernel_rfl)
theorem siK (n:Nat) (h2:2≤n):Lib.swapperK n siE 22=3:=by
 have a:siE.hasPointers=true:=by kernel_rfl
 have b:siE.bytes=8:=by kernel_rfl
 have c:(n == 0)=false:=by simp;omega
 have d:(n == 1)=false:=by simp;omega
 simp [Lib.swapperK,a,b,c,d]
theorem grow_blk (w:World) (os:Array Obj) (i:Nat) (h:i<w.heap.size):(grow w os).heap[i]? = w.heap[i]?:=by
 simp only [grow]
 rw [Array.getElem?_append_left h]
theorem kp_grow (w:World) (os:Array Obj) (S:Nat→Prop):Kp w (grow w os) S:=
 ⟨⟨rfl,rfl,rfl,by simp,fun i hi=>absurd hi (Nat.not_lt_zero _)⟩,fun i hi _=>grow_blk w os i hi⟩
section
variable {α:Type} [Inhabited α] (enc:α→Value)
theorem put_blk (w:World) (n g:Nat) (d:Array α) (os:Array Obj) (i:Nat) (hi:i<w.heap.size) (hne:i≠g):(grow (putRow enc (Sort.ahead w n) g 0 d) os).heap[i]? = w.heap[i]?:=by
 rw [grow_blk _ _ _ (by simpa [putRow,mapBlock,Sort.ahead] using hi)]
 simp [putRow,mapBlock,Sort.ahead,Array.getElem?_modify,Ne.symm hne]
theorem put_own (w:World) (n g t:Nat) (d:Array α) (os:Array Obj) (cur:Array Value) (hb:w.heap[g]? = some (.cells cur t (0,0))):(grow (putRow enc (Sort.ahead w n) g 0 d) os).heap[g]? = some (.cells (putCells enc 0 d cur) t (0,0)):=by
 rw [grow_blk _ _ _ (by simpa [putRow,mapBlock,Sort.ahead] using blk_lt hb)]
 simp [putRow,mapBlock,Sort.ahead,Array.getElem?_modify,hb,onCells]
theorem kp_put (w:World) (n g:Nat) (d:Array α) (os:Array Obj):Kp w (grow (putRow enc (Sort.ahead w n) g 0 d) os) (fun i=>some g=some i):=
 ⟨⟨rfl,rfl,rfl,by simp [putRow,mapBlock,Sort.ahead],fun i hi=>absurd hi (Nat.not_lt_zero _)⟩,fun i hi hn=>put_blk enc w n g d os i hi (fun e=>hn (by rw [e]))⟩
theorem take_put (d:Array α) (cur:Array Value) (h:d.size≤cur.size):(putCells enc 0 d cur).toList.take (d.size*1)=encs enc d.toList:=by
 refine List.ext_getElem? (fun j=>?_)
 rw [Nat.mul_one,List.getElem?_take]
 by_cases hj:j<d.size
 ·rw [if_pos hj]
  have hjc:j<cur.size:=by omega
  simp [putCells,encs,hj,hjc]
 ·rw [if_neg hj]
  simp [encs,Nat.le_of_not_lt hj]
end
theorem tiny_calls (p:Option Addr) (n c:Nat) (h1:n≤1) (lf:Fn) (la lb:Array Value) (w:World) :
  Calls Tryz.prog 88 #[.iface 124 (.slice p n c),.func lf la lb] w fun e w'=>e=.returned (.tuple #[])∧∃ os,w'=grow w os:=by
 have k0:Lib.swapperK n siE 22=if n=0 then 1 else 2:=by
  rcases (show n=0∨n=1 by omega) with rfl | rfl<;>rfl
 rcases (show n=0∨n=1 by omega) with rfl | rfl
 ·exact Any.sort_Slice_tiny Tryz.laysGg6 124 140 siT siE (by kernel_rfl) (by kernel_rfl) (by kernel_rfl) (by kernel_rfl) 22 (fun _=>by kernel_rfl) p 0 c h1 137 (by rw [k0];kernel_rfl) lf la lb w
 ·exact Any.sort_Slice_tiny Tryz.laysGg6 124 140 siT siE (by kernel_rfl) (by kernel_rfl) (by kernel_rfl) (by kernel_rfl) 22 (fun _=>by kernel_rfl) p 1 c h1 138 (by rw [k0];kernel_rfl) lf la lb w
/-- What is asked of the comparison: in every world in which the row's places are shuffled and all else that was there is as it was, it answers by the places. -/
def Less (w:World) (g:Nat) (lb:Array Value) (v:Value) (ps:List Nat) (lt:Nat→Nat→Bool):Prop:=
 ∀ (W:World) (σ:Nat→Nat),(∀ t,t<ps.length→σ t<ps.length)→(∀ blk c,v=.slice (some ⟨blk,0,none⟩) ps.length c→∀ t,t<ps.length→W.cell? ⟨blk,t,none⟩=some (ptr (ps.getD (σ t) 0)))→(∀ k,k<w.heap.size→v.ownBlock≠some k→W.heap[k]? = w.heap[k]?) →
  ∀ i j,i<ps.length→j<ps.length→Calls Tryz.prog g (#[.int .i64 (i:Int),.int .i64 (j:Int)]++lb) W fun e w'=>e=.returned (.bool (lt (σ i) (σ j)))∧∃ q,w'=W.drewN q
def SortPost (w:World) (base:Nat) (v:Value) (ps:List Nat) (lt:Nat→Nat→Bool) (e:Ending) (w':World):Prop:=
 e=.returned (.tuple #[])∧ptrK.R 140 w' base (fun _=>True) v ((ord ps.length lt).map fun i=>ps.getD i 0)∧Kp w w' (fun i=>v.ownBlock=some i)
theorem map_range_getD (ps:List Nat):(List.range ps.length).map (fun i=>ps.getD i 0)=ps:=by
 refine List.ext_getElem? (fun i=>?_)
 rw [List.getElem?_map]
 by_cases h:i<ps.length
 ·rw [List.getElem?_range h];simp [h]
 ·rw [List.getElem?_eq_none (by simpa using h),List.getElem?_eq_none (by omega)];rfl
set_option maxRecDepth 100000 in
set_option maxHeartbeats 2000000 in
theorem sort_row {w:World} {base:Nat} {v:Value} {ps:List Nat} (hr:ptrK.R 140 w base (fun _=>True) v ps) (hlen:ps.length≤1000000000000) (g:Nat) (lb:Array Value) (eg:∀ args w,(callFunc g args).run Tryz.prog w=.ok (.enter g args) w)
  (lt:Nat→Nat→Bool) (hO:Od.SW ps.length lt) (hless:Less w g lb v ps lt) :
  Calls Tryz.prog 88 #[.iface 124 v,.func (.func g) #[] lb] w (SortPost w base v ps lt):=by
 have tiny:∀ p n c,v=.slice p n c→n≤1→ps.length=n→Calls Tryz.prog 88 #[.iface 124 v,.func (.func g) #[] lb] w (SortPost w base v ps lt):=fun p n c hv hn hl=>by
  rw [hv]
  refine (tiny_calls p n c hn _ _ _ w).mono fun e w' ⟨he,os,hw⟩=>⟨he,?_,?_⟩
  ·have ho:ord ps.length lt=List.range ps.length:=by unfold ord;rw [dif_neg (by omega)]
   rw [ho,map_range_getD,← hv,hw]
   exact Kd.R_step hr (fun k _ hk=>grow_blk w os k hk)
  ·rw [hw];exact kp_grow w os _
 have ho:=Kd.own_of_R (enc:=ptr) (h1:=fun _=>rfl) hr
 rcases ho.2 with ⟨hv,h0⟩ | ⟨blk,cap,cur,hv,hlo,hb,hc1,hc2,hc3,hc4⟩
 ·exact tiny none 0 0 hv (by omega) h0
 ·by_cases h2:ps.length≤1
  ·exact tiny _ _ _ hv h2 rfl
  ·have h22:2≤ps.length:=by omega
   obtain ⟨n,hn⟩ : ∃ n,n=ps.length:=⟨_,rfl⟩
   rw [← hn] at h22 hO
   letI:Inhabited (Fin n):=inh h22
   let enc:Fin n→Value:=fun i=>ptr (ps.getD i.val 0)
   have hds:(Array.finRange n).size=n:=by simp
   have hget:∀ j (hj:j<n),(Array.finRange n)[j]! = ⟨j,hj⟩:=fun j hj=>by
    rw [getElem!_pos (Array.finRange n) j (by simpa using hj)]
    simp [Array.finRange]
   have hH:Holds enc w blk 0 (Array.finRange n):=fun j hj=>by
    rw [hds] at hj
    refine ⟨?_,blk_frozen hb _⟩
    rw [Nat.zero_add,blk_cell hb j,hget j hj]
    have h5:(cur.toList.take (ps.length*1))[j]? = (encs ptr ps)[j]?:=by rw [hc4]
    rw [Nat.mul_one,List.getElem?_take,if_pos (by omega)] at h5
    have h6:cur[j]? = cur.toList[j]?:=by simp
    rw [h6,h5]
    have hjp:j<ps.length:=by omega
    simp [encs,hjp,enc]
   subst hv
   have hgs:blk<w.heap.size:=blk_lt hb
   have hless2:LessReads Tryz.prog g lb enc (onFin n lt) blk 0 (Array.finRange n).size w:=by
    intro m os dk hs i j hi hj
    rw [hds] at hs hi hj
    have e:sortWorld enc w blk 0 m dk os=grow (putRow enc (Sort.ahead w m) blk 0 dk) os:=rfl
    have hHg:Holds enc (grow (Sort.ahead w m) os) blk 0 (Array.finRange n):=holds_grow _ _ _ blk 0 _ hgs (holds_ahead _ _ _ _ _ _ hH)
    have e2:sortWorld enc w blk 0 m dk os=putRow enc (grow (Sort.ahead w m) os) blk 0 dk:=by
     unfold sortWorld;rw [putRow_grow _ (Sort.ahead w m) _ blk 0 _ hgs]
    have hcells:∀ t,t<n→(sortWorld enc w blk 0 m dk os).cell? ⟨blk,t,none⟩=some (ptr (ps.getD (dk[t]!).val 0)):=fun t ht=>by
     rw [e2]
     have:=cell?_putRow enc (grow (Sort.ahead w m) os) blk 0 (Array.finRange n) dk hHg (by rw [hds];exact hs) t (by omega)
     rwa [Nat.zero_add] at this
    have:=hless (sortWorld enc w blk 0 m dk os) (fun t=>(dk[t]!).val) (fun t ht=>by rw [← hn];exact (dk[t]!).isLt) (fun blk2 c2 hv2 t ht=>by
     injection hv2 with q1 q2 q3
     injection q1 with q1
     injection q1 with q1
     rw [← q1]
     exact hcells t (by omega)) (fun k hk hne=>by rw [e];exact put_blk enc w m blk dk os k hk (fun e3=>hne (by rw [e3];rfl))) i j (by omega) (by omega)
    exact this
   have hS:=Any.sort_Slice_eq Tryz.laysGg6 124 140 siT siE (by kernel_rfl) (by kernel_rfl) (by kernel_rfl) (by kernel_rfl) 22 (fun _=>by kernel_rfl) (by kernel_rfl) (fun _=>by kernel_rfl) enc (fun _=>rfl) (onFin n lt) (swo_fin hO) g lb eg blk 0 cap (Array.finRange n) (by rw [hds];exact h22) (by rw [hds];omega) 139 (by rw [hds,siK _ h22];kernel_rfl) true
    (fun args W=>run_callFunc_extern Tryz.func139 (by kernel_rfl) (by kernel_rfl) (by kernel_rfl) (e:=Extern.ReflectliteSwapper.swap true) (by kernel_rfl) args W) w hless2 hH hgs
   have es:pdq (onFin n lt) (Array.finRange n) 0 (Array.finRange n).size (Lib.bitLen (Array.finRange n).size) true true=Od.sorted n h22 lt:=by rw [hds];rfl
   rw [es,hds] at hS
   suffices hX:Calls Tryz.prog 88 #[.iface 124 (.slice (some ⟨blk,0,none⟩) n cap),.func (.func g) #[] lb] w (SortPost w base (.slice (some ⟨blk,0,none⟩) n cap) ps lt) by rw [hn] at hX;exact hX
   refine hS.mono fun e w' ⟨he,k,os,hw⟩=>⟨he,?_,?_⟩
   ·have hsz:=(sorted_facts h22 hO).1
    have hord:(ord ps.length lt).map (fun i=>ps.getD i 0)=(Od.sorted n h22 lt).toList.map (fun i=>ps.getD i.val 0):=by
     rw [← hn];unfold ord;rw [dif_pos h22,List.map_map];rfl
    have hl2:((Od.sorted n h22 lt).toList.map (fun i=>ps.getD i.val 0)).length=ps.length:=by simp [hsz,hn]
    rw [hord,hw]
    refine Kd.R_of_own (xs:=(Od.sorted n h22 lt).toList.map (fun i=>ps.getD i.val 0)) ⟨by simp [encs],.inr ⟨blk,cap,putCells enc 0 (Od.sorted n h22 lt) cur,?_,hlo,put_own enc w k blk 140 _ os cur hb,?_,hc2,?_,?_⟩⟩ (fun _ _=>trivial)
    ·rw [hl2,hn]
    ·rw [hl2];exact hc1
    ·rw [← hc3];simp [putCells]
    ·have:=take_put enc (Od.sorted n h22 lt) cur (by rw [hsz,hc3];omega)
     rw [hl2,show ps.length=(Od.sorted n h22 lt).size from (hsz.trans hn).symm,this]
     simp [encs,enc,Function.comp_def]
   ·rw [hw]
    exact (kp_put enc w k blk _ os).mono (fun i hi=>hi)
end Go.Proofs.YtnineoajmgneiaaGreat.Sr
namespace Go.Proofs.YtnineoajmgneiaaGreat.Ls
open Lib (hid)
open Go.RowKit YtnineoajmgneiaaGreatW.PrintWords Fr Ky Tm Lm Sr
/-- A table's cells and keys, as they stand. -/
def TabH (w:World) (p:Nat) (t:Tb):Prop:=∃ b c,w.heap[p]? = some (.cells (tabC t b c).toArray 98 (0,0))∧w.heap[b]? = some (keyO t.small)∧w.heap[c]? = some (keyO t.big)
set_option maxRecDepth 100000 in
set_option maxHeartbeats 2000000 in
theorem less_id {W:World} {Bs hp blk n c i j p q:Nat} {a b:Int} (hB:W.cell? ⟨Bs,0,none⟩=some (ptr hp)) (hH:W.cell? ⟨hp,0,none⟩=some (.slice (some ⟨blk,0,none⟩) n c))
  (ci:W.cell? ⟨blk,i,none⟩=some (ptr p)) (cj:W.cell? ⟨blk,j,none⟩=some (ptr q)) (hi:i<n) (hj:j<n) (hn:n≤1000000000000) (ka:W.cell? ⟨p,0,none⟩=some (.int .u64 a)) (kb:W.cell? ⟨q,0,none⟩=some (.int .u64 b)) :
  Calls Tryz.prog 110 #[.int .i64 (i:Int),.int .i64 (j:Int),ptr Bs] W fun e w'=>e=.returned (.bool (decide (a<b)))∧∃ q,w'=W.drewN q:=by
 unfold ptr at *
 have HA:=hid (fun k=>q_same (id_calls (w:=W.drewN k) (p:=p) ka))
 have HB:=hid (fun k=>q_same (id_calls (w:=W.drewN k) (p:=q) kb))
 clear ka kb
 go_enter Tryz.func110,Tryz.ntmps110
 go_wp2
 go_quiet ((first | (go_at_call 104;with_reducible exact HA.out _) | (go_at_call 104;with_reducible exact HB.out _)))
 go_wp2
 go_ret
 exact ⟨rfl,nq,rfl⟩
set_option maxRecDepth 100000 in
set_option maxHeartbeats 2000000 in
theorem less_key {W:World} {Bs hp blk n c i j p q:Nat} {u v:Value} {x y:List UInt8} (hB:W.cell? ⟨Bs,0,none⟩=some (ptr hp)) (hH:W.cell? ⟨hp,0,none⟩=some (.slice (some ⟨blk,0,none⟩) n c))
  (ci:W.cell? ⟨blk,i,none⟩=some (ptr p)) (cj:W.cell? ⟨blk,j,none⟩=some (ptr q)) (hi:i<n) (hj:j<n) (hn:n≤1000000000000) (ka:W.cell? ⟨p,1,none⟩=some u) (kb:W.cell? ⟨q,1,none⟩=some v)
  (hu:KeyAt W u x) (hv:KeyAt W v y) (hx:8≤x.length) (hy:8≤y.length) (hx2:x.length≤4611686018427387904) (hy2:y.length≤4611686018427387904) :
  Calls Tryz.prog 111 #[.int .i64 (i:Int),.int .i64 (j:Int),ptr Bs] W fun e w'=>e=.returned (.bool (decide (cmpK x y<0)))∧∃ q,w'=W.drewN q:=by
 unfold ptr at *
 have HA:=hid (fun k=>q_same (smallest_calls (w:=W.drewN k) (p:=p) ka))
 have HB:=hid (fun k=>q_same (smallest_calls (w:=W.drewN k) (p:=q) kb))
 have HC:=hid (fun k=>Calls.quiet_of (compareKeys_at (w:=W.drewN k) hu hv hx hy hx2 hy2))
 clear ka kb hu hv hx hy hx2 hy2
 generalize cmpK x y=r at *
 go_enter Tryz.func111,Tryz.ntmps111
 go_wp2
 go_quiet ((first | (go_at_call 113;with_reducible exact HA.out _) | (go_at_call 113;with_reducible exact HB.out _) | (go_at_call 112;with_reducible exact HC.out _)))
 go_wp2
 go_ret
 exact ⟨rfl,nq,rfl⟩
set_option maxRecDepth 100000 in
set_option maxHeartbeats 2000000 in
theorem less_ver {W:World} {Bs blk n c i j p q:Nat} {a b:Int} (hB:W.cell? ⟨Bs,0,none⟩=some (.slice (some ⟨blk,0,none⟩) n c))
  (ci:W.cell? ⟨blk,i,none⟩=some (ptr p)) (cj:W.cell? ⟨blk,j,none⟩=some (ptr q)) (hi:i<n) (hj:j<n) (hn:n≤1000000000000) (ka:W.cell? ⟨p,4,none⟩=some (.int .u64 a)) (kb:W.cell? ⟨q,4,none⟩=some (.int .u64 b)) :
  Calls Tryz.prog 127 #[.int .i64 (i:Int),.int .i64 (j:Int),ptr Bs] W fun e w'=>e=.returned (.bool (decide (a<b)))∧∃ q,w'=W.drewN q:=by
 unfold ptr at *
 have HA:=hid (fun k=>q_same (maxVersion_calls (w:=W.drewN k) (p:=p) ka))
 have HB:=hid (fun k=>q_same (maxVersion_calls (w:=W.drewN k) (p:=q) kb))
 clear ka kb
 go_enter Tryz.func127,Tryz.ntmps127
 go_wp2
 go_quiet ((first | (go_at_call 126;with_reducible exact HA.out _) | (go_at_call 126;with_reducible exact HB.out _)))
 go_wp2
 go_ret
 exact ⟨rfl,nq,rfl⟩
/-! ### the row's tables, in any order -/
/-- The tables of a row of pointers. -/
def Tabs (w:World) (ps:List Nat) (ts:List Tb):Prop:=ps.length=ts.length∧∀ (i:Nat) (p:Nat) (t:Tb),ps[i]? = some p→ts[i]? = some t→TabH w p t
def zT:Tb:=⟨0,[],[],0,0,0,0⟩
def tAt (ts:List Tb) (i:Nat):Tb:=ts.getD i zT
theorem tabs_at {w:World} {ps:List Nat} {ts:List Tb} (h:Tabs w ps ts) {i:Nat} (hi:i<ps.length):TabH w (ps.getD i 0) (tAt ts i):=by
 have hl:=h.1
 refine h.2 i _ _ ?_ ?_
 ·simp [hi]
 ·have:i<ts.length:=by omega
  simp [tAt,this]
/-- Blocks that are no row of pointers. -/
theorem other {w:World} {base:Nat} {v:Value} {ps:List Nat} (hr:ptrK.R 140 w base (fun _=>True) v ps) {k t:Nat} {cs:Array Value} (hk:w.heap[k]? = some (.cells cs t (0,0))) (ht:t≠140):k<w.heap.size∧v.ownBlock≠some k:=by
 refine ⟨blk_lt hk,fun e=>?_⟩
 obtain ⟨cells,hc⟩:=Kd.R_typed hr k e
 rw [hk] at hc
 injection hc with hc
 injection hc with h1 h2 h3
 exact ht h2
theorem tabH_move {w W:World} {base:Nat} {v:Value} {ps:List Nat} (hr:ptrK.R 140 w base (fun _=>True) v ps) (hk:∀ k,k<w.heap.size→v.ownBlock≠some k→W.heap[k]? = w.heap[k]?) {p:Nat} {t:Tb} (h:TabH w p t):TabH W p t:=by
 obtain ⟨b,c,h1,h2,h3⟩:=h
 have o1:=other hr h1 (by decide)
 have o2:=other hr h2 (by decide)
 have o3:=other hr h3 (by decide)
 exact ⟨b,c,(hk _ o1.1 o1.2).trans h1,(hk _ o2.1 o2.2).trans h2,(hk _ o3.1 o3.2).trans h3⟩
theorem form_of {w:World} {base:Nat} {v:Value} {ps:List Nat} (hr:ptrK.R 140 w base (fun _=>True) v ps) (hp:0<ps.length):∃ blk c,v=.slice (some ⟨blk,0,none⟩) ps.length c:=by
 obtain ⟨g,cap,h,_⟩:=Kd.R_form hr hp
 exact ⟨g,cap,h⟩
/-- By numbers. -/
theorem lessId {w:World} {base:Nat} {v:Value} {ps:List Nat} {ts:List Tb} {Bs hp:Nat} {x1 x2 x3 x4:Value} (hr:ptrK.R 140 w base (fun _=>True) v ps) (hn:ps.length≤1000000000000) (ht:Tabs w ps ts)
  (hB:w.heap[Bs]? = some (.cells #[ptr hp] 115 (0,0))) (hH:w.heap[hp]? = some (.cells #[v,x1,x2,x3,x4] 132 (0,0))):Less w 110 #[ptr Bs] v ps (fun i j=>decide ((tAt ts i).num<(tAt ts j).num)):=by
 intro W σ hσ hrow hk i j hi hj
 obtain ⟨blk,c,hv⟩:=form_of hr (by omega)
 have o1:=other hr hB (by decide)
 have o2:=other hr hH (by decide)
 have b1:=(hk _ o1.1 o1.2).trans hB
 have b2:=(hk _ o2.1 o2.2).trans hH
 obtain ⟨_,_,t1,_,_⟩:=tabH_move hr hk (tabs_at ht (hσ i hi))
 obtain ⟨_,_,t2,_,_⟩:=tabH_move hr hk (tabs_at ht (hσ j hj))
 have c1:=blk_cell b2 0
 rw [hv] at c1
 exact less_id (blk_cell b1 0) c1 (hrow blk c hv i hi) (hrow blk c hv j hj) hi hj hn (blk_cell t1 0) (blk_cell t2 0)
/-- Keys of a table that are no longer than any text may be. -/
structure KeyLen (t:Tb):Prop where
 s0:8≤t.small.length
 s1:t.small.length≤100000000
 b0:8≤t.big.length
 b1:t.big.length≤100000000
theorem lessKey {w:World} {base:Nat} {v:Value} {ps:List Nat} {ts:List Tb} {Bs hp:Nat} {x1 x2 x3 x4:Value} (hr:ptrK.R 140 w base (fun _=>True) v ps) (hn:ps.length≤1000000000000) (ht:Tabs w ps ts) (hl:∀ t∈ts,KeyLen t)
  (hB:w.heap[Bs]? = some (.cells #[ptr hp] 115 (0,0))) (hH:w.heap[hp]? = some (.cells #[v,x1,x2,x3,x4] 132 (0,0))):Less w 111 #[ptr Bs] v ps (fun i j=>decide (cmpK (tAt ts i).small (tAt ts j).small<0)):=by
 intro W σ hσ hrow hk i j hi hj
 obtain ⟨blk,c,hv⟩:=form_of hr (by omega)
 have o1:=other hr hB (by decide)
 have o2:=other hr hH (by decide)
 have b1:=(hk _ o1.1 o1.2).trans hB
 have b2:=(hk _ o2.1 o2.2).trans hH
 obtain ⟨_,_,t1,k1,_⟩:=tabH_move hr hk (tabs_at ht (hσ i hi))
 obtain ⟨_,_,t2,k2,_⟩:=tabH_move hr hk (tabs_at ht (hσ j hj))
 have c1:=blk_cell b2 0
 rw [hv] at c1
 have m1:tAt ts (σ i)∈ts:=by
  have h2:σ i<ts.length:=by have:=hσ i hi;have:=ht.1;omega
  simp [tAt,h2]
 have m2:tAt ts (σ j)∈ts:=by
  have h2:σ j<ts.length:=by have:=hσ j hj;have:=ht.1;omega
  simp [tAt,h2]
 have l1:=hl _ m1
 have l2:=hl _ m2
 exact less_key (blk_cell b1 0) c1 (hrow blk c hv i hi) (hrow blk c hv j hj) hi hj hn (blk_cell t1 1) (blk_cell t2 1) ⟨_,rfl,k1⟩ ⟨_,rfl,k2⟩ l1.s0 l2.s0 (Nat.le_trans l1.s1 (by decide)) (Nat.le_trans l2.s1 (by decide))
theorem lessVer {w:World} {base:Nat} {v:Value} {ps:List Nat} {ts:List Tb} {Bs:Nat} (hr:ptrK.R 140 w base (fun _=>True) v ps) (hn:ps.length≤1000000000000) (ht:Tabs w ps ts)
  (hB:w.heap[Bs]? = some (.cells #[v] 124 (0,0))):Less w 127 #[ptr Bs] v ps (fun i j=>decide ((tAt ts i).ver<(tAt ts j).ver)):=by
 intro W σ hσ hrow hk i j hi hj
 obtain ⟨blk,c,hv⟩:=form_of hr (by omega)
 have o1:=other hr hB (by decide)
 have b1:=(hk _ o1.1 o1.2).trans hB
 obtain ⟨_,_,t1,_,_⟩:=tabH_move hr hk (tabs_at ht (hσ i hi))
 obtain ⟨_,_,t2,_,_⟩:=tabH_move hr hk (tabs_at ht (hσ j hj))
 have c1:=blk_cell b1 0
 rw [hv] at c1
 exact less_ver c1 (hrow blk c hv i hi) (hrow blk c hv j hj) hi hj hn (blk_cell t1 4) (blk_cell t2 4)
end Go.Proofs.YtnineoajmgneiaaGreat.Ls
namespace Go.Proofs.YtnineoajmgneiaaGreat.It
open Lib (hid)
open Go.RowKit YtnineoajmgneiaaGreatW.PrintWords Fr Ky Tm Lm Sr Ls
open YtnineoajmgneiaaGreat.Od (ord)
theorem row_at {w:World} {base:Nat} {v:Value} {ps:List Nat} (hr:ptrK.R 140 w base (fun _=>True) v ps) {i:Nat} (hi:i<ps.length):∃ blk c,v=.slice (some ⟨blk,0,none⟩) ps.length c∧w.cell? ⟨blk,i,none⟩=some (ptr (ps.getD i 0)):=by
 obtain ⟨blk,c,hv⟩:=form_of hr (by omega)
 subst hv
 have hC:=(Kd.R_reads' hr).2.2
 obtain ⟨ad,e,hc⟩:=(Kd.reads_of_C (d:=0) hC).at_ i (by omega) (by omega)
 injection e with e
 subst e
 refine ⟨blk,c,rfl,?_⟩
 rw [Int.toNat_natCast,add_off,Nat.zero_add] at hc
 exact hc
/-- Besides one block of another type a row of pointers is what it was. -/
theorem row_kp {w w1:World} {base:Nat} {v:Value} {ps:List Nat} {hp t:Nat} {cs:Array Value} (hr:ptrK.R 140 w base (fun _=>True) v ps) (hb:w.heap[hp]? = some (.cells cs t (0,0))) (ht:t≠140) (hk:Kp w w1 (fun k=>k=hp)):ptrK.R 140 w1 base (fun _=>True) v ps:=by
 refine Kd.R_mono (Kd.R_kept (Kd.R_types hr hb ?_) hk.kept (fun k hk2=>hk2.2)) (fun _ _=>trivial)
 intro q hq
 have:q∈[140]:=hq
 rw [List.mem_singleton.1 this]
 exact fun e=>ht e.symm
theorem up1 {w:World} {i:Nat} {o p:Obj} (h:w.heap[i]? = some o):(w.alloc p).heap[i]? = some o:=(Below.heap_alloc _ p _ (blk_lt h)).trans h
theorem tabH_kp {w w1:World} {hp t:Nat} {cs:Array Value} (hb:w.heap[hp]? = some (.cells cs t (0,0))) (ht:t≠98) (ht5:t≠5) (hk:Kp w w1 (fun k=>k=hp)) {p:Nat} {x:Tb} (h:TabH w p x):TabH w1 p x:=by
 obtain ⟨b,c,h1,h2,h3⟩:=h
 exact ⟨b,c,hk.blk h1 (fun e=>blk_ne h1 hb (fun e2=>ht e2.symm) e),hk.blk h2 (fun e=>blk_ne h2 hb (fun e2=>ht5 e2.symm) e),hk.blk h3 (fun e=>blk_ne h3 hb (fun e2=>ht5 e2.symm) e)⟩
theorem tabs_kp {w w1:World} {hp t:Nat} {cs:Array Value} (hb:w.heap[hp]? = some (.cells cs t (0,0))) (ht:t≠98) (ht5:t≠5) (hk:Kp w w1 (fun k=>k=hp)) {ps:List Nat} {ts:List Tb} (h:Tabs w ps ts):Tabs w1 ps ts:=
 ⟨h.1,fun i p x h1 h2=>tabH_kp hb ht ht5 hk (h.2 i p x h1 h2)⟩
/-- Sizes that add up. -/
structure Fit (t:Tb):Prop where
 b:0≤t.bytes∧t.bytes≤17179869184
 s:0≤t.stale∧t.stale≤1073741824
theorem total_take {ts:List Tb} {j:Nat} (h:j<ts.length):total (ts.take (j+1))=total (ts.take j)+(tAt ts j).bytes:=by
 unfold total tAt
 rw [List.take_succ_eq_append_getElem h,List.map_append,List.sum_append]
 simp [h]
theorem stales_take {ts:List Tb} {j:Nat} (h:j<ts.length):stales (ts.take (j+1))=stales (ts.take j)+(tAt ts j).stale:=by
 unfold stales tAt
 rw [List.take_succ_eq_append_getElem h,List.map_append,List.sum_append]
 simp [h]
theorem total_bd:∀ {ts:List Tb},(∀ t∈ts,Fit t)→0≤total ts∧total ts≤17179869184*ts.length
 | [],_=>by simp [total]
 | t :: ts,h=>by
  have h1:=(h t List.mem_cons_self).b
  have h2:=total_bd (ts:=ts) (fun x hx=>h x (List.mem_cons_of_mem _ hx))
  have e:total (t :: ts)=t.bytes+total ts:=by simp [total]
  rw [e,List.length_cons]
  omega
theorem stales_bd:∀ {ts:List Tb},(∀ t∈ts,Fit t)→0≤stales ts∧stales ts≤1073741824*ts.length
 | [],_=>by simp [stales]
 | t :: ts,h=>by
  have h1:=(h t List.mem_cons_self).s
  have h2:=stales_bd (ts:=ts) (fun x hx=>h x (List.mem_cons_of_mem _ hx))
  have e:stales (t :: ts)=t.stale+stales ts:=by simp [stales]
  rw [e,List.length_cons]
  omega
theorem tAt_mem {ts:List Tb} {j:Nat} (h:j<ts.length):tAt ts j∈ts:=by simp [tAt,h]
/-- The order of a level's tables: by number in level 0, by key in any other one. -/
def ltOf (i:Nat) (ts:List Tb):Nat→Nat→Bool:=if i=0 then fun a b=>decide ((tAt ts a).num<(tAt ts b).num) else fun a b=>decide (cmpK (tAt ts a).small (tAt ts b).small<0)
def hdC (v:Value) (a b:Int) (i ob:Nat):Array Value:=#[v,.int .i64 a,.int .i64 b,.int .i64 (i:Int),ptr ob]
def InitPost (w:World) (base hp i ob:Nat) (v:Value) (ps:List Nat) (ts:List Tb) (e:Ending) (w':World):Prop:=
 e=.returned (.tuple #[])∧w'.heap[hp]? = some (.cells (hdC v (total ts) (stales ts) i ob) 132 (0,0))∧ptrK.R 140 w' base (fun _=>True) v ((ord ps.length (ltOf i ts)).map fun j=>ps.getD j 0)∧Kp w w' (fun k=>k=hp∨v.ownBlock=some k)
theorem init_end {w wr:World} {base hp i ob:Nat} {v:Value} {ps:List Nat} {ts:List Tb} (hk:Kp w wr (fun k=>k=hp)) (hr:ptrK.R 140 wr base (fun _=>True) v ps) (hb:wr.heap[hp]? = some (.cells (hdC v (total ts) (stales ts) i ob) 132 (0,0))) :
  ∀ (w2:World) (qs:List Nat),ptrK.R 140 w2 base (fun _=>True) v qs→Kp wr w2 (fun k=>v.ownBlock=some k)→(qs=((ord ps.length (ltOf i ts)).map fun j=>ps.getD j 0))→InitPost w base hp i ob v ps ts (.returned (.tuple #[])) w2:=by
 intro w2 qs h4 h5 hq
 subst hq
 have o:=other hr hb (by decide)
 refine ⟨rfl,h5.blk hb (fun e=>o.2 e),h4,?_⟩
 exact (hk.mono (fun k h=>.inl h)).trans (h5.mono (fun k h=>.inr h)) (fun k h=>.inl h)
set_option maxRecDepth 100000 in
set_option maxHeartbeats 4000000 in
theorem init_calls {w:World} {base hp i ob:Nat} {v x0 x1 x2:Value} {ps:List Nat} {ts:List Tb} (hr:ptrK.R 140 w base (fun _=>True) v ps) (hn:ps.length≤50000) (ht:Tabs w ps ts) (hl:∀ t∈ts,KeyLen t) (hf:∀ t∈ts,Fit t)
  (hb:w.heap[hp]? = some (.cells #[x0,x1,x2,.int .i64 (i:Int),ptr ob] 132 (0,0))) (hi:i≤100) (hO:Od.SW ps.length (ltOf i ts)) :
  Calls Tryz.prog 80 #[ptr hp,v] w (InitPost w base hp i ob v ps ts):=by
 obtain ⟨A,c,hv⟩:=Kd.R_slice hr
 subst hv
 have HR:=hid hr
 have HT:=hid ht
 have HL:=hid hl
 have HF:=hid hf
 have HB:=hid hb
 have HO:=hid hO
 have h0:=blk_cell hb 0
 have h1:=blk_cell hb 1
 have h2:=blk_cell hb 2
 have z0:=blk_frozen hb 0
 have z1:=blk_frozen hb 1
 have z2:=blk_frozen hb 2
 have hz:=blk_lt hb
 clear hr ht hl hf hb hO
 unfold ptr
 go_enter Tryz.func80,Tryz.ntmps80
 go_upto_region 4 with (fail)
 obtain ⟨w1,hw1⟩ : ∃ w1,w1=(((w.setCell ⟨hp,0,none⟩ (.slice A ps.length c)).setCell ⟨hp,1,none⟩ (.int .i64 0)).setCell ⟨hp,2,none⟩ (.int .i64 0)).alloc (.cells #[.pointer (some ⟨hp,0,none⟩)] 115):=⟨_,rfl⟩
 rw [← hw1]
 have HH:=hid (show w1.heap[hp]? = some (.cells (hdC (.slice A ps.length c) 0 0 i ob) 132 (0,0)) by
  rw [hw1]
  exact up1 (by have h:=blk_set (blk_set (blk_set HB.out 0 (.slice A ps.length c)) 1 (.int .i64 0)) 2 (.int .i64 0);simpa [hdC] using h))
 have HBX:=hid (show w1.heap[w.heap.size]? = some (.cells #[.pointer (some ⟨hp,0,none⟩)] 115 (0,0)) by
  rw [hw1]
  have h:=blk_new (((w.setCell ⟨hp,0,none⟩ (.slice A ps.length c)).setCell ⟨hp,1,none⟩ (.int .i64 0)).setCell ⟨hp,2,none⟩ (.int .i64 0)) (.cells #[.pointer (some ⟨hp,0,none⟩)] 115)
  simpa using h)
 have HK:=hid (show Kp w w1 (fun k=>k=hp) by
  rw [hw1]
  exact ((((Kp.refl w (fun k=>k=hp)).setCell (p:=⟨hp,0,none⟩) (.inl rfl) _).setCell (p:=⟨hp,1,none⟩) (.inl rfl) _).setCell (p:=⟨hp,2,none⟩) (.inl rfl) _).alloc _)
 obtain ⟨Bs,hBs⟩ : ∃ Bs,Bs=w.heap.size:=⟨_,rfl⟩
 rw [← hBs]
 rw [← hBs] at HBX
 have HBS:=hid hBs
 clear hw1 h0 h1 h2 z0 z1 z2 hz hBs
 have hbx:=blk_cell HBX.out 0
 go_wp2_with fail
 go_loopg [18] ps.length (fun kq v18 wr=>∃ j:Nat,v18=.int .i64 (j:Int)∧Aside0 (j+kq=ps.length)∧Aside0 (wr.heap[hp]? = some (.cells (hdC (.slice A ps.length c) (total (ts.take j)) (stales (ts.take j)) i ob) 132 (0,0))∧wr.heap[Bs]? = some (.cells #[.pointer (some ⟨hp,0,none⟩)] 115 (0,0))∧Kp w wr (fun k=>k=hp)))
 case atStart=>exact ⟨0,rfl,⟨by omega⟩,⟨HH.out,HBX.out,HK.out⟩⟩
 case round =>
  obtain ⟨j,rfl,HI,HQ⟩:=hrel
  clear HH HBX HK hbx
  have HT2:=hid (tabs_kp HB.out (by decide) (by decide) HQ.out.2.2 HT.out)
  have HR2:=hid (row_kp HR.out HB.out (by decide) HQ.out.2.2)
  have hbx:=blk_cell HQ.out.2.1 0
  by_cases hj:j<ps.length
  ·have d1:decide ((j:Int)<(ps.length:Int))=true:=decide_eq_true (by omega)
   have HGK:=hid (show gk - 1<gk∧j+1+(gk - 1)=ps.length by have:=HI.out;omega)
   have hjt:j<ts.length:=by have:=HT.out.1;omega
   obtain ⟨blk,c2,e,hcell⟩:=row_at HR2.out hj
   injection e with e1 e2 e3
   subst e1
   subst e3
   have htb:=tabs_at HT2.out hj
   have hfit:=HF.out _ (tAt_mem hjt)
   have htk:=total_take hjt
   have hsk:=stales_take hjt
   have hb1:=total_bd (ts:=ts.take j) (fun t ht=>HF.out t (List.mem_of_mem_take ht))
   have hb2:=stales_bd (ts:=ts.take j) (fun t ht=>HF.out t (List.mem_of_mem_take ht))
   have hlt:(ts.take j).length≤50000:=by have:=List.length_take_le j ts;omega
   generalize ps.getD j 0=p at *
   generalize tAt ts j=t at *
   obtain ⟨kb,kc,t1,t2,t3⟩:=htb
   have hne:p≠hp:=blk_ne t1 HQ.out.1 (by decide)
   have K:=hid (addSize_calls (w:=wr) (hp:=hp) (p:=p) (blk_cell HQ.out.1 1) (blk_cell HQ.out.1 2) (blk_frozen HQ.out.1 1) (blk_frozen HQ.out.1 2) (blk_cell t1 3) (blk_cell t1 5) hne hfit.b hfit.s ⟨hb1.1,by omega⟩ ⟨hb2.1,by omega⟩)
   have HTK:=hid htk
   have HSK:=hid hsk
   simp only [ptr] at K hcell
   clear htk hsk hb1 hb2 t1 t2 t3 hne hfit HI hlt
   go_wp2_with fail
   refine K.out.mono ?_
   rintro e w2 ⟨rfl,q,hw⟩
   have HB2:=hid (show w2.heap[hp]? = some (.cells (hdC (.slice (some ⟨blk,0,none⟩) ps.length c) (total (ts.take (j+1))) (stales (ts.take (j+1))) i ob) 132 (0,0)) by
    rw [hw,HTK.out,HSK.out]
    have h:=blk_set (blk_set HQ.out.1 1 (.int .i64 (total (ts.take j)+t.bytes))) 2 (.int .i64 (stales (ts.take j)+t.stale))
    simpa [hdC] using h)
   have HX2:=hid (show w2.heap[Bs]? = some (.cells #[.pointer (some ⟨hp,0,none⟩)] 115 (0,0)) by
    rw [hw]
    have hd:Bs≠hp:=blk_ne HQ.out.2.1 HQ.out.1 (by decide)
    exact blk_far (blk_far HQ.out.2.1 (p:=⟨hp,1,none⟩) hd _) (p:=⟨hp,2,none⟩) hd _)
   have HK2:=hid (show Kp w w2 (fun k=>k=hp) by
    rw [hw]
    exact ((HQ.out.2.2.setCell (p:=⟨hp,1,none⟩) (.inl rfl) _).setCell (p:=⟨hp,2,none⟩) (.inl rfl) _).drewN q)
   clear hw
   go_wp2_with fail
   go_roundg (gk - 1)
   case measure=>exact HGK.out.1
   case rel=>exact ⟨j+1,rfl,⟨HGK.out.2⟩,⟨HB2.out,HX2.out,HK2.out⟩⟩
  ·have d1:decide ((j:Int)<(ps.length:Int))=false:=decide_eq_false (by omega)
   have hq:=HQ.out.1
   rw [List.take_of_length_le (by have:=HT.out.1;omega)] at hq
   have HQ1:=hid hq
   have h3:wr.cell? ⟨hp,3,none⟩=some (.int .i64 (i:Int)):=blk_cell hq 3
   have h0:wr.cell? ⟨hp,0,none⟩=some (.slice A ps.length c):=blk_cell hq 0
   have HBX:=hid HQ.out.2.1
   have HK:=hid HQ.out.2.2
   clear hq HQ HI
   have HEND:=hid (init_end HK.out HR2.out HQ1.out)
   by_cases hi0:i=0
   ·have d2:((i:Int) == 0)=true:=by subst hi0;rfl
    have hlt:ltOf i ts=fun a b=>decide ((tAt ts a).num<(tAt ts b).num):=by unfold ltOf;rw [if_pos hi0]
    have K:=hid (sort_row (v:=.slice A ps.length c) HR2.out (by omega) 110 #[ptr Bs] (enters_of Tryz.func110 (by kernel_rfl) rfl) (ltOf i ts) HO.out (by rw [hlt];exact lessId HR2.out (by omega) HT2.out HBX.out HQ1.out))
    simp only [ptr] at K
    clear hlt hi0
    go_wp2_with fail
    refine K.out.mono ?_
    rintro e w2 ⟨rfl,h4,h5⟩
    have HP:=hid (HEND.out _ _ h4 h5 rfl)
    clear h4 h5
    go_wp2_with fail
    go_end0
    exact HP.out
   ·have d2:((i:Int) == 0)=false:=by simp;omega
    have hlt:ltOf i ts=fun a b=>decide (cmpK (tAt ts a).small (tAt ts b).small<0):=by unfold ltOf;rw [if_neg hi0]
    have K:=hid (sort_row (v:=.slice A ps.length c) HR2.out (by omega) 111 #[ptr Bs] (enters_of Tryz.func111 (by kernel_rfl) rfl) (ltOf i ts) HO.out (by rw [hlt];exact lessKey HR2.out (by omega) HT2.out HL.out HBX.out HQ1.out))
    simp only [ptr] at K
    clear hlt hi0
    go_wp2_with fail
    refine K.out.mono ?_
    rintro e w2 ⟨rfl,h4,h5⟩
    have HP:=hid (HEND.out _ _ h4 h5 rfl)
    clear h4 h5
    go_wp2_with fail
    go_end0
    exact HP.out
end Go.Proofs.YtnineoajmgneiaaGreat.It
namespace Go.Proofs.YtnineoajmgneiaaGreat.Nw
open Go.RowKit YtnineoajmgneiaaGreatW.PrintWords YtnineoajmgneiaaGreatW.PrintLast YtnineoajmgneiaaGreatW.PrintMore Fr Ky Tm Lm Sr Ls It
open YtnineoajmgneiaaGreat.Od (ord)
/-- Blocks of what never turns behind a level's laying, told by their types. -/
def Ft (w:World) (b:Nat):Prop:=∃ cs t,w.heap[b]? = some (.cells cs t (0,0))∧t∈[98,5,132,140,100]
theorem ft_mk {w:World} {b t:Nat} {cs:Array Value} (h:w.heap[b]? = some (.cells cs t (0,0))) (ht:t∈[98,5,132,140,100]):Ft w b:=⟨cs,t,h,ht⟩
theorem ft_step {w w1:World} (hk:∀ b,Ft w b→w1.heap[b]? = w.heap[b]?) {b:Nat} (h:Ft w b):Ft w1 b:=by
 obtain ⟨cs,t,h1,h2⟩:=h
 exact ⟨cs,t,(hk b ⟨cs,t,h1,h2⟩).trans h1,h2⟩
theorem ft_below {w w1:World} (hb:Below w.heap.size w w1):∀ b,Ft w b→w1.heap[b]? = w.heap[b]?:=fun b ⟨_,_,h,_⟩=>hb.block b (blk_lt h)
theorem levF_step {w w1:World} {ob i:Nat} {h:Hd} (hl:LevF w (Ft w) ob i h) (hk:∀ b,Ft w b→w1.heap[b]? = w.heap[b]?):LevF w1 (Ft w1) ob i h:=
 (hl.move hk).mono (fun b hb _=>ft_step hk hb)
/-- A grown row of another type. -/
theorem ft_grown {w w1:World} {base e:Nat} {ok:Nat→Prop} {v:Value} {ps:List Nat} (hr:ptrK.R e w base ok v ps) (he:e∉[98,5,132,140,100]) (hg:w.grownBy w1 v.ownBlock):∀ b,Ft w b→w1.heap[b]? = w.heap[b]?:=by
 rintro b ⟨cs,t,h,ht⟩
 refine hg.block b (blk_lt h) (fun e2=>?_)
 obtain ⟨cells,hc⟩:=Kd.R_typed hr b e2.symm
 rw [h] at hc
 injection hc with hc
 injection hc with _ h2 _
 subst h2
 exact he ht
theorem ft_set {w:World} {g t:Nat} {cs:Array Value} (h:w.heap[g]? = some (.cells cs t (0,0))) (ht:t∉[98,5,132,140,100]) (j:Nat) (u:Value):∀ b,Ft w b→(w.setCell ⟨g,j,none⟩ u).heap[b]? = w.heap[b]?:=by
 rintro b ⟨ds,t2,h2,ht2⟩
 refine Below.heap_setCell w ⟨g,j,none⟩ u b (fun e=>?_)
 have e:b=g:=e
 subst e
 rw [h] at h2
 injection h2 with h2
 injection h2 with _ h3 _
 subst h3
 exact ht ht2
theorem row_F {w:World} {base e:Nat} {v:Value} {ps:List Nat} {F:Nat→Prop} (hr:ptrK.R e w base (fun _=>True) v ps) (hF:∀ b cs,w.heap[b]? = some (.cells cs e (0,0))→F b):RowF w F e v ps:=by
 obtain ⟨A,c,hv⟩:=Kd.R_slice hr
 subst hv
 obtain ⟨h1,h2,hC⟩:=Kd.R_reads' hr
 refine ⟨A,c,rfl,h2,fun hp=>?_⟩
 obtain ⟨g,cap,hg,_,_,cs,hcs⟩:=Kd.R_form hr hp
 injection hg with e1 e2 e3
 subst e1
 refine ⟨g,cs,rfl,hF g cs hcs,hcs,fun j p hj=>?_⟩
 have hjl:j<ps.length:=(List.getElem?_eq_some_iff.1 hj).1
 obtain ⟨ad,e4,hc⟩:=(Kd.reads_of_C (d:=0) hC).at_ j (by omega) (by omega)
 injection e4 with e4
 subst e4
 rw [Int.toNat_natCast,add_off,Nat.zero_add,blk_cell hcs] at hc
 rw [hc]
 simp [rdOf,hj]
theorem info115:(Tryz.prog.info? 115).map (fun i=>(i.zero,i.size,i.bytes))=some (some (.pointer none),1,8):=by kernel_rfl
theorem info142:(Tryz.prog.info? 142).map (fun i=>(i.zero,i.size,i.bytes))=some (some (.pointer none),1,8):=by kernel_rfl
/-- The levels' controller under way. -/
structure NewM (w:World) (o:Lm.Op) (ob mb sb:Nat) (lv cv:Value) (ps cs:List Nat) (wr:World):Prop where
 ctl:wr.heap[sb]? = some (.cells #[lv,ptr ob,cv,.map (some mb)] 123 (0,0))
 lr:ptrK.R 115 wr w.heap.size (fun _=>True) lv ps
 cr:ptrK.R 142 wr w.heap.size (fun _=>True) cv cs
 st:∀ c∈cs,wr.heap[c]? = some (.cells #[.slice none 0 0,.int .i64 0] 144 (0,0))∧w.heap.size≤c
 pw:cs.Pairwise (· ≠ ·)
 opt:wr.heap[ob]? = some (.cells (optC o) 100 (0,0))
 map:wr.heap[mb]? = some (.map (rawM .u64 []) 0)
 bel:Below w.heap.size w wr
 low:w.heap.size≤sb
theorem NewM.below {w:World} {o:Lm.Op} {ob mb sb:Nat} {lv cv:Value} {ps cs:List Nat} {wr w1:World} (h:NewM w o ob mb sb lv cv ps cs wr) (hb:Below wr.heap.size wr w1):NewM w o ob mb sb lv cv ps cs w1:=
 ⟨(hb.block _ (blk_lt h.ctl)).trans h.ctl,Kd.R_below h.lr hb,Kd.R_below h.cr hb,fun c hc=>⟨(hb.block _ (blk_lt (h.st c hc).1)).trans (h.st c hc).1,(h.st c hc).2⟩,h.pw,(hb.block _ (blk_lt h.opt)).trans h.opt,(hb.block _ (blk_lt h.map)).trans h.map,below_step h.bel hb,h.low⟩
theorem grown_blk {w w1:World} {base e:Nat} {ok:Nat→Prop} {v:Value} {ps:List Nat} (hr:ptrK.R e w base ok v ps) (hg:w.grownBy w1 v.ownBlock) {b t:Nat} {cs:Array Value} (h:w.heap[b]? = some (.cells cs t (0,0))) (ht:t≠e):w1.heap[b]? = some (.cells cs t (0,0)):=by
 refine (hg.block b (blk_lt h) (fun e2=>?_)).trans h
 obtain ⟨cells,hc⟩:=Kd.R_typed hr b e2.symm
 rw [h] at hc
 injection hc with hc
 injection hc with _ h2 _
 exact ht h2
theorem grown_map {w w1:World} {base e:Nat} {ok:Nat→Prop} {v:Value} {ps:List Nat} (hr:ptrK.R e w base ok v ps) (hg:w.grownBy w1 v.ownBlock) {b n:Nat} {cs:Array MapEntry} (h:w.heap[b]? = some (.map cs n)):w1.heap[b]? = some (.map cs n):=by
 refine (hg.block b (blk_lt h) (fun e2=>?_)).trans h
 obtain ⟨cells,hc⟩:=Kd.R_typed hr b e2.symm
 rw [h] at hc
 injection hc with hc
 cases hc
theorem set_blk {w:World} {g t:Nat} {cs:Array Value} (h:w.heap[g]? = some (.cells cs t (0,0))) (j:Nat) (u:Value) {b:Nat} {ob:Obj} (hb:w.heap[b]? = some ob) (hne:∀ ds,ob ≠ .cells ds t (0,0)):(w.setCell ⟨g,j,none⟩ u).heap[b]? = some ob:=by
 refine (Below.heap_setCell w ⟨g,j,none⟩ u b (fun e=>?_)).trans hb
 have e:b=g:=e
 subst e
 rw [h] at hb
 injection hb with hb
 exact hne _ hb.symm
theorem row_other {w w1:World} {base e e2:Nat} {v u:Value} {ps qs:List Nat} (hu:ptrK.R e w base (fun _=>True) u qs) (hr:ptrK.R e2 w base (fun _=>True) v ps) (hg:w.grownBy w1 v.ownBlock) (hne:e≠e2):ptrK.R e w1 base (fun _=>True) u qs:=
 Kd.R_over hu hr (fun q hq=>by have:q∈[e]:=hq;rw [List.mem_singleton.1 this];exact hne) hg
theorem row_set {w:World} {base e g t:Nat} {cs:Array Value} {u:Value} {qs:List Nat} (hu:ptrK.R e w base (fun _=>True) u qs) (h:w.heap[g]? = some (.cells cs t (0,0))) (hne:e≠t) (j:Nat) (x:Value):ptrK.R e (w.setCell ⟨g,j,none⟩ x) base (fun _=>True) u qs:=
 Kd.R_set hu h (fun q hq=>by have:q∈[e]:=hq;rw [List.mem_singleton.1 this];exact hne) j x
theorem below_set2 {w w1:World} (h:Below w.heap.size w w1) {g j:Nat} (hg:w.heap.size≤g) (u:Value):Below w.heap.size w (w1.setCell ⟨g,j,none⟩ u):=below_set h hg
theorem cellsNe {t u:Nat} (h:t≠u) (cs:Array Value):∀ ds,(.cells cs t (0,0):Obj) ≠ .cells ds u (0,0):=fun ds e=>by injection e with _ e _;exact h e
theorem new_l {w:World} {o:Lm.Op} {ob mb sb:Nat} {lv cv v1:Value} {ps cs:List Nat} {wr w1:World} {hp:Nat} (h:NewM w o ob mb sb lv cv ps cs wr) (hr:ptrK.R 115 w1 w.heap.size (fun _=>True) v1 (ps++[hp])) (hb:Below w.heap.size w w1) (hg:wr.grownBy w1 lv.ownBlock) :
  NewM w o ob mb sb v1 cv (ps++[hp]) cs (w1.setCell ⟨sb,0,none⟩ v1)∧∀ b,Ft wr b→(w1.setCell ⟨sb,0,none⟩ v1).heap[b]? = wr.heap[b]?:=by
 have c1:=grown_blk h.lr hg h.ctl (by decide)
 have o1:=grown_blk h.lr hg h.opt (by decide)
 refine ⟨⟨?_,row_set hr c1 (by decide) _ _,row_set (row_other h.cr h.lr hg (by decide)) c1 (by decide) _ _,fun c hc=>⟨set_blk c1 _ _ (grown_blk h.lr hg (h.st c hc).1 (by decide)) (cellsNe (by decide) _),(h.st c hc).2⟩,h.pw,set_blk c1 _ _ o1 (cellsNe (by decide) _),set_blk c1 _ _ (grown_map h.lr hg h.map) (fun ds e=>by cases e),below_set2 hb h.low _,h.low⟩,fun b hF=>?_⟩
 ·have:=blk_set c1 0 v1
  simpa using this
 ·have h2:=ft_grown h.lr (by decide) hg b hF
  exact (ft_set c1 (by decide) 0 v1 b (ft_step (ft_grown h.lr (by decide) hg) hF)).trans h2
theorem new_c {w:World} {o:Lm.Op} {ob mb sb:Nat} {lv cv v1:Value} {ps cs:List Nat} {wr w1:World} (h:NewM w o ob mb sb lv cv ps cs wr) (hr:ptrK.R 142 w1 w.heap.size (fun _=>True) v1 (cs++[wr.heap.size])) (hb:Below w.heap.size w w1) (hg:(wr.alloc (.cells #[.slice none 0 0,.int .i64 0] 144)).grownBy w1 cv.ownBlock) :
  NewM w o ob mb sb lv v1 ps (cs++[wr.heap.size]) (w1.setCell ⟨sb,2,none⟩ v1)∧∀ b,Ft wr b→(w1.setCell ⟨sb,2,none⟩ v1).heap[b]? = wr.heap[b]?:=by
 obtain ⟨W,hW⟩ : ∃ W,W=wr.alloc (.cells #[.slice none 0 0,.int .i64 0] 144):=⟨_,rfl⟩
 rw [← hW] at hg
 have bW:Below wr.heap.size wr W:=by rw [hW];exact (Below.refl _ wr).alloc (Nat.le_refl _) _
 have nW:W.heap[wr.heap.size]? = some (.cells #[.slice none 0 0,.int .i64 0] 144 (0,0)):=by rw [hW];exact blk_new wr _
 have h2:=h.below bW
 have c1:=grown_blk h2.cr hg h2.ctl (by decide)
 have o1:=grown_blk h2.cr hg h2.opt (by decide)
 have hF1:∀ b,Ft wr b→W.heap[b]? = wr.heap[b]?:=ft_below bW
 refine ⟨⟨?_,row_set (row_other h2.lr h2.cr hg (by decide)) c1 (by decide) _ _,row_set hr c1 (by decide) _ _,fun c hc=>?_,?_,set_blk c1 _ _ o1 (cellsNe (by decide) _),set_blk c1 _ _ (grown_map h2.cr hg h2.map) (fun ds e=>by cases e),below_set2 hb h.low _,h.low⟩,fun b hF=>?_⟩
 ·have:=blk_set c1 2 v1
  simpa using this
 ·rcases List.mem_append.1 hc with hc | hc
  ·exact ⟨set_blk c1 _ _ (grown_blk h2.cr hg (h2.st c hc).1 (by decide)) (cellsNe (by decide) _),(h.st c hc).2⟩
  ·rw [List.mem_singleton.1 hc]
   exact ⟨set_blk c1 _ _ (grown_blk h2.cr hg nW (by decide)) (cellsNe (by decide) _),h.bel.size⟩
 ·refine List.pairwise_append.2 ⟨h.pw,List.pairwise_singleton _ _,fun a ha b hb2=>?_⟩
  rw [List.mem_singleton.1 hb2]
  have:=blk_lt (h.st a ha).1
  omega
 ·have f2:=ft_step hF1 hF
  have h3:=ft_grown h2.cr (by decide) hg b f2
  exact ((ft_set c1 (by decide) 2 v1 b (ft_step (ft_grown h2.cr (by decide) hg) f2)).trans h3).trans (hF1 b hF)
/-- What is so at the head of New's outer loop. -/
def NewR (w:World) (xs:List (List Tb)) (o:Lm.Op) (ob mb sb i:Nat) (wr:World):Prop:=
 ∃ (lv cv:Value) (hs:List Hd) (cs:List Nat),NewM w o ob mb sb lv cv (hs.map (·.hp)) cs wr∧hs.map (·.ts)=xs.take i∧cs.length=i∧∀ (j:Nat) (h:Hd),hs[j]? = some h→LevF wr (Ft wr) ob j h
def NewPost (w:World) (xs:List (List Tb)) (o:Lm.Op) (e:Ending) (w':World):Prop:=∃ lp sb ob mb,e=.returned (ptr lp)∧NewR w xs o ob mb sb xs.length w'∧w'.heap[lp]? = some (.cells #[ptr sb,.slice none 0 0] 107 (0,0))∧w.heap.size≤lp∧w.heap.size≤mb
/-- One level done. -/
theorem lev_done {w1:World} {base hp i ob:Nat} {v:Value} {ps:List Nat} {ts:List Tb} (hb:w1.heap[hp]? = some (.cells (hdC v (total ts) (stales ts) i ob) 132 (0,0))) (hr:ptrK.R 140 w1 base (fun _=>True) v ps) (ht:Tabs w1 ps ts):LevF w1 (Ft w1) ob i ⟨hp,v,ps,ts⟩:=by
 refine ⟨ft_mk hb (by decide),hb,row_F hr (fun b cs h=>ft_mk h (by decide)),ht.1,fun j p t h1 h2=>?_⟩
 obtain ⟨b,c,e1,e2,e3⟩:=ht.2 j p t h1 h2
 exact ⟨ft_mk e1 (by decide),b,c,e1,⟨ft_mk e2 (by decide),e2⟩,⟨ft_mk e3 (by decide),e3⟩⟩
theorem tab_grown {w w1:World} {base:Nat} {v:Value} {ps:List Nat} (hr:ptrK.R 140 w base (fun _=>True) v ps) (hg:w.grownBy w1 v.ownBlock) {p:Nat} {t:Tb} (h:TabH w p t):TabH w1 p t:=by
 obtain ⟨b,c,h1,h2,h3⟩:=h
 exact ⟨b,c,grown_blk hr hg h1 (by decide),grown_blk hr hg h2 (by decide),grown_blk hr hg h3 (by decide)⟩
theorem tab_below {w w1:World} (hb:Below w.heap.size w w1) {p:Nat} {t:Tb} (h:TabH w p t):TabH w1 p t:=by
 obtain ⟨b,c,h1,h2,h3⟩:=h
 exact ⟨b,c,(hb.block _ (blk_lt h1)).trans h1,(hb.block _ (blk_lt h2)).trans h2,(hb.block _ (blk_lt h3)).trans h3⟩
theorem tabs_snoc {w w1:World} {base:Nat} {v:Value} {ps:List Nat} {ts:List Tb} {j p:Nat} (hr:ptrK.R 140 w base (fun _=>True) v ps) (hg:w.grownBy w1 v.ownBlock) (h:Tabs w ps (ts.take j)) (hj:j<ts.length) (hp:TabH w p (tAt ts j)):Tabs w1 (ps++[p]) (ts.take (j+1)):=by
 have hl:ps.length=j:=by rw [h.1,List.length_take];omega
 have e:ts.take (j+1)=ts.take j++[tAt ts j]:=by rw [List.take_succ_eq_append_getElem hj];simp [tAt,hj]
 rw [e]
 refine ⟨by simp [h.1],fun k q t h1 h2=>?_⟩
 rw [List.getElem?_append] at h1 h2
 rw [← h.1] at h2
 split at h1
 ·rename_i hk
  rw [if_pos hk] at h2
  exact tab_grown hr hg (h.2 k q t h1 h2)
 ·rename_i hk
  rw [if_neg hk] at h2
  have hk0:k - ps.length=0:=by
   have:=(List.getElem?_eq_some_iff.1 h1).1
   simp at this
   omega
  rw [hk0] at h1 h2
  simp at h1 h2
  subst h1
  subst h2
  exact tab_grown hr hg hp
theorem at_row {w:World} {A:Option Addr} {n:Nat} {xs:List (List Tb)} (h:Kd.C (Kd.slice 98 kT) w A n xs) {i:Nat} (h1:i<n):∃ ad A0 c0,A=some ad∧w.cell? (ad.add i)=some (.slice A0 (xs.getD i []).length c0)∧(xs.getD i []).length≤c0∧kT.C w A0 (xs.getD i []).length (xs.getD i []):=by
 obtain ⟨ad,c,e,_,hK,hc0⟩:=Kd.C_get h ([]:List Tb) (i:Int) (by omega) (by omega)
 have hc:∀ j u,c[j]? = some u→w.cell? (ad.add ((i:Int).toNat*1+j))=some u:=hc0
 obtain ⟨A0,c0,rfl,l0,g0⟩:=hK
 exact ⟨ad,A0,c0,e,by have hq:=hc 0 _ rfl;rwa [Nat.mul_one,Nat.add_zero,Int.toNat_natCast] at hq,l0,g0⟩
theorem at_tab {w:World} {A:Option Addr} {n:Nat} {xs:List Tb} (h:kT.C w A n xs) {i:Nat} (h1:i<n):∃ ad b c,A=some ad∧(∀ j u,(tabC (tAt xs i) b c)[j]? = some u→w.cell? (ad.add (i*7+j))=some u)∧w.heap[b]? = some (keyO (tAt xs i).small)∧w.heap[c]? = some (keyO (tAt xs i).big):=by
 obtain ⟨ad,c,e,_,hK,hc0⟩:=Kd.C_get h zT (i:Int) (by omega) (by omega)
 have hc:∀ j u,c[j]? = some u→w.cell? (ad.add ((i:Int).toNat*7+j))=some u:=hc0
 obtain ⟨b,d,e2,k1,k2⟩:=kT_open hK
 subst e2
 exact ⟨ad,b,d,e,hc,k1,k2⟩
theorem szA (w:World) (o:Obj):(w.alloc o).heap.size=w.heap.size+1:=Array.size_push ..
theorem new_start (w:World) (o:Lm.Op):NewM w o w.heap.size (w.heap.size+1) (w.heap.size+1+1) (.slice none 0 0) (.slice none 0 0) [] [] (((w.alloc (.cells (optC o) 100)).alloc (.map #[] 0)).alloc (.cells #[.slice none 0 0,ptr w.heap.size,.slice none 0 0,.map (some (w.heap.size+1))] 123)):=by
 have s1:=szA w (.cells (optC o) 100)
 generalize hW:w.alloc (.cells (optC o) 100)=W at *
 have h0:W.heap[w.heap.size]? = some (.cells (optC o) 100 (0,0)):=by rw [← hW];exact blk_new w _
 have b0:Below w.heap.size w W:=by rw [← hW];exact (Below.refl _ w).alloc (Nat.le_refl _) _
 have s2:=szA W (.map #[] 0)
 generalize hV:W.alloc (.map #[] 0)=V at *
 have h1:V.heap[W.heap.size]? = some (.map #[] 0):=by rw [← hV];exact blk_new W _
 have h2:V.heap[w.heap.size]? = some (.cells (optC o) 100 (0,0)):=by rw [← hV];exact up1 h0
 have b1:Below w.heap.size w V:=by rw [← hV];exact below_alloc b0 _
 rw [s1] at h1 s2
 have h3:=blk_new V (.cells #[.slice none 0 0,ptr w.heap.size,.slice none 0 0,.map (some (w.heap.size+1))] 123)
 rw [s2] at h3
 exact ⟨h3,Kd.R_nil _ _ _ _ _,Kd.R_nil _ _ _ _ _,(fun c hc=>nomatch hc),List.Pairwise.nil,up1 h2,up1 h1,below_alloc b1 _,by omega⟩
theorem tab_cells {w:World} {ad:Addr} {k:Nat} {t:Tb} {b c:Nat} (h:∀ j u,(tabC t b c)[j]? = some u→w.cell? (ad.add (k+j))=some u) :
  w.cell? (ad.add k)=some (.int .u64 t.num)∧w.cell? ⟨(ad.add k).block,(ad.add k).off+1,none⟩=some (.slice (some ⟨b,0,none⟩) t.small.length t.small.length)∧w.cell? ⟨(ad.add k).block,(ad.add k).off+2,none⟩=some (.slice (some ⟨c,0,none⟩) t.big.length t.big.length)∧w.cell? ⟨(ad.add k).block,(ad.add k).off+3,none⟩=some (.int .i64 t.bytes)∧w.cell? ⟨(ad.add k).block,(ad.add k).off+4,none⟩=some (.int .u64 t.ver)∧w.cell? ⟨(ad.add k).block,(ad.add k).off+5,none⟩=some (.int .u32 t.stale)∧w.cell? ⟨(ad.add k).block,(ad.add k).off+6,none⟩=some (.int .i64 t.age):=
 ⟨h 0 _ rfl,by rw [← add_field _ _ 1 (by omega)];exact h 1 _ rfl,by rw [← add_field _ _ 2 (by omega)];exact h 2 _ rfl,by rw [← add_field _ _ 3 (by omega)];exact h 3 _ rfl,by rw [← add_field _ _ 4 (by omega)];exact h 4 _ rfl,by rw [← add_field _ _ 5 (by omega)];exact h 5 _ rfl,by rw [← add_field _ _ 6 (by omega)];exact h 6 _ rfl⟩
theorem tab_set {wr w5:World} {gb b c:Nat} {t:Tb} {x0 x1 x2 x3 x4 x5 x6:Value} (hbox:w5.heap[gb]? = some (.cells #[x0,x1,x2,x3,x4,x5,x6] 98 (0,0))) (hg:gb=wr.heap.size) (hb:Below wr.heap.size wr w5) (h1:wr.heap[b]? = some (keyO t.small)) (h2:wr.heap[c]? = some (keyO t.big)) {w6:World}
  (hw:w6=((((((w5.setCell ⟨gb,0,none⟩ (.int .u64 t.num)).setCell ⟨gb,1,none⟩ (.slice (some ⟨b,0,none⟩) t.small.length t.small.length)).setCell ⟨gb,2,none⟩ (.slice (some ⟨c,0,none⟩) t.big.length t.big.length)).setCell ⟨gb,3,none⟩ (.int .i64 t.bytes)).setCell ⟨gb,4,none⟩ (.int .u64 t.ver)).setCell ⟨gb,5,none⟩ (.int .u32 t.stale)).setCell ⟨gb,6,none⟩ (.int .i64 t.age)) :
  TabH w6 gb t∧Below wr.heap.size wr w6:=by
 have hB:Below wr.heap.size wr w6:=by
  rw [hw]
  have l:wr.heap.size≤gb:=by omega
  exact below_set (below_set (below_set (below_set (below_set (below_set (below_set hb l) l) l) l) l) l) l
 refine ⟨⟨b,c,?_,(hB.block _ (blk_lt h1)).trans h1,(hB.block _ (blk_lt h2)).trans h2⟩,hB⟩
 rw [hw]
 have h:=blk_set (blk_set (blk_set (blk_set (blk_set (blk_set (blk_set hbox 0 (.int .u64 t.num)) 1 (.slice (some ⟨b,0,none⟩) t.small.length t.small.length)) 2 (.slice (some ⟨c,0,none⟩) t.big.length t.big.length)) 3 (.int .i64 t.bytes)) 4 (.int .u64 t.ver)) 5 (.int .u32 t.stale)) 6 (.int .i64 t.age)
 simpa [tabC] using h
theorem levs_snoc {wq w2 w6:World} {ob i:Nat} {hs:List Hd} {x:Hd} (hi:hs.length=i) (h1:∀ (j:Nat) (h:Hd),hs[j]? = some h→LevF wq (Ft wq) ob j h) (k1:∀ b,Ft wq b→w2.heap[b]? = wq.heap[b]?) (hx:LevF w2 (Ft w2) ob i x) (k2:∀ b,Ft w2 b→w6.heap[b]? = w2.heap[b]?) :
  ∀ (j:Nat) (h:Hd),(hs++[x])[j]? = some h→LevF w6 (Ft w6) ob j h:=by
 intro j h hj
 rw [List.getElem?_append] at hj
 split at hj
 ·exact levF_step (levF_step (h1 j h hj) k1) k2
 ·rename_i hk
  have hj0:j=i:=by
   have:=(List.getElem?_eq_some_iff.1 hj).1
   simp at this
   omega
  subst hj0
  rw [hi,Nat.sub_self] at hj
  simp at hj
  subst hj
  exact levF_step hx k2
theorem NewR.below {w:World} {xs:List (List Tb)} {o:Lm.Op} {ob mb sb i:Nat} {wr w1:World} (h:NewR w xs o ob mb sb i wr) (hb:Below wr.heap.size wr w1):NewR w xs o ob mb sb i w1:=by
 obtain ⟨lv,cv,hs,cs,h1,h2,h3,h4⟩:=h
 exact ⟨lv,cv,hs,cs,h1.below hb,h2,h3,fun j x hx=>levF_step (h4 j x hx) (ft_below hb)⟩
theorem init_below {wq wr w2:World} {base hp i ob:Nat} {v:Value} {ps:List Nat} {ts:List Tb} {e:Ending} (hb:Below wq.heap.size wq wr) (hr:ptrK.R 140 wr base (fun _=>True) v ps) (hbs:wq.heap.size≤base) (hhp:wq.heap.size≤hp) (h:InitPost wr base hp i ob v ps ts e w2):Below wq.heap.size wq w2:=by
 have k:Kp wq w2 (fun k=>wq.heap.size≤k):=(Kp.of_below hb _).trans h.2.2.2 (fun k hk=>by
  rcases hk with rfl | hk
  ·exact .inl hhp
  ·exact .inl (Nat.le_trans hbs (Kd.R_base hr k hk)))
 exact k.toBelow (fun i h=>h)
theorem init_tabs {wr w2:World} {base hp i ob:Nat} {v x0 x1 x2:Value} {ps:List Nat} {ts ts2:List Tb} {e:Ending} (hh:wr.heap[hp]? = some (.cells #[x0,x1,x2,.int .i64 (i:Int),ptr ob] 132 (0,0))) (hr:ptrK.R 140 wr base (fun _=>True) v ps) (h:InitPost wr base hp i ob v ps ts e w2) (ht:Tabs wr ps ts2):Tabs w2 ps ts2:=by
 have no:∀ {k t:Nat} {cs:Array Value},wr.heap[k]? = some (.cells cs t (0,0))→t≠132→t≠140→w2.heap[k]? = some (.cells cs t (0,0)):=by
  intro k t cs hk h1 h2
  refine h.2.2.2.blk hk (fun hx=>?_)
  rcases hx with rfl | hx
  ·rw [hk] at hh
   injection hh with hh
   injection hh with _ hh _
   exact h1 hh
  ·obtain ⟨cells,hc⟩:=Kd.R_typed hr k hx
   rw [hk] at hc
   injection hc with hc
   injection hc with _ hc _
   exact h2 hc
 refine ⟨ht.1,fun j p t h1 h2=>?_⟩
 obtain ⟨b,c,e1,e2,e3⟩:=ht.2 j p t h1 h2
 exact ⟨b,c,no e1 (by decide) (by decide),no e2 (by decide) (by decide),no e3 (by decide) (by decide)⟩
theorem slice3 {e:Nat} {w:World} {base:Nat} {ok:Nat→Prop} {v:Value} {ps:List Nat} (h:ptrK.R e w base ok v ps):∃ A n c,v=.slice A n c:=by
 obtain ⟨A,c,h⟩:=Kd.R_slice h
 exact ⟨A,_,c,h⟩
end Go.Proofs.YtnineoajmgneiaaGreat.Nw
namespace Go.Proofs.YtnineoajmgneiaaGreat.Nw
open Lib (hid)
open Go.RowKit YtnineoajmgneiaaGreatW.PrintWords YtnineoajmgneiaaGreatW.PrintLast YtnineoajmgneiaaGreatW.PrintMore Fr Ky Tm Lm Sr Ls It
open YtnineoajmgneiaaGreat.Od (ord)
set_option maxRecDepth 100000 in
set_option maxHeartbeats 1000000 in
theorem new_calls {w:World} {A0:Option Addr} {c0:Nat} {xs:List (List Tb)} {o:Lm.Op} (hC:Kd.C (Kd.slice 98 kT) w A0 xs.length xs) (hc0:xs.length≤c0) (hmax:o.max=(xs.length:Int)) (hx:xs.length≤100) (hlen:∀ l∈xs,l.length≤50000)
  (hkey:∀ l∈xs,∀ t∈l,KeyLen t∧Fit t) (hord:∀ (i:Nat) (l:List Tb),xs[i]? = some l→Od.SW l.length (It.ltOf i l)∧ord l.length (It.ltOf i l)=List.range l.length) :
  Calls Tryz.prog 69 #[.slice A0 xs.length c0,.agg (optC o)] w (NewPost w xs o):=by
 obtain ⟨m,om,otm,oz,obs,ot,omm,od⟩:=o
 have hmax:m=(xs.length:Int):=hmax
 subst hmax
 have H0:=hid hC
 have HLEN:=hid hlen
 have HKEY:=hid hkey
 have HORD:=hid hord
 have hmm:=@run_makeMap Tryz.prog
 clear hC hlen hkey hord
 unfold optC
 go_enter Tryz.func69,Tryz.ntmps69
 go_wp2_with fail
 obtain ⟨w1,hw1⟩ : ∃ w1,w1=((w.alloc (.cells #[.int .i64 (xs.length:Int),.int .i64 om,.int .i64 otm,.int .i64 oz,.int .i64 obs,.int .i64 ot,.int .i64 omm,.int .u64 od] 100)).alloc (.map #[] 0)).alloc (.cells #[.slice none 0 0,.pointer (some ⟨w.heap.size,0,none⟩),.slice none 0 0,.map (some (w.heap.size+1))] 123):=⟨_,rfl⟩
 rw [← hw1]
 have HM:=hid (show NewM w ⟨xs.length,om,otm,oz,obs,ot,omm,od⟩ w.heap.size (w.heap.size+1) (w.heap.size+1+1) (.slice none 0 0) (.slice none 0 0) [] [] w1 by
  rw [hw1]
  exact new_start w ⟨xs.length,om,otm,oz,obs,ot,omm,od⟩)
 clear hw1
 obtain ⟨ob,hob⟩ : ∃ ob,ob=w.heap.size:=⟨_,rfl⟩
 obtain ⟨mb,hmb⟩ : ∃ mb,mb=ob+1:=⟨_,rfl⟩
 obtain ⟨sb,hsb⟩ : ∃ sb,sb=ob+1+1:=⟨_,rfl⟩
 rw [← hob,← hsb,← hmb] at HM
 rw [← hob,← hsb,← hmb]
 have HMB:=hid (show w.heap.size≤mb by omega)
 clear hob hmb hsb
 go_loopg [6] xs.length (fun kq v6 wr=>∃ i:Nat,v6=.int .i64 (i:Int)∧Aside0 (i+kq=xs.length)∧Aside0 (NewR w xs ⟨xs.length,om,otm,oz,obs,ot,omm,od⟩ ob mb sb i wr))
 case atStart=>exact ⟨0,rfl,⟨by omega⟩,⟨_,_,[],[],HM.out,by simp,rfl,fun j h hj=>by simp at hj⟩⟩
 case round =>
  clear HM
  obtain ⟨wq,rfl⟩ : ∃ wq,wq=wr:=⟨_,rfl⟩
  obtain ⟨g0,rfl⟩ : ∃ g0,g0=gk:=⟨_,rfl⟩
  obtain ⟨i,rfl,HI,HQ⟩:=hrel
  by_cases hj:i<xs.length
  ·have d1:decide ((i:Int)<(xs.length:Int))=true:=decide_eq_true (by omega)
   have HGK:=hid (show g0 - 1<g0∧i+1+(g0 - 1)=xs.length by have:=HI.out;omega)
   obtain ⟨lv,cv,hs,cs,hq1,hq2,hq3,hq4⟩:=HQ.out
   have HQ1:=hid hq1
   have HQ2:=hid hq2
   have HQ3:=hid hq3
   have HQ4:=hid hq4
   have hopt:wq.cell? ⟨ob,0,none⟩=some (.int .i64 (xs.length:Int)):=blk_cell hq1.opt 0
   clear HI HQ hq1 hq2 hq3 hq4
   go_upto_region 7 with (fail)
   obtain ⟨wi,hwi⟩ : ∃ wi,wi=wq.alloc (.cells #[.slice none 0 0,.int .i64 0,.int .i64 0,.int .i64 (i:Int),.pointer (some ⟨ob,0,none⟩)] 132):=⟨_,rfl⟩
   rw [← hwi]
   obtain ⟨hp,hhp⟩ : ∃ hp,hp=wq.heap.size:=⟨_,rfl⟩
   rw [← hhp]
   have HBI:=hid (show Below wq.heap.size wq wi by rw [hwi];exact below_alloc (Below.refl _ _) _)
   have HH:=hid (show wi.heap[hp]? = some (.cells #[.slice none 0 0,.int .i64 0,.int .i64 0,.int .i64 (i:Int),ptr ob] 132 (0,0)) by rw [hwi,hhp];exact blk_new wq _)
   have HHP:=hid hhp
   clear hwi hhp hopt
   obtain ⟨ad,A1,c1,hA,hcell,hc1,hrow⟩:=at_row (Kd.C_below H0.out (below_step HQ1.out.bel HBI.out)) hj
   subst hA
   have hl:=HLEN.out (xs.getD i []) (by simp [hj])
   have hkey:=HKEY.out (xs.getD i []) (by simp [hj])
   have hord:=HORD.out i (xs.getD i []) (by simp [hj])
   have htk:xs.take (i+1)=xs.take i++[xs.getD i []]:=by rw [List.take_succ_eq_append_getElem hj];simp [hj]
   have HTK:=hid htk
   have HK:=hid hkey
   have HO:=hid hord
   have HR:=hid hrow
   clear htk hkey hord hrow
   generalize xs.getD i []=l at *
   go_wp2_with fail
   go_loopg [8,33] l.length (fun kq v8 v33 w2=>∃ (j:Nat) (ps:List Nat),v33=.int .i64 (j:Int)∧Aside0 (j+kq=l.length)∧Aside0 (ptrK.R 140 w2 wi.heap.size (fun _=>True) v8 ps∧Tabs w2 ps (l.take j)∧Below wi.heap.size wi w2))
   case atStart=>exact ⟨0,[],rfl,⟨by omega⟩,⟨Kd.R_nil _ _ _ _ _,⟨by simp,fun k p t h1=>by simp at h1⟩,Below.refl _ _⟩⟩
   case round =>
    have HCELL:=hid hcell
    clear hcell
    obtain ⟨j,ps,rfl,HJ,HS⟩:=hrel
    by_cases hjl:j<l.length
    ·have d2:decide ((j:Int)<(l.length:Int))=true:=decide_eq_true (by omega)
     have HGJ:=hid (show gk - 1<gk∧j+1+(gk - 1)=l.length by have:=HJ.out;omega)
     obtain ⟨ad2,b,c,hA2,hcs,hb1,hb2⟩:=at_tab (Kd.C_below HR.out HS.out.2.2) hjl
     subst hA2
     have hcell:=(HS.out.2.2.cell (World.block_lt_of_cell? wi _ HCELL.out)).trans HCELL.out
     obtain ⟨k0,k1,k2,k3,k4,k5,k6⟩:=tab_cells hcs
     have HB1:=hid hb1
     have HB2:=hid hb2
     have HJL:=hid hjl
     have HRR:=hid HS.out.1
     have HTT:=hid HS.out.2.1
     have HBW:=hid HS.out.2.2
     obtain ⟨t,ht⟩ : ∃ t,t=tAt l j:=⟨_,rfl⟩
     rw [← ht] at k0 k1 k2 k3 k4 k5 k6 HB1 HB2
     have HT:=hid ht
     clear hcs hb1 hb2 HS HJ ht HCELL
     go_upto_region 11 with (fail)
     go_upto_region 12 with (first | ((with_reducible refine gate_dst (N:=10) rfl ?_);refine box_event ?hg (N:=10) ?hd (cs:=#[.int .u64 0,.slice none 0 0,.slice none 0 0,.int .i64 0,.int .u64 0,.int .u32 0,.int .i64 0]) (t:=98) ?hr ?_;(case hd=>rfl);(case hg=>rfl);(case hr=>first | (go_simp;done) | (go_simp;rfl));intro gb hg w5 hbox hb;have BOX:=hid hbox;have HGB:=hid hg;have HB5:=hid hb;clear hg hbox hb;have f0:=blk_frozen BOX.out 0;have f1:=blk_frozen BOX.out 1;have f2:=blk_frozen BOX.out 2;have f3:=blk_frozen BOX.out 3;have f4:=blk_frozen BOX.out 4;have f5:=blk_frozen BOX.out 5;have f6:=blk_frozen BOX.out 6;have m0:w5.cell? ⟨gb,0,none⟩=some (.int .u64 0):=(blk_cell BOX.out 0).trans rfl;have m1:w5.cell? ⟨gb,1,none⟩=some (.slice none 0 0):=(blk_cell BOX.out 1).trans rfl;have m2:w5.cell? ⟨gb,2,none⟩=some (.slice none 0 0):=(blk_cell BOX.out 2).trans rfl;have m3:w5.cell? ⟨gb,3,none⟩=some (.int .i64 0):=(blk_cell BOX.out 3).trans rfl;have m4:w5.cell? ⟨gb,4,none⟩=some (.int .u64 0):=(blk_cell BOX.out 4).trans rfl;have m5:w5.cell? ⟨gb,5,none⟩=some (.int .u32 0):=(blk_cell BOX.out 5).trans rfl;have m6:w5.cell? ⟨gb,6,none⟩=some (.int .i64 0):=(blk_cell BOX.out 6).trans rfl))
     obtain ⟨w6,hw6⟩ : ∃ w6,w6=((((((w5.setCell ⟨gb,0,none⟩ (.int .u64 t.num)).setCell ⟨gb,1,none⟩ (.slice (some ⟨b,0,none⟩) t.small.length t.small.length)).setCell ⟨gb,2,none⟩ (.slice (some ⟨c,0,none⟩) t.big.length t.big.length)).setCell ⟨gb,3,none⟩ (.int .i64 t.bytes)).setCell ⟨gb,4,none⟩ (.int .u64 t.ver)).setCell ⟨gb,5,none⟩ (.int .u32 t.stale)).setCell ⟨gb,6,none⟩ (.int .i64 t.age):=⟨_,rfl⟩
     rw [← hw6]
     have TS:=hid (tab_set BOX.out HGB.out HB5.out HB1.out HB2.out hw6)
     clear hw6 f0 f1 f2 f3 f4 f5 f6 m0 m1 m2 m3 m4 m5 m6 BOX HB5 HB1 HB2 k0 k1 k2 k3 k4 k5 k6 hcell
     have HR6:=hid (Kd.R_below HRR.out TS.out.2)
     have HT6:=hid (show Tabs w6 ps (l.take j) from ⟨HTT.out.1,fun k p x h1 h2=>tab_below TS.out.2 (HTT.out.2 k p x h1 h2)⟩)
     have HB6:=hid (below_step HBW.out TS.out.2)
     have HL6:=hid (show ps.length≤50000 by have:=HTT.out.1;rw [List.length_take] at this;omega)
     go_wp2_with (first | ((with_reducible refine gate_builtin (b:=.append) (xs:=#[.tmp 43,.tmp 44]) rfl ?_);at_builtin;refine Kd.R_append ptrK (w0:=wi) wi.heap.size rfl (.tmp 43) (.tmp 44) 124 140 (.pointer none) 8 rfl Tryz.underlying124 info140 rfl (by decide) (by omega) _ ps gb [ptr gb] (fun _=>True) (fun _=>False) rfl rfl ?aP (fun _ hk=>hk.elim) ?aF ?aO ?aB ?aS ?aL ?_;(case aP=>exact rfl);(case aB=>exact HB6.out);(case aF=>exact (fun _ _=>trivial));(case aO=>exact HR6.out);(case aS=>exact below_size HB6.out);(case aL=>have:=HL6.out;omega);intro v7 w7 ho hb hg hat;have HR7:=hid ho;have HB7:=hid hb;have HT7:=hid (tabs_snoc HR6.out hg HT6.out HJL.out (by rw [← HT.out];exact TS.out.1));clear ho hb hg hat))
     go_roundg (gk - 1)
     case measure=>exact HGJ.out.1
     case rel=>exact ⟨j+1,ps++[gb],rfl,⟨HGJ.out.2⟩,⟨HR7.out,HT7.out,HB7.out⟩⟩
    ·have d2:decide ((j:Int)<(l.length:Int))=false:=decide_eq_false (by omega)
     have HRR:=hid HS.out.1
     have HTT:=hid (show Tabs wr ps l by have h:=HS.out.2.1;rwa [List.take_of_length_le (by omega)] at h)
     have HBW:=hid HS.out.2.2
     have hpl:ps.length=l.length:=HTT.out.1
     clear HS HJ HCELL
     have HBQ:=hid (below_step HBI.out HBW.out)
     have HHW:=hid ((HBW.out.block _ (blk_lt HH.out)).trans HH.out)
     have HSZ:=hid (show wq.heap.size≤wi.heap.size∧wq.heap.size≤hp from ⟨HBI.out.size,by have:=HHP.out;omega⟩)
     have K:=hid (init_calls HRR.out (by omega) HTT.out (fun t ht=>(HK.out t ht).1) (fun t ht=>(HK.out t ht).2) HHW.out (by omega) (by rw [hpl];exact HO.out.1))
     simp only [ptr] at K
     go_upto_region 15 with (fail)
     refine K.out.mono ?_
     rintro e w2 hp2
     have HP:=hid hp2
     obtain rfl:=hp2.1
     clear hp2 K
     have HB2:=hid (init_below HBQ.out HRR.out HSZ.out.1 HSZ.out.2 HP.out)
     have HM2:=hid (HQ1.out.below HB2.out)
     have HT2:=hid (init_tabs HHW.out HRR.out HP.out HTT.out)
     have HR2:=hid (show ptrK.R 140 w2 wi.heap.size (fun _=>True) u8 ps by
      have h:=HP.out.2.2.1
      rw [hpl,HO.out.2,← hpl,map_range_getD] at h
      exact h)
     have HLV:=hid (lev_done HP.out.2.1 HR2.out HT2.out)
     have hlen:hs.length=i:=by
      have:=congrArg List.length HQ2.out
      rw [List.length_map,List.length_take] at this
      omega
     have hsb:=blk_cell HM2.out.ctl 0
     go_upto_region 16 with (first | ((with_reducible refine gate_builtin (b:=.append) (xs:=#[.tmp 54,.tmp 56]) rfl ?_);at_builtin;refine Kd.R_append ptrK (w0:=w) w.heap.size rfl (.tmp 54) (.tmp 56) 116 115 (.pointer none) 8 rfl Tryz.underlying116 info115 rfl (by decide) (by omega) lv (hs.map (·.hp)) hp [ptr hp] (fun _=>True) (fun _=>False) rfl rfl ?aP (fun _ hk=>hk.elim) ?aF ?aO ?aB ?aS ?aL ?_;(case aP=>exact rfl);(case aB=>exact HM2.out.bel);(case aF=>exact (fun _ _=>trivial));(case aO=>exact HM2.out.lr);(case aS=>exact below_size HM2.out.bel);(case aL=>rw [List.length_map];omega);intro v3 w3 ho hb hg hat;have ho0:=hid ho;have H3:=hid (new_l HM2.out ho hb hg);have C3:=hid (grown_blk HM2.out.lr hg HM2.out.ctl (by decide));clear ho hb hg hat;obtain ⟨A3,n3,c3,hv3⟩:=slice3 ho0.out;clear ho0;subst hv3;have m3:=blk_cell C3.out 0;have f3:=blk_frozen C3.out 0))
     clear hsb m3 f3 C3
     obtain ⟨w4,hw4⟩ : ∃ w4,w4=w3.setCell ⟨sb,0,none⟩ (.slice A3 n3 c3):=⟨_,rfl⟩
     rw [← hw4]
     rw [← hw4] at H3
     clear hw4
     have hsb:=blk_cell H3.out.1.ctl 2
     have HB4:=hid (show Below w.heap.size w (w4.alloc (.cells #[.slice none 0 0,.int .i64 0] 144)) from below_alloc H3.out.1.bel _)
     have HR4:=hid (Kd.R_alloc H3.out.1.cr (.cells #[.slice none 0 0,.int .i64 0] 144))
     have HC4:=hid ((H3.out.1.below (below_alloc (Below.refl _ _) (.cells #[.slice none 0 0,.int .i64 0] 144))).ctl)
     go_upto_region 4 with (first | ((with_reducible refine gate_builtin (b:=.append) (xs:=#[.tmp 65,.tmp 68]) rfl ?_);at_builtin;refine Kd.R_append ptrK (w0:=w) w.heap.size rfl (.tmp 65) (.tmp 68) 118 142 (.pointer none) 8 rfl Tryz.underlying118 info142 rfl (by decide) (by omega) cv cs w4.heap.size [ptr w4.heap.size] (fun _=>True) (fun _=>False) rfl ?aX ?aP (fun _ hk=>hk.elim) ?aF ?aO ?aB ?aS ?aL ?_;(case aX=>(rw [szA];rfl));  (case aP=>exact rfl);(case aB=>exact HB4.out);(case aF=>exact (fun _ _=>trivial));(case aO=>exact HR4.out);(case aS=>exact below_size HB4.out);(case aL=>have:=HQ3.out;omega);intro v5 w5 ho hb hg hat;have ho0:=hid ho;have H5:=hid (new_c H3.out.1 ho hb hg);have C5:=hid (grown_blk HR4.out hg HC4.out (by decide));clear ho hb hg hat;obtain ⟨A5,n5,c5,hv5⟩:=slice3 ho0.out;clear ho0;subst hv5;have m5:=blk_cell C5.out 2;have f5:=blk_frozen C5.out 2))
     clear hsb m5 f5 C5
     have HLS:=hid (levs_snoc hlen HQ4.out (ft_below HB2.out) HLV.out (fun b hb=>(H5.out.2 b (ft_step H3.out.2 hb)).trans (H3.out.2 b hb)))
     go_wp2_with fail
     go_roundg (g0 - 1)
     case measure=>exact HGK.out.1
     case rel=>exact ⟨i+1,rfl,⟨HGK.out.2⟩,⟨_,_,hs++[⟨hp,u8,ps,l⟩],cs++[w4.heap.size],by have h:=H5.out.1;simpa using h,by rw [HTK.out,List.map_append,HQ2.out];rfl,by rw [List.length_append,HQ3.out];rfl,HLS.out⟩⟩
  ·have d1:decide ((i:Int)<(xs.length:Int))=false:=decide_eq_false (by omega)
   have hopt:wq.cell? ⟨ob,0,none⟩=some (.int .i64 (xs.length:Int)):=by
    obtain ⟨lv,cv,hs,cs,hq1,hq2,hq3,hq4⟩:=HQ.out
    exact blk_cell hq1.opt 0
   have hi:i=xs.length:=by have:=HI.out;omega
   subst hi
   have HB:=hid (show Below wq.heap.size wq (wq.alloc (.cells #[.pointer (some ⟨sb,0,none⟩),.slice none 0 0] 107)) from below_alloc (Below.refl _ _) _)
   go_wp2_with fail
   go_ret
   have hq:=HQ.out
   obtain ⟨lv,cv,hs,cs,hq1,hq2,hq3,hq4⟩:=hq
   exact ⟨_,sb,ob,mb,rfl,HQ.out.below HB.out,blk_new wq _,hq1.bel.size,HMB.out⟩
end Go.Proofs.YtnineoajmgneiaaGreat.Nw
namespace Go.Proofs.YtnineoajmgneiaaGreat.Bd
open Lib (hid)
open List renaming setIfInBounds_toArray → zA,set_cons_zero → zB,set_cons_succ → zC
open Go.RowKit YtnineoajmgneiaaGreatW.PrintWords YtnineoajmgneiaaGreatW.PrintLast YtnineoajmgneiaaGreatW.PrintMore Fr L Ky Tm Lm Sr Ls It Nw
open YtnineoajmgneiaaGreat.Od (ord)
theorem at_below {w w1:World} {b:Nat} {x:List UInt8} (h:At w ⟨b,0,none⟩ x) (hb:Below w.heap.size w w1):At w1 ⟨b,0,none⟩ x:=fun j u hj=>(hb.cell (World.block_lt_of_cell? w _ (h j u hj))).trans (h j u hj)
theorem kt_calls {W:World} {b c:Nat} {s:ByteArray} {x:List UInt8} {ts:Int} (hx:Tm.keyOf s ts=x) (hA:At W ⟨b,0,none⟩ s.toList) (hs:s.size≤2000000) (ht:0≤ts∧ts≤1099511627776) :
  Calls Tryz.prog 68 #[.slice (some ⟨b,0,none⟩) s.size c,.int .u64 ts] W fun e w'=>∃ k,e=.returned (.slice (some ⟨k,0,none⟩) x.length x.length)∧W.heap.size≤k∧w'.heap[k]? = some (keyO x)∧Below W.heap.size W w':=by
 subst hx
 have hl:(Tm.keyOf s ts).length=s.size+8:=by simp [Tm.keyOf,list_size,be64b_len]
 rw [hl]
 refine (keyWithTs_calls (list_size s) (fun _=>⟨_,rfl,hA⟩) (by omega) (by omega) (by omega)).mono ?_
 rintro e w' ⟨rfl,h1,h2⟩
 exact ⟨_,rfl,Nat.le_refl _,h1,h2⟩
theorem kt_grown {w w1:World} {base:Nat} {ok:Nat→Prop} {v:Value} {ts:List Tb} (hr:kT.R 98 w base ok v ts) (hg:w.grownBy w1 v.ownBlock) {b t:Nat} {cs:Array Value} (h:w.heap[b]? = some (.cells cs t (0,0))) (ht:t≠98):w1.heap[b]? = some (.cells cs t (0,0)):=by
 refine (hg.block b (blk_lt h) (fun e2=>?_)).trans h
 obtain ⟨cells,hc⟩:=Kd.R_typed hr b e2.symm
 rw [h] at hc
 injection hc with hc
 injection hc with _ h2 _
 exact ht h2
theorem tb_ok {t:S68} (h:InTab t):KeyLen (tbOf t)∧Fit (tbOf t):=by
 have l1:(Tm.keyOf t.f1 t.f2).length=t.f1.size+8:=by simp [Tm.keyOf,list_size,be64b_len]
 have l2:(Tm.keyOf t.f3 t.f4).length=t.f3.size+8:=by simp [Tm.keyOf,list_size,be64b_len]
 obtain ⟨n0,s1,n2,s3,n4,n5,n6,n7,n8⟩:=h
 exact ⟨⟨by simp [tbOf,l1],by simp [tbOf,l1];omega,by simp [tbOf,l2],by simp [tbOf,l2];omega⟩,⟨n5,n7⟩⟩
theorem u64_in {x:Int} (h:0≤x∧x≤1099511627776):IntKind.u64.wrap x=x:=by
 rw [IntKind.wrap_u64];omega
theorem u32_in {x:Int} (h:0≤x∧x≤1073741824):IntKind.u32.wrap x=x:=by
 rw [IntKind.wrap_u32];omega
theorem kslice {α:Type} {d:Kd α} {e:Nat} {w:World} {base:Nat} {ok:Nat→Prop} {v:Value} {xs:List α} (h:d.R e w base ok v xs):∃ A n c,v=.slice A n c:=by
 obtain ⟨A,c,h⟩:=Kd.R_slice h
 exact ⟨A,_,c,h⟩
theorem tbs_take {l:List S68} {j:Nat} (hj:j<l.length):(l.take (j+1)).map tbOf=(l.take j).map tbOf++[tbOf (l.getD j z68)]:=by
 rw [List.take_succ_eq_append_getElem hj,List.map_append]
 simp [hj]
theorem lvs_take {ls:List (List S68)} {i:Nat} (hi:i<ls.length):(ls.take (i+1)).map (·.map tbOf)=(ls.take i).map (·.map tbOf)++[(ls.getD i []).map tbOf]:=by
 rw [List.take_succ_eq_append_getElem hi,List.map_append]
 simp [hi]
def BuildPost (w:World) (xs:List (List Tb)) (o:Lm.Op) (e:Ending) (w':World):Prop:=∃ W,Below w.heap.size w W∧NewPost W xs o e w'
set_option maxRecDepth 100000 in
set_option maxHeartbeats 8000000 in
theorem build_calls {w:World} {A0:Option Addr} {c0:Nat} {ls:List (List S68)} {m a b c d e f g:Int} {xs:List (List Tb)} (hxs:xs=ls.map (·.map tbOf)) (hC:Kd.C (Kd.slice 68 k68) w A0 ls.length ls) (hc0:ls.length≤c0) (hm:m=(xs.length:Int)) (hx:ls.length≤100) (hlen:∀ l∈ls,l.length≤50000)
  (hin:∀ l∈ls,∀ t∈l,InTab t) (hord:∀ (i:Nat) (l:List Tb),xs[i]? = some l→Od.SW l.length (It.ltOf i l)∧ord l.length (It.ltOf i l)=List.range l.length) (hg:IntKind.u64.wrap g=g) :
  Calls Tryz.prog 56 #[.slice A0 ls.length c0,.agg #[.int .i64 m,.int .i64 a,.int .i64 b,.int .i64 c,.int .i64 d,.int .i64 e,.int .i64 f,.int .i64 g]] w (BuildPost w xs ⟨m,a,b,c,d,e,f,g⟩):=by
 subst hm
 have H0:=hid hC
 have HXS:=hid hxs
 have HXL:=hid (show xs.length=ls.length by rw [hxs,List.length_map])
 have HLEN:=hid hlen
 have HIN:=hid hin
 have HORD:=hid hord
 have HG:=hid hg
 clear hC hxs hlen hin hord hg
 have kb:=fun W s=>print_bytes (P:=Tryz.prog) 9 81 5 Tryz.underlying9 Tryz.underlying81 Tryz.underlying5 s W
 go_enter Tryz.func56,Tryz.ntmps56
 go_upto_region 1 with (fail)
 obtain ⟨w1,hw1⟩ : ∃ w1,w1=w.alloc (.cells #[.int .i64 (xs.length:Int),.int .i64 a,.int .i64 b,.int .i64 c,.int .i64 d,.int .i64 e,.int .i64 f,.int .i64 g] 24):=⟨_,rfl⟩
 rw [← hw1]
 obtain ⟨b3,hb3⟩ : ∃ b3,b3=w.heap.size:=⟨_,rfl⟩
 rw [← hb3]
 have HB1:=hid (show Below w.heap.size w w1 by rw [hw1];exact below_alloc (Below.refl _ _) _)
 have HO3:=hid (show w1.heap[b3]? = some (.cells #[.int .i64 (xs.length:Int),.int .i64 a,.int .i64 b,.int .i64 c,.int .i64 d,.int .i64 e,.int .i64 f,.int .i64 g] 24 (0,0)) by rw [hw1,hb3];exact blk_new w _)
 clear hw1 hb3
 go_wp2_with (first | ((with_reducible refine gate_dst (N:=12) rfl ?_);refine Kd.R_lit (Kd.slice 98 kT) (w0:=w1) w1.heap.size 94 ?hg (N:=12) ?hd (xs:=([]:List (List Tb))) (inner:=[]) (ok:=fun _=>True) (okp:=fun _=>True) ?hr ?hp (fun _ hk=>hk) trivial (Below.refl _ _) (Nat.le_refl _) (by simp) ?_;(case hd=>rfl);(case hg=>rfl);(case hr=>first | (go_simp;done) | (go_simp;rfl));(case hp=>exact (Reps.none _ _));intro v5 w2 ho hb hg_ hnew_;have HR2:=hid ho;have HB2:=hid hb;clear hg_ hnew_ ho hb))
 go_loopg [5,15] ls.length (fun kq v5 v15 wr=>∃ i:Nat,v15=.int .i64 (i:Int)∧Aside0 (i+kq=ls.length)∧Aside0 (Kd.R (Kd.slice 98 kT) 94 wr w1.heap.size (fun _=>True) v5 ((ls.take i).map (·.map tbOf))∧Below w1.heap.size w1 wr))
 case atStart=>exact ⟨0,rfl,⟨by omega⟩,⟨by simpa using HR2.out,HB2.out⟩⟩
 case round =>
  clear HR2 HB2
  obtain ⟨wq,rfl⟩ : ∃ wq,wq=wr:=⟨_,rfl⟩
  obtain ⟨gq,rfl⟩ : ∃ gq,gq=gk:=⟨_,rfl⟩
  obtain ⟨i,rfl,HI,HQ⟩:=hrel
  by_cases hi:i<ls.length
  ·have d1:decide ((i:Int)<(ls.length:Int))=true:=decide_eq_true (by omega)
   have HGK:=hid (show gq - 1<gq∧i+1+(gq - 1)=ls.length by have:=HI.out;omega)
   obtain ⟨ad,A1,c1,hA,hcell,hc1,hrow⟩:=at_L3 (Kd.C_below H0.out (below_step HB1.out HQ.out.2)) (i:Int) (by omega) (by omega)
   subst hA
   have e0:rd_L3 ls (i:Int)=ls.getD i []:=by unfold rd_L3;rw [Int.toNat_natCast]
   rw [e0] at hcell hc1 hrow
   rw [Int.toNat_natCast] at hcell
   have HTKL:=hid (lvs_take hi)
   have hl:=HLEN.out (ls.getD i []) (by simp [hi])
   have HINL:=hid (HIN.out (ls.getD i []) (by simp [hi]))
   have HR:=hid hrow
   clear hrow e0 HI
   generalize ls.getD i []=l at *
   go_wp2_with (first | ((with_reducible refine gate_dst (N:=19) rfl ?_);refine Kd.R_lit kT (w0:=wq) wq.heap.size 98 ?hg (N:=19) ?hd (xs:=([]:List Tb)) (inner:=[]) (ok:=fun _=>True) (okp:=fun _=>True) ?hr ?hp (fun _ hk=>hk) trivial (Below.refl _ _) (Nat.le_refl _) (by simp) ?_;(case hd=>rfl);(case hg=>rfl);(case hr=>first | (go_simp;done) | (go_simp;rfl));(case hp=>exact (Reps.none _ _));intro v8 w3 ho hb hg_ hnew_;have HR3:=hid ho;have HB3:=hid hb;clear hg_ hnew_ ho hb))
   go_loopg [8,22] l.length (fun kq v8 v22 wr=>∃ j:Nat,v22=.int .i64 (j:Int)∧Aside0 (j+kq=l.length)∧Aside0 (Kd.R kT 98 wr wq.heap.size (fun _=>True) v8 ((l.take j).map tbOf)∧Below wq.heap.size wq wr))
   case atStart=>exact ⟨0,rfl,⟨by omega⟩,⟨by simpa using HR3.out,HB3.out⟩⟩
   case round =>
    clear HR3 HB3 hcell
    obtain ⟨wy,rfl⟩ : ∃ wy,wy=wr:=⟨_,rfl⟩
    obtain ⟨j,rfl,HJ,HS⟩:=hrel
    by_cases hj:j<l.length
    ·have d2:decide ((j:Int)<(l.length:Int))=true:=decide_eq_true (by omega)
     have HGJ:=hid (show gk - 1<gk∧j+1+(gk - 1)=l.length by have:=HJ.out;omega)
     obtain ⟨ad2,hA2,k0,k1,k2,k3,k4,k5,k6,k7,k8⟩:=at_T68 (Kd.C_below HR.out HS.out.2) (j:Int) (by omega) (by omega)
     subst hA2
     have e0:rd_T68 l (j:Int)=l.getD j z68:=by unfold rd_T68;rw [Int.toNat_natCast]
     rw [e0] at k0 k1 k2 k3 k4 k5 k6 k7 k8
     rw [Int.toNat_natCast] at k0 k1 k2 k3 k4 k5 k6 k7 k8
     have HTK:=hid (tbs_take hj)
     have hit:=HINL.out (l.getD j z68) (by simp [hj])
     have HTL:=hid (show ((l.take j).map tbOf).length≤50000 by rw [List.length_map,List.length_take];omega)
     have HRB0:=hid HS.out.1
     have HWB0:=hid HS.out.2
     clear HJ HS e0
     generalize l.getD j z68=t at *
     generalize (l.take j).map tbOf=ts at *
     obtain ⟨g0,g1,g2,g3,g4,g5,g6,g7,g8⟩:=t
     obtain ⟨i0,hs1,hv2,hs3,hv4,i5,i6,i7,i8⟩:=hit
     dsimp only at k0 k1 k2 k3 k4 k5 k6 k7 k8 i0 hs1 hv2 hs3 hv4 i5 i6 i7 i8
     obtain ⟨y1,hy1⟩ : ∃ y,Tm.keyOf g1 g2=y:=⟨_,rfl⟩
     obtain ⟨y3,hy3⟩ : ∃ y,Tm.keyOf g3 g4=y:=⟨_,rfl⟩
     have HTB:=hid (show tbOf ⟨g0,g1,g2,g3,g4,g5,g6,g7,g8⟩=⟨g0,y1,y3,g5,g6,g7,g8⟩ by rw [← hy1,← hy3];rfl)
     have HY1:=hid hy1
     have HY3:=hid hy3
     clear hy1 hy3
     go_upto_region 9 with (first | ((with_reducible refine gate_dst (N:=10) rfl ?_);refine box_event ?hg (N:=10) ?hd (cs:=#[.int .i64 0,.string (⟨#[]⟩ : ByteArray),.int .i64 0,.string (⟨#[]⟩ : ByteArray),.int .i64 0,.int .i64 0,.int .i64 0,.int .i64 0,.int .i64 0]) (t:=68) ?hr ?_;(case hd=>rfl);(case hg=>rfl);(case hr=>first | (go_simp;done) | (go_simp;rfl));intro b10 hg w5 hbox hb;have BOX:=hid hbox;have HGB:=hid hg;have HB5:=hid hb;clear hg hbox hb;have f0:=blk_frozen BOX.out 0;have f1:=blk_frozen BOX.out 1;have f2:=blk_frozen BOX.out 2;have f3:=blk_frozen BOX.out 3;have f4:=blk_frozen BOX.out 4;have f5:=blk_frozen BOX.out 5;have f6:=blk_frozen BOX.out 6;have f7:=blk_frozen BOX.out 7;have f8:=blk_frozen BOX.out 8;have m0:w5.cell? ⟨b10,0,none⟩=some (.int .i64 0):=(blk_cell BOX.out 0).trans rfl;have m1:w5.cell? ⟨b10,1,none⟩=some (.string (⟨#[]⟩ : ByteArray)):=(blk_cell BOX.out 1).trans rfl;have m2:w5.cell? ⟨b10,2,none⟩=some (.int .i64 0):=(blk_cell BOX.out 2).trans rfl;have m3:w5.cell? ⟨b10,3,none⟩=some (.string (⟨#[]⟩ : ByteArray)):=(blk_cell BOX.out 3).trans rfl;have m4:w5.cell? ⟨b10,4,none⟩=some (.int .i64 0):=(blk_cell BOX.out 4).trans rfl;have m5:w5.cell? ⟨b10,5,none⟩=some (.int .i64 0):=(blk_cell BOX.out 5).trans rfl;have m6:w5.cell? ⟨b10,6,none⟩=some (.int .i64 0):=(blk_cell BOX.out 6).trans rfl;have m7:w5.cell? ⟨b10,7,none⟩=some (.int .i64 0):=(blk_cell BOX.out 7).trans rfl;have m8:w5.cell? ⟨b10,8,none⟩=some (.int .i64 0):=(blk_cell BOX.out 8).trans rfl))
     obtain ⟨wb,hwb⟩ : ∃ wb,wb=((((((((w5.setCell ⟨b10,0,none⟩ (.int .i64 g0)).setCell ⟨b10,1,none⟩ (.string g1)).setCell ⟨b10,2,none⟩ (.int .i64 g2)).setCell ⟨b10,3,none⟩ (.string g3)).setCell ⟨b10,4,none⟩ (.int .i64 g4)).setCell ⟨b10,5,none⟩ (.int .i64 g5)).setCell ⟨b10,6,none⟩ (.int .i64 g6)).setCell ⟨b10,7,none⟩ (.int .i64 g7)).setCell ⟨b10,8,none⟩ (.int .i64 g8):=⟨_,rfl⟩
     rw [← hwb]
     have BK:=hid (show wb.heap[b10]? = some (.cells #[.int .i64 g0,.string g1,.int .i64 g2,.string g3,.int .i64 g4,.int .i64 g5,.int .i64 g6,.int .i64 g7,.int .i64 g8] 68 (0,0)) by
      rw [hwb]
      have h:=blk_set (blk_set (blk_set (blk_set (blk_set (blk_set (blk_set (blk_set (blk_set BOX.out 0 (.int .i64 g0)) 1 (.string g1)) 2 (.int .i64 g2)) 3 (.string g3)) 4 (.int .i64 g4)) 5 (.int .i64 g5)) 6 (.int .i64 g6)) 7 (.int .i64 g7)) 8 (.int .i64 g8)
      simpa using h)
     have HBY:=hid (show Below wy.heap.size wy wb by
      rw [hwb]
      have q:wy.heap.size≤b10:=by have:=HGB.out;omega
      exact below_set (below_set (below_set (below_set (below_set (below_set (below_set (below_set (below_set HB5.out q) q) q) q) q) q) q) q) q)
     clear hwb f0 f1 f2 f3 f4 f5 f6 f7 f8 m0 m1 m2 m3 m4 m5 m6 m7 m8 k0 k1 k2 k3 k4 k5 k6 k7 k8 BOX HB5 HGB
     have HRB:=hid (Kd.R_below HRB0.out HBY.out)
     have HWB:=hid (below_step HWB0.out HBY.out)
     have HLE:=hid (show wq.heap.size≤wb.heap.size from below_size HWB.out)
     have u0:=u64_in i0
     have u2:=u64_in hv2
     have u4:=u64_in hv4
     have u6:=u64_in i6
     have u7:=u32_in i7
     have HK:=hid (fun (x:World) (hx:x.heap[b10]? = some (.cells #[.int .i64 g0,.string g1,.int .i64 g2,.string g3,.int .i64 g4,.int .i64 g5,.int .i64 g6,.int .i64 g7,.int .i64 g8] 68 (0,0)))=>(show x.cell? ⟨b10,0,none⟩=some (.int .i64 g0)∧x.cell? ⟨b10,1,none⟩=some (.string g1)∧x.cell? ⟨b10,2,none⟩=some (.int .i64 g2)∧x.cell? ⟨b10,3,none⟩=some (.string g3)∧x.cell? ⟨b10,4,none⟩=some (.int .i64 g4)∧x.cell? ⟨b10,5,none⟩=some (.int .i64 g5)∧x.cell? ⟨b10,6,none⟩=some (.int .i64 g6)∧x.cell? ⟨b10,7,none⟩=some (.int .i64 g7)∧x.cell? ⟨b10,8,none⟩=some (.int .i64 g8) from ⟨blk_cell hx 0,blk_cell hx 1,blk_cell hx 2,blk_cell hx 3,blk_cell hx 4,blk_cell hx 5,blk_cell hx 6,blk_cell hx 7,blk_cell hx 8⟩))
     refine wp_region_held_drew (S:=(fun x=>x.cell? ⟨b10,0,none⟩=some (.int .i64 g0)∧x.cell? ⟨b10,1,none⟩=some (.string g1)∧x.cell? ⟨b10,2,none⟩=some (.int .i64 g2)∧x.cell? ⟨b10,3,none⟩=some (.string g3)∧x.cell? ⟨b10,4,none⟩=some (.int .i64 g4)∧x.cell? ⟨b10,5,none⟩=some (.int .i64 g5)∧x.cell? ⟨b10,6,none⟩=some (.int .i64 g6)∧x.cell? ⟨b10,7,none⟩=some (.int .i64 g7)∧x.cell? ⟨b10,8,none⟩=some (.int .i64 g8))) (by kernel_rfl) ?_ (fun hHeld=>?_)
     ·exact HK.out _ (blk_below BK.out (below_drew (Below.refl _ _)))
     refine wpAnyH_take (i:=0) (v:=?_) rfl (by kernel_rfl) (by kernel_rfl) (by kernel_rfl) (fun _ _ _ h=>h) (Or.inl ⟨by rfl,?_⟩) (by assumption) ?_
     rotate_left
     ·intro w hSw
      try dsimp only at hSw
      go_simp
      try with_reducible rfl
     simp only [Act.put,List.getElem_toArray,List.getElem_cons_succ,List.getElem_cons_zero,zA,zB,zC]
     refine wpAnyH_take (i:=1) (v:=?_) rfl (by kernel_rfl) (by kernel_rfl) (by kernel_rfl) (fun _ _ _ h=>h) (Or.inl ⟨by rfl,?_⟩) (by assumption) ?_
     rotate_left
     ·intro w hSw
      try dsimp only at hSw
      go_simp
      try with_reducible rfl
     simp only [Act.put,List.getElem_toArray,List.getElem_cons_succ,List.getElem_cons_zero,zA,zB,zC]
     refine wpAnyH_take (i:=2) (v:=?_) rfl (by kernel_rfl) (by kernel_rfl) (by kernel_rfl) (fun _ _ _ h=>h) (Or.inl ⟨by rfl,?_⟩) (by assumption) ?_
     rotate_left
     ·intro w hSw
      try dsimp only at hSw
      go_simp
      try with_reducible rfl
     simp only [Act.put,List.getElem_toArray,List.getElem_cons_succ,List.getElem_cons_zero,zA,zB,zC]
     refine wpAnyH_take (i:=3) (v:=?_) rfl (by kernel_rfl) (by kernel_rfl) (by kernel_rfl) (fun _ _ _ h=>h) (Or.inl ⟨by rfl,?_⟩) (by assumption) ?_
     rotate_left
     ·intro w hSw
      try dsimp only at hSw
      go_simp
      try with_reducible rfl
     simp only [Act.put,List.getElem_toArray,List.getElem_cons_succ,List.getElem_cons_zero,zA,zB,zC]
     refine wpAnyH_take (i:=4) (v:=?_) rfl (by kernel_rfl) (by kernel_rfl) (by kernel_rfl) (fun _ _ _ h=>h) (Or.inl ⟨by rfl,?_⟩) (by assumption) ?_
     rotate_left
     ·intro w hSw
      try dsimp only at hSw
      go_simp
      try with_reducible rfl
     simp only [Act.put,List.getElem_toArray,List.getElem_cons_succ,List.getElem_cons_zero,zA,zB,zC]
     refine wpAnyH_take (i:=5) (v:=?_) rfl (by kernel_rfl) (by kernel_rfl) (by kernel_rfl) (fun _ _ _ h=>h) (Or.inl ⟨by rfl,?_⟩) (by assumption) ?_
     rotate_left
     ·intro w hSw
      try dsimp only at hSw
      go_simp
      try with_reducible rfl
     simp only [Act.put,List.getElem_toArray,List.getElem_cons_succ,List.getElem_cons_zero,zA,zB,zC]
     refine wpAnyH_take (i:=7) (v:=?_) rfl (by kernel_rfl) (by kernel_rfl) (by kernel_rfl) (fun _ _ _ h=>h) (Or.inl ⟨by rfl,?_⟩) (by assumption) ?_
     rotate_left
     ·intro w hSw
      try dsimp only at hSw
      go_simp
      try with_reducible rfl
     simp only [Act.put,List.getElem_toArray,List.getElem_cons_succ,List.getElem_cons_zero,zA,zB,zC]
     refine wpAnyH_take (i:=8) (v:=?_) rfl (by kernel_rfl) (by kernel_rfl) (by kernel_rfl) (fun _ _ _ h=>h) (Or.inl ⟨by rfl,?_⟩) (by assumption) ?_
     rotate_left
     ·intro w hSw
      try dsimp only at hSw
      go_simp
      try with_reducible rfl
     simp only [Act.put,List.getElem_toArray,List.getElem_cons_succ,List.getElem_cons_zero,zA,zB,zC]
     refine wpAnyH_take (i:=9) (v:=?_) rfl (by kernel_rfl) (by kernel_rfl) (by kernel_rfl) (fun _ _ _ h=>h) (Or.inl ⟨by rfl,?_⟩) (by assumption) ?_
     rotate_left
     ·intro w hSw
      try dsimp only at hSw
      go_simp
      try with_reducible rfl
     simp only [Act.put,List.getElem_toArray,List.getElem_cons_succ,List.getElem_cons_zero,zA,zB,zC]
     refine wpAnyH_take (i:=11) (v:=?_) rfl (by kernel_rfl) (by kernel_rfl) (by kernel_rfl) (fun _ _ _ h=>h) (Or.inl ⟨by rfl,?_⟩) (by assumption) ?_
     rotate_left
     ·intro w hSw
      try dsimp only at hSw
      go_simp
      try with_reducible rfl
     simp only [Act.put,List.getElem_toArray,List.getElem_cons_succ,List.getElem_cons_zero,zA,zB,zC]
     refine wpAnyH_take (i:=12) (v:=?_) rfl (by kernel_rfl) (by kernel_rfl) (by kernel_rfl) (fun _ _ _ h=>h) (Or.inl ⟨by rfl,?_⟩) (by assumption) ?_
     rotate_left
     ·intro w hSw
      try dsimp only at hSw
      go_simp
      try with_reducible rfl
     simp only [Act.put,List.getElem_toArray,List.getElem_cons_succ,List.getElem_cons_zero,zA,zB,zC]
     refine wpAnyH_take (i:=14) (v:=?_) rfl (by kernel_rfl) (by kernel_rfl) (by kernel_rfl) (fun _ _ _ h=>h) (Or.inl ⟨by rfl,?_⟩) (by assumption) ?_
     rotate_left
     ·intro w hSw
      try dsimp only at hSw
      go_simp
      try with_reducible rfl
     simp only [Act.put,List.getElem_toArray,List.getElem_cons_succ,List.getElem_cons_zero,zA,zB,zC]
     refine wpAnyH_take (i:=15) (v:=?_) rfl (by kernel_rfl) (by kernel_rfl) (by kernel_rfl) (fun _ _ _ h=>h) (Or.inl ⟨by rfl,?_⟩) (by assumption) ?_
     rotate_left
     ·intro w hSw
      try dsimp only at hSw
      go_simp
      try with_reducible rfl
     simp only [Act.put,List.getElem_toArray,List.getElem_cons_succ,List.getElem_cons_zero,zA,zB,zC]
     refine wpAnyH_take (i:=16) (v:=?_) rfl (by kernel_rfl) (by kernel_rfl) (by kernel_rfl) (fun _ _ _ h=>h) (Or.inl ⟨by rfl,?_⟩) (by assumption) ?_
     rotate_left
     ·intro w hSw
      try dsimp only at hSw
      go_simp
      try with_reducible rfl
     simp only [Act.put,List.getElem_toArray,List.getElem_cons_succ,List.getElem_cons_zero,zA,zB,zC]
     refine wpAnyH_take (i:=18) (v:=?_) rfl (by kernel_rfl) (by kernel_rfl) (by kernel_rfl) (fun _ _ _ h=>h) (Or.inl ⟨by rfl,?_⟩) (by assumption) ?_
     rotate_left
     ·intro w hSw
      try dsimp only at hSw
      go_simp
      try with_reducible rfl
     simp only [Act.put,List.getElem_toArray,List.getElem_cons_succ,List.getElem_cons_zero,zA,zB,zC]
     refine wpAnyH_take (i:=19) (v:=?_) rfl (by kernel_rfl) (by kernel_rfl) (by kernel_rfl) (fun _ _ _ h=>h) (Or.inl ⟨by rfl,?_⟩) (by assumption) ?_
     rotate_left
     ·intro w hSw
      try dsimp only at hSw
      go_simp
      try with_reducible rfl
     simp only [Act.put,List.getElem_toArray,List.getElem_cons_succ,List.getElem_cons_zero,zA,zB,zC]
     refine wpAnyH_take (i:=20) (v:=?_) rfl (by kernel_rfl) (by kernel_rfl) (by kernel_rfl) (fun _ _ _ h=>h) (Or.inl ⟨by rfl,?_⟩) (by assumption) ?_
     rotate_left
     ·intro w hSw
      try dsimp only at hSw
      go_simp
      try with_reducible rfl
     simp only [Act.put,List.getElem_toArray,List.getElem_cons_succ,List.getElem_cons_zero,zA,zB,zC]
     refine wpAnyH_take (i:=21) (v:=?_) rfl (by kernel_rfl) (by kernel_rfl) (by kernel_rfl) (fun _ _ _ h=>h) (Or.inl ⟨by rfl,?_⟩) (by assumption) ?_
     rotate_left
     ·intro w hSw
      try dsimp only at hSw
      go_simp
      try with_reducible rfl
     simp only [Act.put,List.getElem_toArray,List.getElem_cons_succ,List.getElem_cons_zero,zA,zB,zC]
     refine wpAnyH_take (i:=22) (v:=?_) rfl (by kernel_rfl) (by kernel_rfl) (by kernel_rfl) (fun _ _ _ h=>h) (Or.inl ⟨by rfl,?_⟩) (by assumption) ?_
     rotate_left
     ·intro w hSw
      try dsimp only at hSw
      go_simp
      try with_reducible rfl
     simp only [Act.put,List.getElem_toArray,List.getElem_cons_succ,List.getElem_cons_zero,zA,zB,zC]
     refine wpAnyH_take (i:=23) (v:=?_) rfl (by kernel_rfl) (by kernel_rfl) (by kernel_rfl) (fun _ _ _ h=>h) (Or.inl ⟨by rfl,?_⟩) (by assumption) ?_
     rotate_left
     ·intro w hSw
      try dsimp only at hSw
      go_simp
      try with_reducible rfl
     simp only [Act.put,List.getElem_toArray,List.getElem_cons_succ,List.getElem_cons_zero,zA,zB,zC]
     refine wpAnyH_take (i:=24) (v:=?_) rfl (by kernel_rfl) (by kernel_rfl) (by kernel_rfl) (fun _ _ _ h=>h) (Or.inl ⟨by rfl,?_⟩) (by assumption) ?_
     rotate_left
     ·intro w hSw
      try dsimp only at hSw
      go_simp
      try with_reducible rfl
     simp only [Act.put,List.getElem_toArray,List.getElem_cons_succ,List.getElem_cons_zero,zA,zB,zC]
     refine wpAnyH_take (i:=25) (v:=?_) rfl (by kernel_rfl) (by kernel_rfl) (by kernel_rfl) (fun _ _ _ h=>h) (Or.inl ⟨by rfl,?_⟩) (by assumption) ?_
     rotate_left
     ·intro w hSw
      try dsimp only at hSw
      go_simp
      try with_reducible rfl
     simp only [Act.put,List.getElem_toArray,List.getElem_cons_succ,List.getElem_cons_zero,zA,zB,zC]
     refine wpAnyH_take (i:=26) (v:=?_) rfl (by kernel_rfl) (by kernel_rfl) (by kernel_rfl) (fun _ _ _ h=>h) (Or.inl ⟨by rfl,?_⟩) (by assumption) ?_
     rotate_left
     ·intro w hSw
      try dsimp only at hSw
      go_simp
      try with_reducible rfl
     simp only [Act.put,List.getElem_toArray,List.getElem_cons_succ,List.getElem_cons_zero,zA,zB,zC]
     refine wpAnyH_take (i:=27) (v:=?_) rfl (by kernel_rfl) (by kernel_rfl) (by kernel_rfl) (fun _ _ _ h=>h) (Or.inl ⟨by rfl,?_⟩) (by assumption) ?_
     rotate_left
     ·intro w hSw
      try dsimp only at hSw
      go_simp
      try with_reducible rfl
     simp only [Act.put,List.getElem_toArray,List.getElem_cons_succ,List.getElem_cons_zero,zA,zB,zC]
     refine wpAnyH_ready (rs:=[6,13]) (by kernel_rfl) (by simp) ?_
     refine AllReadyH.cons rfl (fun K hK=>?_) ?_
     ·go_simp
      obtain ⟨x1,hy⟩ : ∃ y,y=Lib.bytesWorld (wb.drew) 5 g1:=⟨_,rfl⟩
      rw [← hy]
      have hbz:Below (wb.drew).heap.size (wb.drew) x1:=by rw [hy];exact bytes_below (Below.refl _ _) (Nat.le_refl _) _ _
      have hat:At x1 ⟨wb.heap.size,0,none⟩ g1.toList:=by rw [hy];exact bytes_at _ _
      clear hy
      have hb1:=hid (below_step ((below_drew (Below.refl wb.heap.size wb))) hbz)
      obtain ⟨bb1,hbb⟩ : ∃ b,b=wb.heap.size:=⟨_,rfl⟩
      rw [← hbb] at hat
      rw [← hbb]
      generalize grownCap (wb.drew) g1.size 0 5=cp1
      have HAT1:=hid hat
      clear hat hbz hbb
      refine hK.out _ _ ?_ (fun hHeld=>?_)
      ·exact HK.out _ (blk_below BK.out hb1.out)
      ·clear hK K
       try simp only [Act.put,List.getElem_toArray,List.getElem_cons_succ,List.getElem_cons_zero,zA,zB,zC]
       refine wpAnyH_ready (rs:=[10,13]) (by kernel_rfl) (by simp) ?_
       refine AllReadyH.cons rfl (fun K hK=>?_) ?_
       ·try go_simp
        go_at_call 68
        refine (kt_calls (s:=g1) (x:=y1) HY1.out HAT1.out hs1 hv2).mono ?_
        rintro e x2 ⟨kb2,rfl,hkl,hkb,hbz⟩
        have hb2:=hid (below_step (hb1.out) hbz)
        have HKB2:=hid (show wb.heap.size≤kb2∧x2.heap[kb2]? = some (keyO y1) from ⟨Nat.le_trans (below_size hb1.out) hkl,hkb⟩)
        clear hkl hkb hbz
        refine hK.out _ _ ?_ (fun hHeld=>?_)
        ·exact HK.out _ (blk_below BK.out hb2.out)
        ·clear hK K
         try simp only [Act.put,List.getElem_toArray,List.getElem_cons_succ,List.getElem_cons_zero,zA,zB,zC]
         refine wpAnyH_ready (rs:=[13]) (by kernel_rfl) (by simp) ?_
         refine AllReadyH.cons rfl (fun K hK=>?_) ?_
         ·go_simp
          obtain ⟨x3,hy⟩ : ∃ y,y=Lib.bytesWorld (x2) 5 g3:=⟨_,rfl⟩
          rw [← hy]
          have hbz:Below (x2).heap.size (x2) x3:=by rw [hy];exact bytes_below (Below.refl _ _) (Nat.le_refl _) _ _
          have hat:At x3 ⟨(x2).heap.size,0,none⟩ g3.toList:=by rw [hy];exact bytes_at _ _
          clear hy
          have hb3:=hid (below_step (hb2.out) hbz)
          have Hk13:=hid (show _∧x3.heap[_]? = some _ from ⟨HKB2.out.1,(hbz.block _ (blk_lt HKB2.out.2)).trans HKB2.out.2⟩)
          obtain ⟨bb3,hbb⟩ : ∃ b,b=(x2).heap.size:=⟨_,rfl⟩
          rw [← hbb] at hat
          rw [← hbb]
          generalize grownCap (x2) g3.size 0 5=cp3
          have HAT3:=hid hat
          clear hat hbz hbb
          refine hK.out _ _ ?_ (fun hHeld=>?_)
          ·exact HK.out _ (blk_below BK.out hb3.out)
          ·clear hK K
           try simp only [Act.put,List.getElem_toArray,List.getElem_cons_succ,List.getElem_cons_zero,zA,zB,zC]
           refine wpAnyH_ready (rs:=[17]) (by kernel_rfl) (by simp) ?_
           refine AllReadyH.cons rfl (fun K hK=>?_) ?_
           ·try go_simp
            go_at_call 68
            refine (kt_calls (s:=g3) (x:=y3) HY3.out HAT3.out hs3 hv4).mono ?_
            rintro e x4 ⟨kb4,rfl,hkl,hkb,hbz⟩
            have hb4:=hid (below_step (hb3.out) hbz)
            have Hk14:=hid (show _∧x4.heap[_]? = some _ from ⟨Hk13.out.1,(hbz.block _ (blk_lt Hk13.out.2)).trans Hk13.out.2⟩)
            have HKB4:=hid (show wb.heap.size≤kb4∧x4.heap[kb4]? = some (keyO y3) from ⟨Nat.le_trans (below_size hb3.out) hkl,hkb⟩)
            clear hkl hkb hbz
            refine hK.out _ _ ?_ (fun hHeld=>?_)
            ·exact HK.out _ (blk_below BK.out hb4.out)
            ·clear hK K
             try simp only [Act.put,List.getElem_toArray,List.getElem_cons_succ,List.getElem_cons_zero,zA,zB,zC]
             refine wpAnyH_take (i:=28) (v:=?_) rfl (by kernel_rfl) (by kernel_rfl) (by kernel_rfl) (fun _ _ _ h=>h) (Or.inl ⟨by rfl,?_⟩) (by assumption) ?_
             rotate_left
             ·intro w hSw
              try dsimp only at hSw
              go_simp
              try with_reducible rfl
             simp only [Act.put,List.getElem_toArray,List.getElem_cons_succ,List.getElem_cons_zero,zA,zB,zC]
             refine wpAnyH_ready (rs:=[29]) (by kernel_rfl) (by simp) ?_
             refine AllReadyH.cons rfl (fun K hK=>?_) ?_
             ·go_simp
              refine hK.out _ _ ?_ (fun hHeld=>?_)
              ·exact HK.out _ (blk_below BK.out (below_alloc hb4.out _))
              ·clear hK K
               try simp only [Act.put,List.getElem_toArray,List.getElem_cons_succ,List.getElem_cons_zero,zA,zB,zC]
               refine wpAnyH_ready (rs:=[30]) (by kernel_rfl) (by simp) ?_
               refine AllReadyH.cons rfl (fun K hK=>?_) ?_
               ·refine Kd.R_append_step kT (w0:=wq) wq.heap.size (by first | rfl | simp [Region.wanted]) (.tmp 26) (.tmp 55) 94 98 (.agg #[.int .u64 0,.slice none 0 0,.slice none 0 0,.int .i64 0,.int .u64 0,.int .u32 0,.int .i64 0]) 88 rfl Tryz.underlying94 info98 rfl (by decide) (by omega) u8 ts ⟨g0,y1,y3,g5,g6,g7,g8⟩ (tabC ⟨g0,y1,y3,g5,g6,g7,g8⟩ kb2 kb4) (fun _=>True) (fun k=>wb.heap.size≤k) rfl rfl (kT_mkM (t:=⟨g0,y1,y3,g5,g6,g7,g8⟩) Hk14.out.2 Hk14.out.1 (Nat.le_trans HLE.out Hk14.out.1) HKB4.out.2 HKB4.out.1 (Nat.le_trans HLE.out HKB4.out.1)) (fun k hk=>⟨trivial,fun e=>by have:=Kd.R_lt HRB.out k e.symm;omega⟩) (fun _ _=>trivial) (Kd.R_below HRB.out hb4.out) (below_step HWB.out hb4.out) (Nat.le_trans HLE.out (below_size hb4.out)) ?hl6 ?_
                case hl6=>have:=HTL.out;omega
                intro v31 x6 hn hbq hg_ hat_
                have HN6:=hid hn
                have HQ6:=hid hbq
                have hb6:=hid (kt_grown (Kd.R_below HRB.out hb4.out) hg_ (blk_below BK.out hb4.out) (by decide))
                clear hn hbq hg_ hat_
                refine hK.out _ _ ?_ (fun hHeld=>?_)
                ·exact HK.out _ hb6.out
                ·clear hK K
                 try simp only [Act.put,List.getElem_toArray,List.getElem_cons_succ,List.getElem_cons_zero,zA,zB,zC]
                 refine wpAnyH_take (i:=31) (v:=?_) rfl (by kernel_rfl) (by kernel_rfl) (by kernel_rfl) (fun _ _ _ h=>h) (Or.inl ⟨by rfl,?_⟩) (by assumption) ?_
                 rotate_left
                 ·intro w hSw
                  try dsimp only at hSw
                  go_simp
                  try with_reducible rfl
                 simp only [Act.put,List.getElem_toArray,List.getElem_cons_succ,List.getElem_cons_zero,zA,zB,zC]
                 refine wpAnyH_done (by kernel_rfl) ?_ _
                 go_wp2_with fail
                 go_roundg (gk - 1)
                 case measure=>exact HGJ.out.1
                 case rel=>exact ⟨j+1,rfl,⟨HGJ.out.2⟩,⟨by rw [HTK.out,HTB.out];exact HN6.out,HQ6.out⟩⟩
               exact AllReadyH.nil
             exact AllReadyH.nil
           exact AllReadyH.nil
         exact AllReadyH.nil
       refine AllReadyH.cons rfl (fun K hK=>?_) ?_
       ·go_simp
        obtain ⟨x7,hy⟩ : ∃ y,y=Lib.bytesWorld (x1) 5 g3:=⟨_,rfl⟩
        rw [← hy]
        have hbz:Below (x1).heap.size (x1) x7:=by rw [hy];exact bytes_below (Below.refl _ _) (Nat.le_refl _) _ _
        have hat:At x7 ⟨(x1).heap.size,0,none⟩ g3.toList:=by rw [hy];exact bytes_at _ _
        clear hy
        have hb7:=hid (below_step (hb1.out) hbz)
        have Ha17:=hid (at_below HAT1.out hbz)
        obtain ⟨bb7,hbb⟩ : ∃ b,b=(x1).heap.size:=⟨_,rfl⟩
        rw [← hbb] at hat
        rw [← hbb]
        generalize grownCap (x1) g3.size 0 5=cp7
        have HAT7:=hid hat
        clear hat hbz hbb
        refine hK.out _ _ ?_ (fun hHeld=>?_)
        ·exact HK.out _ (blk_below BK.out hb7.out)
        ·clear hK K
         try simp only [Act.put,List.getElem_toArray,List.getElem_cons_succ,List.getElem_cons_zero,zA,zB,zC]
         refine wpAnyH_ready (rs:=[10]) (by kernel_rfl) (by simp) ?_
         refine AllReadyH.cons rfl (fun K hK=>?_) ?_
         ·try go_simp
          go_at_call 68
          refine (kt_calls (s:=g1) (x:=y1) HY1.out Ha17.out hs1 hv2).mono ?_
          rintro e x8 ⟨kb8,rfl,hkl,hkb,hbz⟩
          have hb8:=hid (below_step (hb7.out) hbz)
          have Ha38:=hid (at_below HAT7.out hbz)
          have HKB8:=hid (show wb.heap.size≤kb8∧x8.heap[kb8]? = some (keyO y1) from ⟨Nat.le_trans (below_size hb7.out) hkl,hkb⟩)
          clear hkl hkb hbz
          refine hK.out _ _ ?_ (fun hHeld=>?_)
          ·exact HK.out _ (blk_below BK.out hb8.out)
          ·clear hK K
           try simp only [Act.put,List.getElem_toArray,List.getElem_cons_succ,List.getElem_cons_zero,zA,zB,zC]
           refine wpAnyH_ready (rs:=[17]) (by kernel_rfl) (by simp) ?_
           refine AllReadyH.cons rfl (fun K hK=>?_) ?_
           ·try go_simp
            go_at_call 68
            refine (kt_calls (s:=g3) (x:=y3) HY3.out Ha38.out hs3 hv4).mono ?_
            rintro e x9 ⟨kb9,rfl,hkl,hkb,hbz⟩
            have hb9:=hid (below_step (hb8.out) hbz)
            have Hk19:=hid (show _∧x9.heap[_]? = some _ from ⟨HKB8.out.1,(hbz.block _ (blk_lt HKB8.out.2)).trans HKB8.out.2⟩)
            have HKB9:=hid (show wb.heap.size≤kb9∧x9.heap[kb9]? = some (keyO y3) from ⟨Nat.le_trans (below_size hb8.out) hkl,hkb⟩)
            clear hkl hkb hbz
            refine hK.out _ _ ?_ (fun hHeld=>?_)
            ·exact HK.out _ (blk_below BK.out hb9.out)
            ·clear hK K
             try simp only [Act.put,List.getElem_toArray,List.getElem_cons_succ,List.getElem_cons_zero,zA,zB,zC]
             refine wpAnyH_take (i:=28) (v:=?_) rfl (by kernel_rfl) (by kernel_rfl) (by kernel_rfl) (fun _ _ _ h=>h) (Or.inl ⟨by rfl,?_⟩) (by assumption) ?_
             rotate_left
             ·intro w hSw
              try dsimp only at hSw
              go_simp
              try with_reducible rfl
             simp only [Act.put,List.getElem_toArray,List.getElem_cons_succ,List.getElem_cons_zero,zA,zB,zC]
             refine wpAnyH_ready (rs:=[29]) (by kernel_rfl) (by simp) ?_
             refine AllReadyH.cons rfl (fun K hK=>?_) ?_
             ·go_simp
              refine hK.out _ _ ?_ (fun hHeld=>?_)
              ·exact HK.out _ (blk_below BK.out (below_alloc hb9.out _))
              ·clear hK K
               try simp only [Act.put,List.getElem_toArray,List.getElem_cons_succ,List.getElem_cons_zero,zA,zB,zC]
               refine wpAnyH_ready (rs:=[30]) (by kernel_rfl) (by simp) ?_
               refine AllReadyH.cons rfl (fun K hK=>?_) ?_
               ·refine Kd.R_append_step kT (w0:=wq) wq.heap.size (by first | rfl | simp [Region.wanted]) (.tmp 26) (.tmp 55) 94 98 (.agg #[.int .u64 0,.slice none 0 0,.slice none 0 0,.int .i64 0,.int .u64 0,.int .u32 0,.int .i64 0]) 88 rfl Tryz.underlying94 info98 rfl (by decide) (by omega) u8 ts ⟨g0,y1,y3,g5,g6,g7,g8⟩ (tabC ⟨g0,y1,y3,g5,g6,g7,g8⟩ kb8 kb9) (fun _=>True) (fun k=>wb.heap.size≤k) rfl rfl (kT_mkM (t:=⟨g0,y1,y3,g5,g6,g7,g8⟩) Hk19.out.2 Hk19.out.1 (Nat.le_trans HLE.out Hk19.out.1) HKB9.out.2 HKB9.out.1 (Nat.le_trans HLE.out HKB9.out.1)) (fun k hk=>⟨trivial,fun e=>by have:=Kd.R_lt HRB.out k e.symm;omega⟩) (fun _ _=>trivial) (Kd.R_below HRB.out hb9.out) (below_step HWB.out hb9.out) (Nat.le_trans HLE.out (below_size hb9.out)) ?hl11 ?_
                case hl11=>have:=HTL.out;omega
                intro v31 x11 hn hbq hg_ hat_
                have HN11:=hid hn
                have HQ11:=hid hbq
                have hb11:=hid (kt_grown (Kd.R_below HRB.out hb9.out) hg_ (blk_below BK.out hb9.out) (by decide))
                clear hn hbq hg_ hat_
                refine hK.out _ _ ?_ (fun hHeld=>?_)
                ·exact HK.out _ hb11.out
                ·clear hK K
                 try simp only [Act.put,List.getElem_toArray,List.getElem_cons_succ,List.getElem_cons_zero,zA,zB,zC]
                 refine wpAnyH_take (i:=31) (v:=?_) rfl (by kernel_rfl) (by kernel_rfl) (by kernel_rfl) (fun _ _ _ h=>h) (Or.inl ⟨by rfl,?_⟩) (by assumption) ?_
                 rotate_left
                 ·intro w hSw
                  try dsimp only at hSw
                  go_simp
                  try with_reducible rfl
                 simp only [Act.put,List.getElem_toArray,List.getElem_cons_succ,List.getElem_cons_zero,zA,zB,zC]
                 refine wpAnyH_done (by kernel_rfl) ?_ _
                 go_wp2_with fail
                 go_roundg (gk - 1)
                 case measure=>exact HGJ.out.1
                 case rel=>exact ⟨j+1,rfl,⟨HGJ.out.2⟩,⟨by rw [HTK.out,HTB.out];exact HN11.out,HQ11.out⟩⟩
               exact AllReadyH.nil
             exact AllReadyH.nil
           exact AllReadyH.nil
         exact AllReadyH.nil
       exact AllReadyH.nil
     refine AllReadyH.cons rfl (fun K hK=>?_) ?_
     ·go_simp
      obtain ⟨x12,hy⟩ : ∃ y,y=Lib.bytesWorld (wb.drew) 5 g3:=⟨_,rfl⟩
      rw [← hy]
      have hbz:Below (wb.drew).heap.size (wb.drew) x12:=by rw [hy];exact bytes_below (Below.refl _ _) (Nat.le_refl _) _ _
      have hat:At x12 ⟨wb.heap.size,0,none⟩ g3.toList:=by rw [hy];exact bytes_at _ _
      clear hy
      have hb12:=hid (below_step ((below_drew (Below.refl wb.heap.size wb))) hbz)
      obtain ⟨bb12,hbb⟩ : ∃ b,b=wb.heap.size:=⟨_,rfl⟩
      rw [← hbb] at hat
      rw [← hbb]
      generalize grownCap (wb.drew) g3.size 0 5=cp12
      have HAT12:=hid hat
      clear hat hbz hbb
      refine hK.out _ _ ?_ (fun hHeld=>?_)
      ·exact HK.out _ (blk_below BK.out hb12.out)
      ·clear hK K
       try simp only [Act.put,List.getElem_toArray,List.getElem_cons_succ,List.getElem_cons_zero,zA,zB,zC]
       refine wpAnyH_ready (rs:=[6]) (by kernel_rfl) (by simp) ?_
       refine AllReadyH.cons rfl (fun K hK=>?_) ?_
       ·go_simp
        obtain ⟨x13,hy⟩ : ∃ y,y=Lib.bytesWorld (x12) 5 g1:=⟨_,rfl⟩
        rw [← hy]
        have hbz:Below (x12).heap.size (x12) x13:=by rw [hy];exact bytes_below (Below.refl _ _) (Nat.le_refl _) _ _
        have hat:At x13 ⟨(x12).heap.size,0,none⟩ g1.toList:=by rw [hy];exact bytes_at _ _
        clear hy
        have hb13:=hid (below_step (hb12.out) hbz)
        have Ha313:=hid (at_below HAT12.out hbz)
        obtain ⟨bb13,hbb⟩ : ∃ b,b=(x12).heap.size:=⟨_,rfl⟩
        rw [← hbb] at hat
        rw [← hbb]
        generalize grownCap (x12) g1.size 0 5=cp13
        have HAT13:=hid hat
        clear hat hbz hbb
        refine hK.out _ _ ?_ (fun hHeld=>?_)
        ·exact HK.out _ (blk_below BK.out hb13.out)
        ·clear hK K
         try simp only [Act.put,List.getElem_toArray,List.getElem_cons_succ,List.getElem_cons_zero,zA,zB,zC]
         refine wpAnyH_ready (rs:=[10]) (by kernel_rfl) (by simp) ?_
         refine AllReadyH.cons rfl (fun K hK=>?_) ?_
         ·try go_simp
          go_at_call 68
          refine (kt_calls (s:=g1) (x:=y1) HY1.out HAT13.out hs1 hv2).mono ?_
          rintro e x14 ⟨kb14,rfl,hkl,hkb,hbz⟩
          have hb14:=hid (below_step (hb13.out) hbz)
          have Ha314:=hid (at_below Ha313.out hbz)
          have HKB14:=hid (show wb.heap.size≤kb14∧x14.heap[kb14]? = some (keyO y1) from ⟨Nat.le_trans (below_size hb13.out) hkl,hkb⟩)
          clear hkl hkb hbz
          refine hK.out _ _ ?_ (fun hHeld=>?_)
          ·exact HK.out _ (blk_below BK.out hb14.out)
          ·clear hK K
           try simp only [Act.put,List.getElem_toArray,List.getElem_cons_succ,List.getElem_cons_zero,zA,zB,zC]
           refine wpAnyH_ready (rs:=[17]) (by kernel_rfl) (by simp) ?_
           refine AllReadyH.cons rfl (fun K hK=>?_) ?_
           ·try go_simp
            go_at_call 68
            refine (kt_calls (s:=g3) (x:=y3) HY3.out Ha314.out hs3 hv4).mono ?_
            rintro e x15 ⟨kb15,rfl,hkl,hkb,hbz⟩
            have hb15:=hid (below_step (hb14.out) hbz)
            have Hk115:=hid (show _∧x15.heap[_]? = some _ from ⟨HKB14.out.1,(hbz.block _ (blk_lt HKB14.out.2)).trans HKB14.out.2⟩)
            have HKB15:=hid (show wb.heap.size≤kb15∧x15.heap[kb15]? = some (keyO y3) from ⟨Nat.le_trans (below_size hb14.out) hkl,hkb⟩)
            clear hkl hkb hbz
            refine hK.out _ _ ?_ (fun hHeld=>?_)
            ·exact HK.out _ (blk_below BK.out hb15.out)
            ·clear hK K
             try simp only [Act.put,List.getElem_toArray,List.getElem_cons_succ,List.getElem_cons_zero,zA,zB,zC]
             refine wpAnyH_take (i:=28) (v:=?_) rfl (by kernel_rfl) (by kernel_rfl) (by kernel_rfl) (fun _ _ _ h=>h) (Or.inl ⟨by rfl,?_⟩) (by assumption) ?_
             rotate_left
             ·intro w hSw
              try dsimp only at hSw
              go_simp
              try with_reducible rfl
             simp only [Act.put,List.getElem_toArray,List.getElem_cons_succ,List.getElem_cons_zero,zA,zB,zC]
             refine wpAnyH_ready (rs:=[29]) (by kernel_rfl) (by simp) ?_
             refine AllReadyH.cons rfl (fun K hK=>?_) ?_
             ·go_simp
              refine hK.out _ _ ?_ (fun hHeld=>?_)
              ·exact HK.out _ (blk_below BK.out (below_alloc hb15.out _))
              ·clear hK K
               try simp only [Act.put,List.getElem_toArray,List.getElem_cons_succ,List.getElem_cons_zero,zA,zB,zC]
               refine wpAnyH_ready (rs:=[30]) (by kernel_rfl) (by simp) ?_
               refine AllReadyH.cons rfl (fun K hK=>?_) ?_
               ·refine Kd.R_append_step kT (w0:=wq) wq.heap.size (by first | rfl | simp [Region.wanted]) (.tmp 26) (.tmp 55) 94 98 (.agg #[.int .u64 0,.slice none 0 0,.slice none 0 0,.int .i64 0,.int .u64 0,.int .u32 0,.int .i64 0]) 88 rfl Tryz.underlying94 info98 rfl (by decide) (by omega) u8 ts ⟨g0,y1,y3,g5,g6,g7,g8⟩ (tabC ⟨g0,y1,y3,g5,g6,g7,g8⟩ kb14 kb15) (fun _=>True) (fun k=>wb.heap.size≤k) rfl rfl (kT_mkM (t:=⟨g0,y1,y3,g5,g6,g7,g8⟩) Hk115.out.2 Hk115.out.1 (Nat.le_trans HLE.out Hk115.out.1) HKB15.out.2 HKB15.out.1 (Nat.le_trans HLE.out HKB15.out.1)) (fun k hk=>⟨trivial,fun e=>by have:=Kd.R_lt HRB.out k e.symm;omega⟩) (fun _ _=>trivial) (Kd.R_below HRB.out hb15.out) (below_step HWB.out hb15.out) (Nat.le_trans HLE.out (below_size hb15.out)) ?hl17 ?_
                case hl17=>have:=HTL.out;omega
                intro v31 x17 hn hbq hg_ hat_
                have HN17:=hid hn
                have HQ17:=hid hbq
                have hb17:=hid (kt_grown (Kd.R_below HRB.out hb15.out) hg_ (blk_below BK.out hb15.out) (by decide))
                clear hn hbq hg_ hat_
                refine hK.out _ _ ?_ (fun hHeld=>?_)
                ·exact HK.out _ hb17.out
                ·clear hK K
                 try simp only [Act.put,List.getElem_toArray,List.getElem_cons_succ,List.getElem_cons_zero,zA,zB,zC]
                 refine wpAnyH_take (i:=31) (v:=?_) rfl (by kernel_rfl) (by kernel_rfl) (by kernel_rfl) (fun _ _ _ h=>h) (Or.inl ⟨by rfl,?_⟩) (by assumption) ?_
                 rotate_left
                 ·intro w hSw
                  try dsimp only at hSw
                  go_simp
                  try with_reducible rfl
                 simp only [Act.put,List.getElem_toArray,List.getElem_cons_succ,List.getElem_cons_zero,zA,zB,zC]
                 refine wpAnyH_done (by kernel_rfl) ?_ _
                 go_wp2_with fail
                 go_roundg (gk - 1)
                 case measure=>exact HGJ.out.1
                 case rel=>exact ⟨j+1,rfl,⟨HGJ.out.2⟩,⟨by rw [HTK.out,HTB.out];exact HN17.out,HQ17.out⟩⟩
               exact AllReadyH.nil
             exact AllReadyH.nil
           exact AllReadyH.nil
         exact AllReadyH.nil
       exact AllReadyH.nil
     exact AllReadyH.nil
    ·have d2:decide ((j:Int)<(l.length:Int))=false:=decide_eq_false (by omega)
     have HRL:=hid (show Kd.R kT 98 wy wq.heap.size (fun _=>True) u8 (l.map tbOf) by have h:=HS.out.1;rwa [List.take_of_length_le (by omega)] at h)
     have HBL:=hid HS.out.2
     clear HJ HS
     obtain ⟨A8,n8,c8,hv8⟩:=kslice HRL.out
     subst hv8
     have HR5:=hid (Kd.R_below HQ.out.1 HBL.out)
     have HB5:=hid (below_step HQ.out.2 HBL.out)
     have HI5:=hid (show ((ls.take i).map (·.map tbOf)).length≤100 by rw [List.length_map,List.length_take];omega)
     have HP5:=hid (show (Kd.slice 98 kT).M wy w1.heap.size (fun k=>wq.heap.size≤k) (l.map tbOf) [.slice A8 n8 c8] from ⟨_,rfl,Kd.R_lower (Kd.R_mono (Kd.R_bound HRL.out) (fun k hk=>hk.2.1)) HQ.out.2.size⟩)
     have HD5:=hid (show ∀ k,wq.heap.size≤k→True∧some k≠u5.ownBlock from fun k hk=>⟨trivial,fun e=>by have:=Kd.R_lt HQ.out.1 k e.symm;omega⟩)
     go_wp2_with (first | ((with_reducible refine gate_builtin (b:=.append) (xs:=#[.tmp 58,.tmp 60]) rfl ?_);at_builtin;refine Kd.R_append (Kd.slice 98 kT) (w0:=w1) w1.heap.size rfl (.tmp 58) (.tmp 60) 93 94 (.slice none 0 0) 24 rfl Tryz.underlying93 info94 rfl (by decide) (by omega) u5 ((ls.take i).map (·.map tbOf)) (l.map tbOf) [.slice A8 n8 c8] (fun _=>True) (fun k=>wq.heap.size≤k) rfl rfl ?aP ?aD ?aF ?aO ?aB ?aS ?aL ?_;(case aP=>exact HP5.out);(case aD=>exact HD5.out);(case aB=>exact HB5.out);(case aF=>exact (fun _ _=>trivial));(case aO=>exact HR5.out);(case aS=>exact below_size HB5.out);(case aL=>have:=HI5.out;omega);intro v6 w6 ho hb hg hat;have HR6:=hid ho;have HB6:=hid hb;clear ho hb hg hat))
     go_roundg (gq - 1)
     case measure=>exact HGK.out.1
     case rel=>exact ⟨i+1,rfl,⟨HGK.out.2⟩,⟨by rw [HTKL.out];exact HR6.out,HB6.out⟩⟩
  ·have d1:decide ((i:Int)<(ls.length:Int))=false:=decide_eq_false (by omega)
   have hr:=HQ.out.1
   rw [List.take_of_length_le (by omega),← HXS.out] at hr
   have HR:=hid hr
   obtain ⟨A5,c5,hv5⟩:=Kd.R_slice hr
   have HB:=hid HQ.out.2
   have HO:=hid ((HB.out.block _ (blk_lt HO3.out)).trans HO3.out)
   clear hr HQ HI
   subst hv5
   have o0:=blk_cell HO.out 0
   have o1:=blk_cell HO.out 1
   have o2:=blk_cell HO.out 2
   have o3:=blk_cell HO.out 3
   have o4:=blk_cell HO.out 4
   have o5:=blk_cell HO.out 5
   have o6:=blk_cell HO.out 6
   have o7:=blk_cell HO.out 7
   have hb3:=blk_lt HO.out
   have hb31:b3≠wq.heap.size:=by omega
   have hg:=HG.out
   go_upto_region 22 with (fail)
   obtain ⟨w9,hw9⟩ : ∃ w9,w9=wq.alloc (.cells #[.int .i64 (xs.length:Int),.int .i64 a,.int .i64 b,.int .i64 c,.int .i64 d,.int .i64 e,.int .i64 f,.int .u64 g] 100):=⟨_,rfl⟩
   rw [← hw9]
   have HB9:=hid (show Below wq.heap.size wq w9 by rw [hw9];exact below_alloc (Below.refl _ _) _)
   have n9:=hid (show w9.heap[wq.heap.size]? = some (.cells #[.int .i64 (xs.length:Int),.int .i64 a,.int .i64 b,.int .i64 c,.int .i64 d,.int .i64 e,.int .i64 f,.int .u64 g] 100 (0,0)) by rw [hw9];exact blk_new wq _)
   obtain ⟨b9,hb9⟩ : ∃ b9,b9=wq.heap.size:=⟨_,rfl⟩
   rw [← hb9] at n9
   rw [← hb9]
   clear hw9 o0 o1 o2 o3 o4 o5 o6 o7 hb3 hb31 hg hb9
   have K:=hid (new_calls (w:=w9) (A0:=A5) (c0:=c5) (xs:=xs) (o:=⟨xs.length,a,b,c,d,e,f,g⟩) (Kd.C_below (Kd.R_reads' HR.out).2.2 HB9.out) (Kd.R_reads' HR.out).2.1 rfl (by have:=HXL.out;omega)
    (fun l hl=>by
     rw [HXS.out] at hl
     obtain ⟨l0,h0,rfl⟩:=List.mem_map.1 hl
     rw [List.length_map];exact HLEN.out l0 h0)
    (fun l hl t ht=>by
     rw [HXS.out] at hl
     obtain ⟨l0,h0,rfl⟩:=List.mem_map.1 hl
     obtain ⟨t0,h1,rfl⟩:=List.mem_map.1 ht
     exact tb_ok (HIN.out l0 h0 t0 h1)) HORD.out)
   have HBW:=hid (below_step (below_step HB1.out HB.out) HB9.out)
   simp only [optC] at K
   have k0:=blk_cell n9.out 0
   have k1:=blk_cell n9.out 1
   have k2:=blk_cell n9.out 2
   have k3:=blk_cell n9.out 3
   have k4:=blk_cell n9.out 4
   have k5:=blk_cell n9.out 5
   have k6:=blk_cell n9.out 6
   have k7:=blk_cell n9.out 7
   go_wp2_with fail
   refine K.out.mono ?_
   rintro e2 w2 hp
   obtain ⟨lp,sb,ob,mb,rfl,h1,h2,h3⟩:=hp
   have HP:=hid (show BuildPost w xs ⟨xs.length,a,b,c,d,e,f,g⟩ (.returned (ptr lp)) w2 from ⟨w9,HBW.out,lp,sb,ob,mb,rfl,h1,h2,h3⟩)
   clear h1 h2 h3 K
   simp only [ptr] at HP
   go_wp2_with fail
   go_ret
   exact HP.out
end Go.Proofs.YtnineoajmgneiaaGreat.Bd
