/- Floats: whole numbers, quotients of them, and how words compare. Rows of priorities in memory, and of what is told of them. sort.Slice at a row of priorities, structs of seven cells: what the row holds behind it. What Pick computes, plain: scores, the levels that are picked. addPriority, the comparison of priorities, assertTrue. pickCompactLevels: the walk. Levels.Pick and impl.Pick: the walks. extend: a range between two keys grown by another one. A level's running ranges: whether one overlaps. overlappingTables: the tables of a level that meet a range. append of one row of pointers to another one: what was stays. The state of the plan: the running ranges of each level, the running tables. -/
import Derived.Laws.FloatArith
import Derived.Test.YtnineoajmgneiaaGreatYd
import Derived.Shelf.SlSortFuncK.WholeK
import Derived.Test.YtnineoajmgneiaaGreatYb
import Derived.Test.YtnineoajmgneiaaGreatYc
import Derived.Shelf.SlSorted.Search
import Derived.Maps.AppendAt
import Derived.ArgAppend
set_option linter.unusedSimpArgs false
set_option linter.unusedVariables false
namespace Go.Proofs.YtnineoajmgneiaaGreat.Fl
open Ieee
/-- Double precision. -/
abbrev D:Format:=Ieee.double
theorem least_D:D.leastPlace = -1074:=by decide
theorem binade_D:D.binade=4503599627370496:=by decide
theorem inf_D:D.infRung=9218868437227405312:=by decide
theorem sign_D:D.signWeight=9223372036854775808:=by decide
theorem cmp_cast (a b:Nat):compare (a:Int) (b:Int)=compare a b:=by
 simp only [compare,compareOfLessAndEq]
 by_cases h:a<b
 ·rw [if_pos (by omega),if_pos h]
 ·rw [if_neg (by omega),if_neg h]
  by_cases h2:a=b
  ·rw [if_pos (by omega),if_pos h2]
  ·rw [if_neg (by omega),if_neg h2]
theorem cmp_mul (a b k:Nat) (hk:0<k):compare (a*k) (b*k)=compare a b:=by
 simp only [compare,compareOfLessAndEq]
 by_cases h:a<b
 ·rw [if_pos (Nat.mul_lt_mul_of_pos_right h hk),if_pos h]
 ·rw [if_neg (fun x=>h (Nat.lt_of_mul_lt_mul_right x)),if_neg h]
  by_cases h2:a=b
  ·rw [if_pos (by rw [h2]),if_pos h2]
  ·rw [if_neg (fun x=>h2 (Nat.eq_of_mul_eq_mul_right hk x)),if_neg h2]
theorem order_at (m n:Nat) (i j B:Int) (hi:B≤i) (hj:B≤j) :
  Datum.order (.number false m i) (.number false n j)=some (compare (m*2 ^ (i - B).toNat) (n*2 ^ (j - B).toNat)):=by
 simp only [Datum.order,signed,Bool.false_eq_true,if_false]
 rw [cmp_cast,Nat.shiftLeft_eq,Nat.shiftLeft_eq]
 have h1:(i - B).toNat=(i - min i j).toNat+(min i j - B).toNat:=by omega
 have h2:(j - B).toNat=(j - min i j).toNat+(min i j - B).toNat:=by omega
 rw [h1,h2,Nat.pow_add,Nat.pow_add,← Nat.mul_assoc,← Nat.mul_assoc,cmp_mul _ _ _ (Nat.pow_pos (by omega))]
/-- The mark of a word: its number in units of the least. -/
def V (r:Nat):Nat:=if r<4503599627370496 then r else (4503599627370496+r % 4503599627370496)*2 ^ (r / 4503599627370496 - 1)
theorem V_lt {r s:Nat} (h:r<s):V r<V s:=by
 unfold V
 by_cases h1:r<4503599627370496
 ·rw [if_pos h1]
  by_cases h2:s<4503599627370496
  ·rw [if_pos h2];exact h
  ·rw [if_neg h2]
   have:=Nat.pow_pos (n:=s / 4503599627370496 - 1) (show 0<2 by omega)
   calc r<4503599627370496:=h1
    _≤4503599627370496+s % 4503599627370496:=by omega
    _≤_:=Nat.le_mul_of_pos_right _ this
 ·have h2:¬ s<4503599627370496:=by omega
  rw [if_neg h1,if_neg h2]
  by_cases hq:r / 4503599627370496=s / 4503599627370496
  ·rw [hq]
   exact Nat.mul_lt_mul_of_pos_right (by omega) (Nat.pow_pos (by omega))
  ·have hlt:r / 4503599627370496<s / 4503599627370496:=by omega
   obtain ⟨q,hq1⟩ : ∃ q,r / 4503599627370496=q+1:=⟨r / 4503599627370496 - 1,by omega⟩
   obtain ⟨p,hp1⟩ : ∃ p,s / 4503599627370496=q+1+p+1:=⟨s / 4503599627370496 - (q+2),by omega⟩
   rw [hq1,hp1,Nat.add_sub_cancel,Nat.add_sub_cancel]
   have e:2 ^ (q+1+p)=2 ^ q*2*2 ^ p:=by rw [Nat.pow_add,Nat.pow_succ]
   have hp0:=Nat.pow_pos (n:=p) (show 0<2 by omega)
   have hq0:=Nat.pow_pos (n:=q) (show 0<2 by omega)
   calc (4503599627370496+r % 4503599627370496)*2 ^ q<(4503599627370496*2)*2 ^ q:=Nat.mul_lt_mul_of_pos_right (by omega) hq0
    _=4503599627370496*(2 ^ q*2):=by rw [Nat.mul_assoc,Nat.mul_comm 2]
    _≤4503599627370496*(2 ^ q*2*2 ^ p):=Nat.mul_le_mul_left _ (Nat.le_mul_of_pos_right _ hp0)
    _≤(4503599627370496+s % 4503599627370496)*(2 ^ q*2*2 ^ p):=Nat.mul_le_mul_right _ (by omega)
    _=_:=by rw [e]
theorem cmp_V (r s:Nat):compare (V r) (V s)=compare r s:=by
 rcases Nat.lt_trichotomy r s with h | h | h
 ·rw [Nat.compare_eq_lt.2 h,Nat.compare_eq_lt.2 (V_lt h)]
 ·rw [h];simp
 ·rw [Nat.compare_eq_gt.2 h,Nat.compare_eq_gt.2 (V_lt h)]
theorem read_num {r:Nat} (h:r<9218868437227405312):∃ m i,D.read r=.number false m i ∧ -1074≤i∧m*2 ^ (i+1074).toNat=V r∧(0<r→0<m):=by
 unfold Format.read
 rw [sign_D,inf_D,binade_D,least_D]
 have h1:r / 9223372036854775808 % 2=0:=by omega
 have h2:r % 9223372036854775808=r:=by omega
 rw [h1,h2]
 unfold V
 by_cases h3:r<4503599627370496
 ·simp only [if_pos h3]
  exact ⟨r,-1074,rfl,by omega,by simp,id⟩
 ·simp only [if_neg h3,if_pos h]
  refine ⟨_,_,rfl,by omega,?_,fun _=>by omega⟩
  congr 2
  omega
theorem read_inf:D.read 9218868437227405312=.infinity false:=by decide
/-- The words of numbers that are not negative, and of infinity, go up as their numbers do. -/
theorem order_words {r s:Nat} (hr:r≤9218868437227405312) (hs:s≤9218868437227405312):D.order r s=some (compare r s):=by
 unfold Format.order
 by_cases h1:r=9218868437227405312
 ·subst h1
  rw [read_inf]
  by_cases h2:s=9218868437227405312
  ·subst h2;rw [read_inf];simp [Datum.order]
  ·obtain ⟨m,i,e,_,_⟩:=read_num (r:=s) (by omega)
   rw [e,Nat.compare_eq_gt.2 (by omega)]
   rfl
 ·obtain ⟨m,i,e,hi,hv,_⟩:=read_num (r:=r) (by omega)
  rw [e]
  by_cases h2:s=9218868437227405312
  ·subst h2;rw [read_inf,Nat.compare_eq_lt.2 (by omega)];rfl
  ·obtain ⟨n,j,e2,hj,hv2,_⟩:=read_num (r:=s) (by omega)
   rw [e2,order_at m n i j (-1074) hi hj]
   rw [show i - -1074=i+1074 by omega,show j - -1074=j+1074 by omega,hv,hv2,cmp_V]
/-- What is written is a word of this kind. -/
theorem nearest_le (m:Nat) (p:Int):D.nearest false m p≤9218868437227405312:=by
 unfold Format.nearest
 split
 ·simp [Format.word]
 ·simp only [Format.word,Bool.false_eq_true,if_false,inf_D]
  exact Nat.min_le_right _ _
theorem write_le {d:Datum} (h:d.neg=false) (hn:d.isNaN=false):D.write d≤9218868437227405312:=by
 cases d with
 | number s m e=>simp only [Datum.neg] at h;subst h;exact nearest_le _ _
 | infinity s=>simp only [Datum.neg] at h;subst h;simp [Format.write,Format.word,inf_D]
 | nan s t=>simp [Datum.isNaN] at hn
/-- A quotient by what is not nought. -/
theorem div_word {x y:Nat} (hx:x≤9218868437227405312) (h0:0<y) (hy:y<9218868437227405312):∃ r,D.div x y=some r∧r≤9218868437227405312:=by
 obtain ⟨n,j,e2,hj,hv2,hn⟩:=read_num hy
 unfold Format.div
 rw [e2]
 by_cases h1:x=9218868437227405312
 ·subst h1;rw [read_inf];exact ⟨_,rfl,write_le rfl rfl⟩
 ·obtain ⟨m,i,e,hi,hv,_⟩:=read_num (r:=x) (by omega)
  rw [e]
  have hn0:n≠0:=by have:=hn h0;omega
  simp only [Datum.quotient,if_neg hn0]
  exact ⟨_,rfl,nearest_le _ _⟩
theorem cut0 (neg:Bool) (n:Nat):Toward.even.cut neg n 0=n:=by
 unfold Toward.cut
 simp [Nat.mod_one]
theorem cut_le (neg:Bool) (n d:Nat):Toward.even.cut neg n d≤n / (1 <<< min d (n.log2+2))+1:=by
 unfold Toward.cut
 simp only []
 have:=Bool.toNat_le (decide (1 <<< min d (n.log2+2)<2*(n % 1 <<< min d (n.log2+2))) || (1 <<< min d (n.log2+2) == 2*(n % 1 <<< min d (n.log2+2)) && n / 1 <<< min d (n.log2+2) % 2 == 1))
 omega
theorem cut_ge (neg:Bool) (n d:Nat):n / (1 <<< min d (n.log2+2))≤Toward.even.cut neg n d:=by
 unfold Toward.cut
 exact Nat.le_add_right _ _
theorem nearest_pos {m:Nat} (h:m≠0) (p:Int):D.nearest false m p=min ((max (p+m.log2 - 52) (-1074)+1074).toNat*4503599627370496+Toward.even.cut false (m <<< (p - max (p+m.log2 - 52) (-1074)).toNat) (max (p+m.log2 - 52) (-1074) - p).toNat) 9218868437227405312:=by
 unfold Format.nearest
 rw [if_neg h,least_D,binade_D,inf_D]
 simp only [Format.word,Bool.false_eq_true,if_false]
 rw [show ((D.fractionBits:Nat):Int)=52 from rfl,Int.sub_neg]
theorem read_norm {q k:Nat} (h1:4503599627370496≤k) (h2:k<9007199254740992) (hq:q≤2045):D.read (q*4503599627370496+k)=.number false k (-1074+q):=by
 unfold Format.read
 rw [sign_D,inf_D,binade_D,least_D]
 have e1:(q*4503599627370496+k) / 9223372036854775808 % 2=0:=by omega
 have e2:(q*4503599627370496+k) % 9223372036854775808=q*4503599627370496+k:=by omega
 rw [e1,e2]
 simp only []
 rw [if_neg (by omega),if_pos (by omega)]
 have e3:4503599627370496+(q*4503599627370496+k) % 4503599627370496=k:=by omega
 have e4:(q*4503599627370496+k) / 4503599627370496 - 1=q:=by omega
 rw [e3,e4]
 rfl
theorem log2_lt_of {n e:Nat} (h:n<2 ^ e) (h0:n≠0):n.log2<e:=(Nat.log2_lt h0).2 h
/-- A whole number under 2^53 is a word of its own. -/
theorem whole {n:Nat} (h0:n≠0) (h:n<9007199254740992):D.read (D.nearest false n 0)=.number false (n*2 ^ (52 - n.log2)) (n.log2 - 52)∧D.nearest false n 0<9218868437227405312∧0<D.nearest false n 0:=by
 have hl:n.log2<53:=log2_lt_of (by simpa using h) h0
 have h1:=Nat.log2_self_le h0
 have h2:=@Nat.lt_log2_self n
 have e:max (0+(n.log2:Int) - 52) (-1074)=(n.log2:Int) - 52:=by omega
 rw [nearest_pos h0,e,show ((n.log2:Int) - 52 - 0).toNat=0 by omega,cut0,show (0 - ((n.log2:Int) - 52)).toNat=52 - n.log2 by omega,Nat.shiftLeft_eq]
 have k1:4503599627370496≤n*2 ^ (52 - n.log2):=by
  calc 4503599627370496=2 ^ n.log2*2 ^ (52 - n.log2):=by rw [← Nat.pow_add,show n.log2+(52 - n.log2)=52 by omega]
   _≤_:=Nat.mul_le_mul_right _ h1
 have k2:n*2 ^ (52 - n.log2)<9007199254740992:=by
  calc n*2 ^ (52 - n.log2)<2 ^ (n.log2+1)*2 ^ (52 - n.log2):=Nat.mul_lt_mul_of_pos_right h2 (Nat.pow_pos (by omega))
   _=9007199254740992:=by rw [← Nat.pow_add,show n.log2+1+(52 - n.log2)=53 by omega]
 have e2:((n.log2:Int) - 52+1074).toNat=n.log2+1022:=by omega
 rw [e2,Nat.min_eq_left (by omega)]
 refine ⟨?_,by omega,by omega⟩
 rw [read_norm k1 k2 (by omega),show (-1074:Int)+((n.log2+1022:Nat):Int)=(n.log2:Int) - 52 by omega]
set_option maxRecDepth 4000 in
theorem log2_mul_pow {n:Nat} (h0:n≠0) (h:n<9007199254740992):(n*2 ^ (52 - n.log2)).log2=52:=by
 have hl:n.log2<53:=log2_lt_of (by simpa using h) h0
 have h1:=Nat.log2_self_le h0
 have h2:=@Nat.lt_log2_self n
 have k1:2 ^ 52≤n*2 ^ (52 - n.log2):=by
  calc 2 ^ 52=2 ^ n.log2*2 ^ (52 - n.log2):=by rw [← Nat.pow_add,show n.log2+(52 - n.log2)=52 by omega]
   _≤_:=Nat.mul_le_mul_right _ h1
 have k2:n*2 ^ (52 - n.log2)<2 ^ 53:=by
  calc n*2 ^ (52 - n.log2)<2 ^ (n.log2+1)*2 ^ (52 - n.log2):=Nat.mul_lt_mul_of_pos_right h2 (Nat.pow_pos (by omega))
   _=2 ^ 53:=by rw [← Nat.pow_add,show n.log2+1+(52 - n.log2)=53 by omega]
 have a1:(n*2 ^ (52 - n.log2))≠0:=by omega
 have a2:=(Nat.log2_lt a1).2 k2
 have a3:=(Nat.le_log2 a1).2 k1
 omega
/-- At least 2^e: the word is at least that of 2^e. -/
theorem nearest_ge {m:Nat} {p:Int} (e:Nat) (h0:m≠0) (h:(e:Int)≤p+m.log2) (he:e≤900):(e+1023)*4503599627370496≤D.nearest false m p:=by
 have h1:=Nat.log2_self_le h0
 rw [nearest_pos h0]
 have e1:max (p+(m.log2:Int) - 52) (-1074)=p+(m.log2:Int) - 52:=by omega
 rw [e1]
 have hk:4503599627370496≤Toward.even.cut false (m <<< (p - (p+(m.log2:Int) - 52)).toNat) (p+(m.log2:Int) - 52 - p).toNat:=by
  by_cases hs:m.log2≤52
  ·rw [show (p+(m.log2:Int) - 52 - p).toNat=0 by omega,cut0,show (p - (p+(m.log2:Int) - 52)).toNat=52 - m.log2 by omega,Nat.shiftLeft_eq]
   calc 4503599627370496=2 ^ m.log2*2 ^ (52 - m.log2):=by rw [← Nat.pow_add,show m.log2+(52 - m.log2)=52 by omega]
    _≤_:=Nat.mul_le_mul_right _ h1
  ·rw [show (p - (p+(m.log2:Int) - 52)).toNat=0 by omega,Nat.shiftLeft_zero,show (p+(m.log2:Int) - 52 - p).toNat=m.log2 - 52 by omega]
   refine Nat.le_trans ?_ (cut_ge _ _ _)
   rw [show min (m.log2 - 52) (m.log2+2)=m.log2 - 52 by omega,Nat.shiftLeft_eq,Nat.one_mul,Nat.le_div_iff_mul_le (Nat.pow_pos (by omega))]
   calc 4503599627370496*2 ^ (m.log2 - 52)=2 ^ m.log2:=by rw [show (4503599627370496:Nat)=2 ^ 52 by rfl,← Nat.pow_add,show 52+(m.log2 - 52)=m.log2 by omega]
    _≤m:=h1
 generalize Toward.even.cut false (m <<< (p - (p+(m.log2:Int) - 52)).toNat) (p+(m.log2:Int) - 52 - p).toNat=ct at *
 obtain ⟨q,hq⟩ : ∃ q,q=(p+(m.log2:Int) - 52+1074).toNat:=⟨_,rfl⟩
 have hq2:e+1022≤q:=by omega
 rw [← hq]
 refine Nat.le_min.2 ⟨?_,?_⟩
 ·rw [show e+1023=e+1022+1 from rfl,Nat.succ_mul]
  exact Nat.add_le_add (Nat.mul_le_mul_right _ hq2) hk
 ·exact Nat.le_trans (Nat.mul_le_mul_right _ (show e+1023≤2047 from Nat.add_le_add_right (Nat.le_trans he (by decide:900≤1024)) 1023)) (by decide)
/-- Under 2^(e + 1): the word is at most that of 2^(e + 1). -/
theorem nearest_le_of {m:Nat} {p:Int} (e:Int) (h0:m≠0) (h:p+m.log2≤e) (he : -1022≤e):(D.nearest false m p:Int)≤(e+1024)*4503599627370496:=by
 have h2:=@Nat.lt_log2_self m
 rw [nearest_pos h0]
 obtain ⟨q,hq⟩ : ∃ q,q=max (p+(m.log2:Int) - 52) (-1074):=⟨_,rfl⟩
 rw [← hq]
 have hk:Toward.even.cut false (m <<< (p - q).toNat) (q - p).toNat≤9007199254740992:=by
  by_cases hs:q≤p
  ·rw [show (q - p).toNat=0 by omega,cut0,Nat.shiftLeft_eq]
   have:m*2 ^ (p - q).toNat<2 ^ 53:=by
    calc m*2 ^ (p - q).toNat<2 ^ (m.log2+1)*2 ^ (p - q).toNat:=Nat.mul_lt_mul_of_pos_right h2 (Nat.pow_pos (by omega))
     _=2 ^ (m.log2+1+(p - q).toNat):=(Nat.pow_add 2 _ _).symm
     _≤2 ^ 53:=Nat.pow_le_pow_right (by omega) (by omega)
   omega
  ·rw [show (p - q).toNat=0 by omega,Nat.shiftLeft_zero]
   refine Nat.le_trans (cut_le _ _ _) ?_
   have:m / (1 <<< min (q - p).toNat (m.log2+2))<2 ^ 53:=by
    rw [Nat.shiftLeft_eq,Nat.one_mul,Nat.div_lt_iff_lt_mul (Nat.pow_pos (by omega)),← Nat.pow_add]
    exact Nat.lt_of_lt_of_le h2 (Nat.pow_le_pow_right (by omega) (by omega))
   omega
 omega
/-- At most 1 - 2^-53: the word is under that of 1. -/
theorem nearest_lt_one {m s:Nat} (h0:m≠0) (hs:53≤s) (hs2:s≤900) (h:m+2 ^ (s - 53)≤2 ^ s):D.nearest false m (-(s:Int))<4607182418800017408:=by
 have hl:m.log2<s:=log2_lt_of (by have:=Nat.pow_pos (n:=s - 53) (show 0<2 by omega);omega) h0
 by_cases h1:m.log2+1<s
 ·have:=nearest_le_of (m:=m) (p:=-(s:Int)) (-2) h0 (by omega) (by omega)
  omega
 ·have e0:(m.log2:Int)=s - 1:=by omega
  rw [nearest_pos h0]
  have e1:max (-(s:Int)+(m.log2:Int) - 52) (-1074) = -53:=by omega
  rw [e1,show (-(s:Int) - -53).toNat=0 by omega,Nat.shiftLeft_zero,show (-53 - -(s:Int)).toNat=s - 53 by omega]
  have hk:Toward.even.cut false m (s - 53)<9007199254740992:=by
   have e2:1 <<< min (s - 53) (m.log2+2)=2 ^ (s - 53):=by rw [Nat.shiftLeft_eq,Nat.one_mul,show min (s - 53) (m.log2+2)=s - 53 by omega]
   have hg:=Nat.pow_pos (n:=s - 53) (show 0<2 by omega)
   have e3:2 ^ s=9007199254740992*2 ^ (s - 53):=by rw [show (9007199254740992:Nat)=2 ^ 53 by rfl,← Nat.pow_add,show 53+(s - 53)=s by omega]
   have hlow:m / 2 ^ (s - 53)≤9007199254740991:=by
    have:m / 2 ^ (s - 53)<9007199254740992:=by
     rw [Nat.div_lt_iff_lt_mul hg];omega
    omega
   by_cases hq:m / 2 ^ (s - 53)=9007199254740991
   ·have hr:m % 2 ^ (s - 53)=0:=by
     have:=Nat.div_add_mod m (2 ^ (s - 53))
     rw [hq,Nat.mul_comm] at this
     omega
    unfold Toward.cut
    simp only [e2]
    rw [hr,hq]
    have h3:decide (2 ^ (s - 53)<2*0)=false:=decide_eq_false (by omega)
    have h4:(2 ^ (s - 53) == 2*0)=false:=by rw [beq_eq_false_iff_ne];omega
    rw [h3,h4]
    decide
   ·have:=cut_le false m (s - 53)
    rw [e2] at this
    omega
  omega
/-- The quotient of two whole numbers: some word, under infinity, and at least 1 just where the one is at least the other. -/
theorem div_whole {a b:Nat} (ha:a<9007199254740992) (hb:b<9007199254740992) (hb0:b≠0):∃ r,D.div (D.nearest false a 0) (D.nearest false b 0)=some r∧r<9218868437227405312∧(4607182418800017408≤r↔b≤a):=by
 obtain ⟨rb,_,_⟩:=whole hb0 hb
 have hlb:b.log2<53:=log2_lt_of (by simpa using hb) hb0
 have gb:=log2_mul_pow hb0 hb
 have nb:b*2 ^ (52 - b.log2)≠0:=Nat.mul_ne_zero hb0 (by have:=Nat.pow_pos (n:=52 - b.log2) (show 0<2 by omega);omega)
 unfold Format.div
 rw [rb]
 by_cases ha0:a=0
 ·subst ha0
  have r0:D.read (D.nearest false 0 0)=.number false 0 (-1074):=by decide
  rw [r0]
  simp only [Datum.quotient,if_neg nb,Nat.zero_shiftLeft,Nat.zero_div,Nat.zero_mod]
  refine ⟨_,rfl,?_,?_⟩
  ·simp [Format.write,Format.nearest,Format.word]
  ·simp [Format.write,Format.nearest,Format.word];exact hb0
 ·obtain ⟨ra,_,_⟩:=whole ha0 ha
  have hla:a.log2<53:=log2_lt_of (by simpa using ha) ha0
  have ga:=log2_mul_pow ha0 ha
  rw [ra]
  simp only [Datum.quotient,if_neg nb]
  rw [ga,gb,show D.fractionBits+2+52 - 52=54 by rfl,Nat.shiftLeft_eq]
  obtain ⟨t,ht⟩ : ∃ t,t=54+b.log2 - a.log2:=⟨_,rfl⟩
  have eX:a*2 ^ (52 - a.log2)*2 ^ 54=a*2 ^ t*2 ^ (52 - b.log2):=by
   rw [Nat.mul_assoc,Nat.mul_assoc,← Nat.pow_add,← Nat.pow_add]
   congr 2
   omega
  have eD:a*2 ^ (52 - a.log2)*2 ^ 54 / (b*2 ^ (52 - b.log2))=a*2 ^ t / b:=by
   rw [eX,Nat.mul_div_mul_right _ _ (Nat.pow_pos (by omega))]
  rw [eD]
  generalize (a*2 ^ (52 - a.log2)*2 ^ 54 % (b*2 ^ (52 - b.log2)) != 0)=st
  have hst:=Bool.toNat_le st
  obtain ⟨Q,hQ⟩ : ∃ Q,Q=2*(a*2 ^ t / b)+st.toNat:=⟨_,rfl⟩
  rw [← hQ]
  have ep:(a.log2:Int) - 52 - ((b.log2:Int) - 52) - ((54:Nat):Int) - 1 = -((t+1:Nat):Int):=by omega
  rw [ep]
  have pt:=Nat.pow_pos (n:=t) (show 0<2 by omega)
  have hQ0:Q≠0∨Q=0:=by omega
  refine ⟨_,rfl,?_,?_⟩
  ·show D.nearest false Q _<_
   by_cases hz:Q=0
   ·rw [hz];simp [Format.nearest,Format.word]
   ·have hlog:Q.log2<53+t+1+1:=by
     refine log2_lt_of ?_ hz
     have h1:a*2 ^ t / b≤a*2 ^ t:=Nat.div_le_self _ _
     have h2:a*2 ^ t<9007199254740992*2 ^ t:=Nat.mul_lt_mul_of_pos_right ha pt
     have h3:2 ^ (53+t+1+1)=4*(9007199254740992*2 ^ t):=by
      rw [show 53+t+1+1=2+53+t by omega,Nat.pow_add,Nat.pow_add]
      omega
     omega
    have:=nearest_le_of (m:=Q) (p:=-((t+1:Nat):Int)) 54 hz (by omega) (by omega)
    omega
  ·show _≤D.nearest false Q _↔_
   constructor
   ·intro hge
    refine Nat.le_of_not_lt (fun hlt=>?_)
    have hz:Q≠0:=by
     intro hz
     rw [hz] at hge
     simp [Format.nearest,Format.word] at hge
    have hab:a.log2≤b.log2:=by
     have h1:=Nat.log2_self_le ha0
     have h2:=@Nat.lt_log2_self b
     have h3:2 ^ a.log2<2 ^ (b.log2+1):=by omega
     have:=(Nat.pow_lt_pow_iff_right (show 1<2 by omega)).1 h3
     omega
    have hb2:a*2 ^ t / b+2 ^ (t - 53)+1≤2 ^ t:=by
     have e1:2 ^ t=9007199254740992*2 ^ (t - 53):=by rw [show (9007199254740992:Nat)=2 ^ 53 by rfl,← Nat.pow_add,show 53+(t - 53)=t by omega]
     have pg:=Nat.pow_pos (n:=t - 53) (show 0<2 by omega)
     have h1:a*2 ^ t≤(b - 1)*2 ^ t:=Nat.mul_le_mul_right _ (by omega)
     have h2:(b - 1)*2 ^ t=b*2 ^ t - 2 ^ t:=by rw [Nat.sub_mul,Nat.one_mul]
     have h3:b*2 ^ (t - 53)<2 ^ t:=by
      rw [e1];exact Nat.mul_lt_mul_of_pos_right hb pg
     have h4:a*2 ^ t / b<2 ^ t - 2 ^ (t - 53):=by
      rw [Nat.div_lt_iff_lt_mul (by omega),Nat.sub_mul,Nat.mul_comm (2 ^ t) b,Nat.mul_comm (2 ^ (t - 53)) b]
      have h5:2 ^ t≤b*2 ^ t:=Nat.le_mul_of_pos_left _ (by omega)
      omega
     omega
    have hlt1:=nearest_lt_one (m:=Q) (s:=t+1) hz (by omega) (by omega) (by
     have e1:2 ^ (t+1)=2 ^ t*2:=Nat.pow_succ 2 t
     have e2:2 ^ (t+1 - 53)=2 ^ (t - 53)*2:=by rw [show t+1 - 53=t - 53+1 by omega,Nat.pow_succ]
     omega)
    omega
   ·intro hle
    have h1:2 ^ t≤a*2 ^ t / b:=by
     rw [Nat.le_div_iff_mul_le (by omega),Nat.mul_comm]
     exact Nat.mul_le_mul_right _ hle
    have hz:Q≠0:=by omega
    have h2:t+1≤Q.log2:=(Nat.le_log2 hz).2 (by rw [Nat.pow_succ];omega)
    have:=nearest_ge (m:=Q) (p:=-((t+1:Nat):Int)) 0 hz (by omega) (by omega)
    omega
end Go.Proofs.YtnineoajmgneiaaGreat.Fl
namespace Go.Proofs.YtnineoajmgneiaaGreat.Pk
open Go.RowKit YtnineoajmgneiaaGreatW YtnineoajmgneiaaGreatW.PrintWords YtnineoajmgneiaaGreatW.PrintLast YtnineoajmgneiaaGreatW.PrintMore Fr L Ky Tm Lm It
section
variable {β:Type}
theorem flat_get {k:Nat} (hk:0<k):∀ (ls:List (List β)) (h:∀ x∈ls,x.length=k) (j:Nat),ls.flatten[j]? = (ls[j / k]?).bind (fun x=>x[j % k]?)
 | [],_,j=>by simp
 | x :: r,h,j=>by
  have hx:=h x (by simp)
  rw [List.flatten_cons]
  by_cases hj:j<k
  ·rw [List.getElem?_append_left (by omega),Nat.div_eq_of_lt hj,Nat.mod_eq_of_lt hj];rfl
  ·rw [List.getElem?_append_right (by omega),hx,flat_get hk r (fun y hy=>h y (by simp [hy])) (j - k)]
   obtain ⟨m,rfl⟩ : ∃ m,j=m+k:=⟨j - k,by omega⟩
   rw [Nat.add_sub_cancel,Nat.add_div_right m hk,Nat.add_mod_right]
   rfl
theorem flat_len {k:Nat}:∀ (ls:List (List β)) (h:∀ x∈ls,x.length=k),ls.flatten.length=ls.length*k
 | [],_=>by simp
 | x :: r,h=>by
  rw [List.flatten_cons,List.length_append,h x (by simp),flat_len r (fun y hy=>h y (by simp [hy])),List.length_cons,Nat.add_mul,Nat.one_mul,Nat.add_comm]
end
structure Pr where
 lv:Int
 s:Nat
 a:Nat
 bl:Int
 A:Option Addr
 n:Nat
 c:Nat
 B:Option Addr
 m:Nat
 d:Nat
def prC (q:Pr):List Value:=[.int .i64 q.lv,.float .f64 q.s,.float .f64 q.a,.slice none 0 0,.int .i64 q.bl,.slice q.A q.n q.c,.slice q.B q.m q.d]
def flatP (qs:List Pr):List Value:=(qs.map prC).flatten
theorem prC_len (q:Pr):(prC q).length=7:=rfl
theorem map7 (qs:List Pr):∀ x∈qs.map prC,x.length=7:=fun x hx=>by
 obtain ⟨q,_,rfl⟩:=List.mem_map.1 hx
 rfl
theorem one7 (qs:List Pr):∀ x∈qs.map prC,x.length=7∧∀ v∈x,v.oneCell'=true:=fun x hx=>by
 obtain ⟨q,_,rfl⟩:=List.mem_map.1 hx
 refine ⟨rfl,fun v hv=>?_⟩
 simp only [prC,List.mem_cons,List.not_mem_nil,or_false] at hv
 rcases hv with rfl | rfl | rfl | rfl | rfl | rfl | rfl<;>rfl
theorem flatP_len (qs:List Pr):(flatP qs).length=qs.length*7:=by
 unfold flatP
 rw [flat_len _ (map7 qs),List.length_map]
theorem flatP_app (qs rs:List Pr):flatP (qs++rs)=flatP qs++flatP rs:=by simp [flatP]
theorem flatP_one (q:Pr):flatP [q]=prC q:=by simp [flatP]
theorem flatP_get {qs:List Pr} {i:Nat} {q:Pr} (hi:qs[i]? = some q) (c:Nat) (hc:c<7) (rest:List Value):(flatP qs++rest)[i*7+c]? = (prC q)[c]?:=by
 have hl:i<qs.length:=by
  rcases Nat.lt_or_ge i qs.length with h | h
  ·exact h
  ·rw [List.getElem?_eq_none h] at hi;cases hi
 rw [List.getElem?_append_left (by rw [flatP_len];omega)]
 unfold flatP
 rw [flat_get (by omega) _ (map7 qs),show (i*7+c) / 7=i by omega,show (i*7+c) % 7=c by omega,List.getElem?_map,hi]
 rfl
theorem row_cell {w:World} {g i:Nat} {qs:List Pr} {rest:List Value} {t:TypeId} (hb:w.heap[g]? = some (.cells (flatP qs++rest).toArray t (0,0))) {q:Pr} (hi:qs[i]? = some q) (c:Nat) (hc:c<7) (v:Value) (hv:(prC q)[c]? = some v):w.cell? ⟨g,i*7+c,none⟩=some v:=by
 rw [blk_cell hb,List.getElem?_toArray,flatP_get hi c hc rest,hv]
theorem flatP_set {qs:List Pr} {i:Nat} {q:Pr} (hi:qs[i]? = some q) (x:Nat) (rest:List Value):(flatP qs++rest).set (i*7+2) (.float .f64 x)=flatP (qs.set i { q with a:=x })++rest:=by
 have hl:i<qs.length:=by
  rcases Nat.lt_or_ge i qs.length with h | h
  ·exact h
  ·rw [List.getElem?_eq_none h] at hi;cases hi
 have e:qs=qs.take i++q :: qs.drop (i+1):=by
  rw [List.getElem?_eq_getElem hl] at hi
  have:=Option.some.inj hi
  rw [← this,← List.drop_eq_getElem_cons hl,List.take_append_drop]
 have hset:qs.set i { q with a:=x } = qs.take i ++ { q with a:=x } :: qs.drop (i+1):=by
  rw [List.set_eq_take_append_cons_drop,if_pos hl]
 rw [hset]
 conv=>lhs;rw [e]
 rw [flatP_app,flatP_app,show q :: qs.drop (i+1)=[q]++qs.drop (i+1) from rfl,show { q with a:=x } :: qs.drop (i+1)=[{ q with a:=x }]++qs.drop (i+1) from rfl,flatP_app,flatP_app,flatP_one,flatP_one,List.append_assoc,List.append_assoc]
 have hl7:(flatP (qs.take i)).length=i*7:=by rw [flatP_len,List.length_take,Nat.min_eq_left (by omega)]
 rw [List.set_append_right _ _ (by omega),hl7,show i*7+2 - i*7=2 by omega,List.append_assoc]
 rfl
theorem row_set {w:World} {g i:Nat} {qs:List Pr} {rest:List Value} {t:TypeId} (hb:w.heap[g]? = some (.cells (flatP qs++rest).toArray t (0,0))) {q:Pr} (hi:qs[i]? = some q) (x:Nat):(w.setCell ⟨g,i*7+2,none⟩ (.float .f64 x)).heap[g]? = some (.cells (flatP (qs.set i { q with a:=x })++rest).toArray t (0,0)):=by
 refine (blk_put hb (i*7+2) (.float .f64 x) rfl).trans ?_
 rw [← flatP_set hi x rest]
 simp
section
variable {ops:Array Oper} {rest':List Oper} {o:Oper} {a:Act} {Q:Exit→Act→World→Prop}
set_option maxRecDepth 100000 in
/-- An append onto a row of priorities with room: the next seven cells are written. -/
theorem wpL_roomP {W:World} (hgd:o.guard=none) (s x:Operand) (ho:o.op=.call { callee:=.builtin .append,args:=#[s,x],argTypes:=#[109,109] })
  (g b k cap:Nat) (tb:TypeId) (qs:List Pr) (q:Pr) (rest:List Value)
  (hs:a.eval s=.slice (some ⟨g,0,none⟩) k cap) (hx:a.eval x=.slice (some ⟨b,0,none⟩) 1 1) (hb:W.heap[g]? = some (.cells (flatP qs++rest).toArray 113 (0,0))) (hq:W.heap[b]? = some (.cells (prC q).toArray tb (0,0))) (hk:k=qs.length) (hlt:k<cap) (hr:7≤rest.length)
  (h:∀ w',w'.heap[g]? = some (.cells (flatP (qs++[q])++rest.drop 7).toArray 113 (0,0))→W.grownBy w' (some g)→wpList Tryz.prog ops Q rest' (a.put o.dst (.slice (some ⟨g,0,none⟩) (k+1) cap)) w') :
  wpList Tryz.prog ops Q (o :: rest') a W:=by
 have ht:Tryz.prog.underlying 109=some (.slice 113):=by kernel_rfl
 obtain ⟨i,hi,hie⟩:=Option.map_eq_some_iff.1 (show (Tryz.prog.info? 113).map (fun i=>i.size)=some 7 by kernel_rfl)
 have hsz:i.size=7:=hie
 have hl:(flatP qs).length=k*7:=by rw [flatP_len,hk]
 have hr':=run_append_room (P:=Tryz.prog) W 109 o.type 113 i ht hi g k cap _ hb ⟨b,0,none⟩ 1 1 (prC q) (by rw [hsz];rfl) (fun j v hj=>by
  rw [Addr.add_lit,Nat.zero_add,blk_cell hq j,List.getElem?_toArray]
  exact hj) (fun v hv=>(one7 [q] (prC q) (by simp)).2 v hv) (by omega) (by rw [hsz,prC_len];simp [hl];omega)
 refine wpList_plain hgd fun _ hK=>?_
 unfold Oper.wp execOp
 simp only [ho,resolve,invoke,builtin,Sem.run_bind,Sem.run_pure,Result.andThen_ok,List.map_toArray,List.map_cons,List.map_nil,hs,hx,hr']
 refine hK _ _ (h _ ?_ ?_)
 ·rw [setRow_heap _ g _ _ _ _ hb]
  have e:(flatP qs++rest).toArray.toList.take (k*i.size)++prC q++(flatP qs++rest).toArray.toList.drop (k*i.size+(prC q).length)=flatP (qs++[q])++rest.drop 7:=by
   rw [hsz,flatP_app,flatP_one,prC_len]
   show (flatP qs++rest).take (k*7)++prC q++(flatP qs++rest).drop (k*7+7)=_
   rw [List.take_append,List.drop_append,hl,List.take_of_length_le (by omega),List.drop_eq_nil_of_le (by omega)]
   simp
  rw [e]
 ·refine ⟨rfl,rfl,rfl,by simp,fun j hj hne=>?_⟩
  exact setRow_other _ g j _ (fun e=>hne (by simp [e]))
end
/-- What is told of a priority. -/
structure Q3 where
 lv:Int
 s:Nat
 a:Nat
def z3:Q3:=⟨0,0,0⟩
def fl:Kd Nat:=Kd.scalar (Value.float .f64) (fun _=>rfl)
def k3:Kd Q3:=Kd.iso (Kd.pair (Kd.int .i64) (Kd.pair fl fl)) (fun x:Q3=>(x.lv,x.s,x.a))
theorem k3_open {w:World} {x:Q3} {cs:List Value} (h:k3.K w x cs):cs=[.int .i64 x.lv,.float .f64 x.s,.float .f64 x.a]:=by
 obtain ⟨_,_,rfl,rfl,⟨_,_,rfl,rfl,rfl⟩⟩:=h
 exact rfl
theorem k3_mkM (w:World) (base:Nat) (ok:Nat→Prop) (x:Q3):k3.M w base ok x [.int .i64 x.lv,.float .f64 x.s,.float .f64 x.a]:=⟨[.int .i64 x.lv],[.float .f64 x.s,.float .f64 x.a],rfl,rfl,⟨[.float .f64 x.s],[.float .f64 x.a],rfl,rfl,rfl⟩⟩
def rd3 (xs:List Q3) (i:Int):Q3:=xs.getD i.toNat z3
theorem at3 {w:World} {A:Option Addr} {n:Nat} {xs:List Q3} (h:Kd.C k3 w A n xs) (i:Int) (h0:0≤i) (h1:i<n):∃ ad , A=some ad∧w.cell? (ad.add (i.toNat*3))=some (.int .i64 (rd3 xs i).lv)∧w.cell? ⟨(ad.add (i.toNat*3)).block,(ad.add (i.toNat*3)).off+1,none⟩=some (.float .f64 (rd3 xs i).s)∧w.cell? ⟨(ad.add (i.toNat*3)).block,(ad.add (i.toNat*3)).off+2,none⟩=some (.float .f64 (rd3 xs i).a):=by
 obtain ⟨ad,c,e,_,hK,hc0⟩:=Kd.C_get h z3 i h0 h1
 have hc:∀ j u,c[j]? = some u→w.cell? (ad.add (i.toNat*3+j))=some u:=hc0
 obtain rfl:=k3_open hK
 exact ⟨ad,e,hc 0 _ rfl,by rw [← add_field _ _ 1 (by omega)];exact hc 1 _ rfl,by rw [← add_field _ _ 2 (by omega)];exact hc 2 _ rfl⟩
end Go.Proofs.YtnineoajmgneiaaGreat.Pk
namespace Go.Proofs.YtnineoajmgneiaaGreat.Sk
open Go.Shelf Go.RowKit Go.Lib Go.Sort YtnineoajmgneiaaGreatW.PrintWords Fr Ky Lm Sr Pk
open YtnineoajmgneiaaGreat.Od (ord onFin swo_fin inh sorted_facts)
noncomputable def piT:TypeInfo:=(Tryz.prog.info? 109).get (by kernel_rfl)
noncomputable def piE:TypeInfo:=(Tryz.prog.info? 113).get (by kernel_rfl)
theorem piK (n:Nat) (h2:2≤n):Lib.swapperK n piE 25=9:=by
 have a:piE.hasPointers=true:=by kernel_rfl
 have b:(piE.bytes == 8)=false:=by kernel_rfl
 have c:(n == 0)=false:=by simp;omega
 have d:(n == 1)=false:=by simp;omega
 simp [Lib.swapperK,a,b,c,d]
theorem tinyK_calls (p:Option Addr) (n c:Nat) (h1:n≤1) (lf:Fn) (la lb:Array Value) (w:World) :
  Calls Tryz.prog 88 #[.iface 109 (.slice p n c),.func lf la lb] w fun e w'=>e=.returned (.tuple #[])∧∃ os,w'=grow w os:=by
 have k0:Lib.swapperK n piE 25=if n=0 then 1 else 2:=by
  rcases (show n=0∨n=1 by omega) with rfl | rfl<;>rfl
 rcases (show n=0∨n=1 by omega) with rfl | rfl
 ·exact Any.sort_Slice_tiny Tryz.laysGg6 109 113 piT piE (by kernel_rfl) (by kernel_rfl) (by kernel_rfl) (by kernel_rfl) 25 (fun _=>by kernel_rfl) p 0 c h1 137 (by rw [k0];kernel_rfl) lf la lb w
 ·exact Any.sort_Slice_tiny Tryz.laysGg6 109 113 piT piE (by kernel_rfl) (by kernel_rfl) (by kernel_rfl) (by kernel_rfl) 25 (fun _=>by kernel_rfl) p 1 c h1 138 (by rw [k0];kernel_rfl) lf la lb w
/-- What is asked of the comparison: in every world in which the row's elements are shuffled and all else that was there is as it was, it answers by the places. -/
def LessK (w:World) (g f:Nat) (lb:Array Value) (cs:List (List Value)) (lt:Nat→Nat→Bool):Prop:=
 ∀ (W:World) (σ:Nat→Nat),(∀ t,t<cs.length→σ t<cs.length)→(∀ t c,t<cs.length→c<7→W.cell? ⟨g,t*7+c,none⟩=some (cs.getD (σ t) [])[c]!)→(∀ k,k<w.heap.size→k≠g→W.heap[k]? = w.heap[k]?) →
  ∀ i j,i<cs.length→j<cs.length→Calls Tryz.prog f (#[.int .i64 (i:Int),.int .i64 (j:Int)]++lb) W fun e w'=>e=.returned (.bool (lt (σ i) (σ j)))∧∃ q,w'=W.drewN q
def SortPostK (w:World) (g:Nat) (cs:List (List Value)) (rest:List Value) (lt:Nat→Nat→Bool) (e:Ending) (w':World):Prop:=
 e=.returned (.tuple #[])∧w'.heap[g]? = some (.cells ((((ord cs.length lt).map fun i=>cs.getD i []).flatten)++rest).toArray 113 (0,0))∧Kp w w' (fun i=>some g=some i)
theorem map_range_getDK (cs:List (List Value)):(List.range cs.length).map (fun i=>cs.getD i [])=cs:=by
 refine List.ext_getElem? (fun i=>?_)
 rw [List.getElem?_map]
 by_cases h:i<cs.length
 ·rw [List.getElem?_range h];simp [h]
 ·rw [List.getElem?_eq_none (by simpa using h),List.getElem?_eq_none (by omega)];rfl
set_option maxRecDepth 100000 in
set_option maxHeartbeats 2000000 in
theorem sort_rowK {w:World} {g cap:Nat} {cs:List (List Value)} {rest:List Value} (hb:w.heap[g]? = some (.cells (cs.flatten++rest).toArray 113 (0,0))) (h7:∀ x∈cs,x.length=7∧∀ v∈x,v.oneCell'=true) (hlen:cs.length≤1000000000000) (f:Nat) (lb:Array Value) (eg:∀ args w,(callFunc f args).run Tryz.prog w=.ok (.enter f args) w)
  (lt:Nat→Nat→Bool) (hO:Od.SW cs.length lt) (hless:LessK w g f lb cs lt) :
  Calls Tryz.prog 88 #[.iface 109 (.slice (some ⟨g,0,none⟩) cs.length cap),.func (.func f) #[] lb] w (SortPostK w g cs rest lt):=by
 by_cases h1:cs.length≤1
 ·refine (tinyK_calls _ _ _ h1 _ _ _ w).mono fun e w' ⟨he,os,hw⟩=>⟨he,?_,?_⟩
  ·have ho:ord cs.length lt=List.range cs.length:=by unfold ord;rw [dif_neg (by omega)]
   rw [ho,map_range_getDK,hw,grow_blk w os g (blk_lt hb),hb]
  ·rw [hw];exact kp_grow w os _
 ·have h22:2≤cs.length:=by omega
  obtain ⟨n,hn⟩ : ∃ n,n=cs.length:=⟨_,rfl⟩
  rw [← hn] at h22 hO
  letI:Inhabited (Fin n):=inh h22
  let enc:Fin n→List Value:=fun i=>cs.getD i.val []
  have hmem:∀ i:Fin n,enc i∈cs:=fun i=>by
   have:i.val<cs.length:=by rw [← hn];exact i.isLt
   show cs.getD i.val []∈cs
   rw [List.getD_eq_getElem?_getD,List.getElem?_eq_getElem this]
   exact List.getElem_mem this
  have hk:∀ x,(enc x).length=7:=fun x=>(h7 _ (hmem x)).1
  have hds:(Array.finRange n).size=n:=by simp
  have hget:∀ j (hj:j<n),(Array.finRange n)[j]! = ⟨j,hj⟩:=fun j hj=>by
   rw [getElem!_pos (Array.finRange n) j (by simpa using hj)]
   simp [Array.finRange]
  have hfl:cs.flatten.length=n*7:=by rw [hn];exact flat_len cs (fun x hx=>(h7 x hx).1)
  have hcell:∀ t c,t<n→c<7→(cs.flatten++rest).toArray[t*7+c]? = some (cs.getD t [])[c]!:=fun t c ht hc=>by
   have htn:t<cs.length:=by omega
   rw [List.getElem?_toArray,List.getElem?_append_left (by omega),flat_get (by omega) cs (fun x hx=>(h7 x hx).1),show (t*7+c) / 7=t by omega,show (t*7+c) % 7=c by omega,List.getElem?_eq_getElem htn]
   have hl:(cs[t]).length=7:=(h7 _ (List.getElem_mem htn)).1
   show (cs[t])[c]? = _
   rw [List.getD_eq_getElem?_getD,List.getElem?_eq_getElem htn,Option.getD_some,getElem!_pos (cs[t]) c (by omega)]
   exact List.getElem?_eq_getElem (by omega)
  have hH:HoldsK enc 7 w g 0 (Array.finRange n):=fun j hj=>by
   rw [size_flatK,hds] at hj
   refine ⟨?_,blk_frozen hb _⟩
   have h8:=hcell (j / 7) (j % 7) (by omega) (Nat.mod_lt _ (by omega))
   rw [show j / 7*7+j % 7=j by omega] at h8
   rw [Nat.zero_add,blk_cell hb j,h8,get_flatK _ _ _ _ (by rw [hds];exact hj),hget (j / 7) (by omega)]
   rfl
  have hgs:g<w.heap.size:=blk_lt hb
  have hless2:LessReadsK Tryz.prog f lb enc 7 (onFin n lt) g 0 (Array.finRange n).size w:=by
   intro m os dk hs i j hi hj
   rw [hds] at hs hi hj
   have e:sortWorldK enc 7 w g 0 m dk os=grow (putRowK enc 7 (Sort.ahead w m) g 0 dk) os:=rfl
   have hHg:HoldsK enc 7 (grow (Sort.ahead w m) os) g 0 (Array.finRange n):=holdsK_grow _ _ _ _ g 0 _ hgs (holdsK_ahead _ _ _ _ _ _ _ hH)
   have e2:sortWorldK enc 7 w g 0 m dk os=putRowK enc 7 (grow (Sort.ahead w m) os) g 0 dk:=by
    unfold sortWorldK;rw [putRowK_grow _ _ (Sort.ahead w m) _ g 0 _ hgs]
   have hcells:∀ t c,t<n→c<7→(sortWorldK enc 7 w g 0 m dk os).cell? ⟨g,t*7+c,none⟩=some (cs.getD (dk[t]!).val [])[c]!:=fun t c ht hc=>by
    rw [e2]
    have:=(((holdsK_putRowK _ _ _ g 0 _ dk hHg (by rw [hds];exact hs)).cell (i:=t) (c:=c) (by omega) hc)).1
    rwa [Nat.zero_add] at this
   have:=hless (sortWorldK enc 7 w g 0 m dk os) (fun t=>(dk[t]!).val) (fun t ht=>by rw [← hn];exact (dk[t]!).isLt) (fun t c ht hc=>hcells t c (by omega) hc) (fun k hk hne=>by rw [e];exact put_blk id w m g (flatK enc 7 dk) os k hk hne) i j (by omega) (by omega)
   exact this
  have hS:=Any.sort_Slice_cells_eq Tryz.laysGg6 109 113 piT piE (by kernel_rfl) (by kernel_rfl) (by kernel_rfl) (by kernel_rfl) 25 (fun _=>by kernel_rfl) enc 7 hk (by kernel_rfl) (fun _=>by kernel_rfl) (fun x v hv=>(h7 _ (hmem x)).2 v hv) (onFin n lt) (swo_fin hO) f lb eg g 0 cap (Array.finRange n) (by rw [hds];exact h22) (by rw [hds];omega) 145 (by rw [hds,piK _ h22];kernel_rfl) false
   (fun args W=>run_callFunc_extern Tryz.func145 (by kernel_rfl) (by kernel_rfl) (by kernel_rfl) (e:=Extern.ReflectliteSwapper.swap false) (by kernel_rfl) args W) w hless2 hH hgs
  have es:pdq (onFin n lt) (Array.finRange n) 0 (Array.finRange n).size (Lib.bitLen (Array.finRange n).size) true true=Od.sorted n h22 lt:=by rw [hds];rfl
  rw [es,hds] at hS
  suffices hX:Calls Tryz.prog 88 #[.iface 109 (.slice (some ⟨g,0,none⟩) n cap),.func (.func f) #[] lb] w (SortPostK w g cs rest lt) by rw [hn] at hX;exact hX
  refine hS.mono fun e w' ⟨he,k,os,hw⟩=>⟨he,?_,?_⟩
  ·have hsz:=(sorted_facts h22 hO).1
   have hord:(ord cs.length lt).map (fun i=>cs.getD i [])=(Od.sorted n h22 lt).toList.map enc:=by
    rw [← hn];unfold ord;rw [dif_pos h22,List.map_map];rfl
   rw [hord,hw]
   have ho:=put_own id w k g 113 (flatK enc 7 (Od.sorted n h22 lt)) os _ hb
   rw [show grow (putRowK enc 7 (Sort.ahead w k) g 0 (Od.sorted n h22 lt)) os=grow (putRow id (Sort.ahead w k) g 0 (flatK enc 7 (Od.sorted n h22 lt))) os from rfl,ho]
   congr 2
   have hl7:∀ x∈(Od.sorted n h22 lt).toList.map enc,x.length=7:=fun x hx=>by
    obtain ⟨y,_,rfl⟩:=List.mem_map.1 hx
    exact hk y
   have hfl2:((Od.sorted n h22 lt).toList.map enc).flatten.length=n*7:=by
    rw [flat_len _ hl7,List.length_map,Array.length_toList,hsz]
   refine Array.ext (by simp [putCells,hfl,hfl2]) (fun j hj1 hj2=>?_)
   have hjs:j<n*7+rest.length:=by simpa [putCells,hfl] using hj1
   by_cases hj:j<n*7
   ·have hlt:j / 7<(Od.sorted n h22 lt).size:=by rw [hsz];omega
    have h9:(((Od.sorted n h22 lt).toList.map enc).flatten++rest)[j]? = some (enc (Od.sorted n h22 lt)[j / 7]!)[j % 7]!:=by
     rw [List.getElem?_append_left (by omega),flat_get (by omega) _ hl7,List.getElem?_map,Array.getElem?_toList,Array.getElem?_eq_getElem hlt]
     show (enc ((Od.sorted n h22 lt)[j / 7]))[j % 7]? = _
     rw [getElem!_pos (Od.sorted n h22 lt) (j / 7) hlt,getElem!_pos _ (j % 7) (by rw [hk];exact Nat.mod_lt _ (by omega))]
     exact List.getElem?_eq_getElem (by rw [hk];exact Nat.mod_lt _ (by omega))
    have h10:(putCells id 0 (flatK enc 7 (Od.sorted n h22 lt)) (cs.flatten++rest).toArray)[j]? = some (enc (Od.sorted n h22 lt)[j / 7]!)[j % 7]!:=by
     rw [← get_flatK enc 7 (Od.sorted n h22 lt) j (by rw [hsz];exact hj)]
     have hc0:j<(cs.flatten++rest).length:=by simp [hfl];omega
     have hc1:j<(flatK enc 7 (Od.sorted n h22 lt)).size:=by rw [size_flatK,hsz];exact hj
     simp only [putCells]
     rw [Array.getElem?_eq_getElem (by simpa using hc0)]
     simp [hsz,hj]
    have h11:=Array.getElem?_eq_getElem hj1
    rw [h10] at h11
    have h12:=Array.getElem?_eq_getElem hj2
    rw [List.getElem?_toArray,h9] at h12
    exact (Option.some.inj h11).symm.trans (Option.some.inj h12)
   ·have h9:(((Od.sorted n h22 lt).toList.map enc).flatten++rest)[j]? = rest[j - n*7]?:=by
     rw [List.getElem?_append_right (by omega),hfl2]
    have h10:(putCells id 0 (flatK enc 7 (Od.sorted n h22 lt)) (cs.flatten++rest).toArray)[j]? = rest[j - n*7]?:=by
     have hc0:j<(cs.flatten++rest).length:=by simp [hfl];omega
     have:(cs.flatten++rest)[j]? = rest[j - n*7]?:=by rw [List.getElem?_append_right (by omega),hfl]
     rw [← this]
     simp only [putCells]
     rw [Array.getElem?_eq_getElem (by simpa using hc0)]
     simp [hsz,hj]
    have h11:=Array.getElem?_eq_getElem hj1
    rw [h10] at h11
    have h12:=Array.getElem?_eq_getElem hj2
    rw [List.getElem?_toArray,h9] at h12
    exact Option.some.inj (h11.symm.trans h12)
  ·rw [hw]
   exact (kp_put id w k g _ os).mono (fun i hi=>hi)
end Go.Proofs.YtnineoajmgneiaaGreat.Sk
namespace Go.Proofs.YtnineoajmgneiaaGreat.Pk
open Go.RowKit YtnineoajmgneiaaGreatW YtnineoajmgneiaaGreatW.PrintWords YtnineoajmgneiaaGreatW.PrintLast YtnineoajmgneiaaGreatW.PrintMore Fr L Ky Tm Lm It
open YtnineoajmgneiaaGreat.Fl (D)
open YtnineoajmgneiaaGreat.Tg (blT lp1 adj)
open YtnineoajmgneiaaGreat.Od (ord)
abbrev ONE:Nat:=4607182418800017408
abbrev INF:Nat:=9218868437227405312
def dq (a b:Int):Nat:=(D.div (D.nearest false a.toNat 0) (D.nearest false b.toNat 0)).getD 0
theorem foi {a:Int} (h:0≤a):floatOfInt FloatKind.f64 a=D.nearest false a.toNat 0:=by
 obtain ⟨n,rfl⟩:=Int.eq_ofNat_of_zero_le h
 have e:decide (((n:Nat):Int)<0)=false:=decide_eq_false (by omega)
 show D.write (.number (decide (((n:Nat):Int)<0)) ((n:Nat):Int).natAbs 0)=_
 rw [e]
 rfl
theorem dq_facts {a b:Int} (ha:0≤a∧a<9007199254740992) (hb:1≤b∧b<9007199254740992) :
  D.div (D.nearest false a.toNat 0) (D.nearest false b.toNat 0)=some (dq a b)∧dq a b<INF∧(ONE≤dq a b↔b≤a):=by
 obtain ⟨r,h1,h2,h3⟩:=Fl.div_whole (a:=a.toNat) (b:=b.toNat) (by omega) (by omega) (by omega)
 have e:dq a b=r:=by unfold dq;rw [h1];rfl
 refine ⟨by rw [e,h1],by rw [e];exact h2,by rw [e,h3];omega⟩
theorem run_dq {a b:Int} (ha:0≤a∧a<9007199254740992) (hb:1≤b∧b<9007199254740992) (W:World) :
  (binOp .quo 62 (.float .f64 (floatOfInt FloatKind.f64 a)) (.float .f64 (floatOfInt FloatKind.f64 b))).run Tryz.prog W=.ok (.float .f64 (dq a b)) W:=by
 rw [foi ha.1,foi (by omega:0≤b)]
 exact run_float_arith W .quo 62 .f64 _ _ _ (by unfold floatBits;exact (dq_facts ha hb).1)
/-- The quotient of a word by a finite word above 0. -/
def wq (x y:Nat):Nat:=(D.div x y).getD 0
theorem wq_facts {x y:Nat} (hx:x≤INF) (h0:0<y) (hy:y<INF):D.div x y=some (wq x y)∧wq x y≤INF:=by
 obtain ⟨r,h1,h2⟩:=Fl.div_word hx h0 hy
 have e:wq x y=r:=by unfold wq;rw [h1];rfl
 exact ⟨by rw [e,h1],by rw [e];exact h2⟩
theorem run_wq {x y:Nat} (hx:x≤INF) (h0:0<y) (hy:y<INF) (W:World) :
  (binOp .quo 62 (.float .f64 x) (.float .f64 y)).run Tryz.prog W=.ok (.float .f64 (wq x y)) W:=
 run_float_arith W .quo 62 .f64 _ _ _ (by unfold floatBits;exact (wq_facts hx h0 hy).1)
def score (n0:Nat) (o:Lm.Op) (sz:List Int) (i:Nat):Nat:=if i=0 then dq (n0:Int) o.zero else dq (sz.getD i 0) ((blT o sz).2.getD i 0)
theorem lp1_vals (o:Lm.Op) (hb:1≤o.base∧o.base≤1000000000000000) (hm:2≤o.mult):∀ (i:Nat) (bl:Int) (T:List Int) (db:Int),i<T.length→0≤db→db≤1000000000000000→∀ j,(1≤j→j≤i→1≤(lp1 o i bl T db).2.getD j 0∧(lp1 o i bl T db).2.getD j 0≤1000000000000000)∧(i<j→(lp1 o i bl T db).2.getD j 0=T.getD j 0)
 | 0,bl,T,db,hi,h0,h1,j=>⟨fun h2 h3=>by omega,fun h=>rfl⟩
 | i+1,bl,T,db,hi,h0,h1,j=>by
  rw [Tg.lp1_step]
  have hd:=Tg.tdiv_in h0 hm
  have hl:i<(T.set (i+1) (adj o db)).length:=by rw [List.length_set];omega
  have ih:=lp1_vals o hb hm i (if bl=0∧adj o db≤o.base then ((i+1:Nat):Int) else bl) (T.set (i+1) (adj o db)) (db / o.mult) hl hd.1 (by omega)
  refine ⟨fun h2 h3=>?_,fun h=>?_⟩
  ·by_cases hj:j≤i
   ·exact (ih j).1 h2 hj
   ·obtain rfl:j=i+1:=by omega
    rw [(ih (i+1)).2 (by omega)]
    have e:(T.set (i+1) (adj o db)).getD (i+1) 0=adj o db:=by simp [List.getD_eq_getElem?_getD,hi]
    rw [e]
    unfold adj
    split<;>omega
  ·rw [(ih j).2 (by omega)]
   simp [List.getD_eq_getElem?_getD,List.getElem?_set_ne (show i+1≠j by omega)]
theorem T_range {o:Lm.Op} {sz:List Int} (hb:1≤o.base∧o.base≤1000000000000000) (hm:2≤o.mult) (hz:∀ i,0≤sz.getD i 0∧sz.getD i 0≤1000000000000000) {i:Nat} (h1:1≤i) (hi:i<sz.length):1≤(blT o sz).2.getD i 0∧(blT o sz).2.getD i 0≤1000000000000000:=
 (lp1_vals o hb hm (sz.length - 1) 0 (List.replicate sz.length 0) _ (by rw [List.length_replicate];omega) (hz _).1 (hz _).2 i).1 h1 (by omega)
theorem score_facts {n0:Nat} {o:Lm.Op} {sz:List Int} (hb:1≤o.base∧o.base≤1000000000000000) (hm:2≤o.mult) (hz:∀ i,0≤sz.getD i 0∧sz.getD i 0≤1000000000000000) (hn0:n0≤1000000) (hzero:1≤o.zero∧o.zero≤1000) {i:Nat} (hi:i<sz.length) :
  score n0 o sz i<INF∧(ONE≤score n0 o sz i↔(if i=0 then o.zero≤(n0:Int) else (blT o sz).2.getD i 0≤sz.getD i 0)):=by
 unfold score
 by_cases h:i=0
 ·rw [if_pos h,if_pos h]
  exact (dq_facts (by omega) (by omega)).2
 ·rw [if_neg h,if_neg h]
  have:=T_range hb hm hz (by omega) hi
  have:=hz i
  exact (dq_facts (by omega) (by omega)).2
/-- What Pick tells. -/
structure Picked (n:Nat) (S:Nat→Nat) (qs:List Q3):Prop where
 perm:(qs.map (·.lv)).Perm (((List.range n).filter (fun i=>decide (ONE≤S i))).map (fun (i:Nat)=>(i:Int)))
 sc:∀ q∈qs,q.s=S q.lv.toNat∧q.a≤INF
 ord:qs.Pairwise (fun p q=>q.a≤p.a)
def tell (q:Pr):Q3:=⟨q.lv,q.s,q.a⟩
def startP (S:Nat→Nat) (bl:Int) (A:Option Addr) (n c:Nat) (B:Option Addr) (m d:Nat) (i:Nat):Pr:=⟨(i:Int),S i,S i,bl,A,n,c,B,m,d⟩
def starts (S:Nat→Nat) (bl:Int) (A:Option Addr) (n c:Nat) (B:Option Addr) (m d:Nat) (k:Nat):List Pr:=(List.range k).map (startP S bl A n c B m d)
theorem starts_succ (S:Nat→Nat) (bl:Int) (A:Option Addr) (n c:Nat) (B:Option Addr) (m d:Nat) (k:Nat):starts S bl A n c B m d (k+1)=starts S bl A n c B m d k++[startP S bl A n c B m d k]:=by
 simp [starts,List.range_succ]
theorem starts_len (S:Nat→Nat) (bl:Int) (A:Option Addr) (n c:Nat) (B:Option Addr) (m d:Nat) (k:Nat):(starts S bl A n c B m d k).length=k:=by simp [starts]
theorem starts_at {S:Nat→Nat} {bl:Int} {A:Option Addr} {n c:Nat} {B:Option Addr} {m d:Nat} {k i:Nat} (h:i<k):(starts S bl A n c B m d k)[i]? = some (startP S bl A n c B m d i):=by simp [starts,h]
/-- The row while scores are adjusted: from 'lev' on nothing is adjusted yet. -/
structure Adj (L:Nat) (S:Nat→Nat) (lev:Nat) (qs:List Pr):Prop where
 len:qs.length=L
 at_:∀ i,i<L→∃ q,qs[i]? = some q∧q.lv=(i:Int)∧q.s=S i∧q.a≤INF∧(lev≤i→q.a=S i)
theorem adj_start {L:Nat} {S:Nat→Nat} {lev:Nat} {bl:Int} {A:Option Addr} {n c:Nat} {B:Option Addr} {m d:Nat} (hS:∀ i,i<L→S i<INF):Adj L S lev (starts S bl A n c B m d L):=
 ⟨starts_len ..,fun i hi=>⟨_,starts_at hi,rfl,rfl,Nat.le_of_lt (hS i hi),fun _=>rfl⟩⟩
theorem Adj.mono {L:Nat} {S:Nat→Nat} {lev lev2:Nat} {qs:List Pr} (h:Adj L S lev qs) (hl:lev≤lev2):Adj L S lev2 qs:=
 ⟨h.len,fun i hi=>by obtain ⟨q,h1,h2,h3,h4,h5⟩:=h.at_ i hi;exact ⟨q,h1,h2,h3,h4,fun hh=>h5 (by omega)⟩⟩
theorem Adj.set {L:Nat} {S:Nat→Nat} {lev p:Nat} {qs:List Pr} (h:Adj L S lev qs) {q:Pr} (hq:qs[p]? = some q) (hp:p<lev) {x:Nat} (hx:x≤INF):Adj L S lev (qs.set p { q with a:=x }):=by
 refine ⟨by rw [List.length_set];exact h.len,fun i hi=>?_⟩
 by_cases e:i=p
 ·subst e
  obtain ⟨q2,h1,h2,h3,h4,h5⟩:=h.at_ i hi
  rw [hq] at h1
  obtain rfl:=Option.some.inj h1
  refine ⟨{ q with a:=x },?_,h2,h3,hx,fun hh=>by omega⟩
  rw [List.getElem?_set_self (by rw [h.len];exact hi)]
 ·obtain ⟨q2,h1,h2,h3,h4,h5⟩:=h.at_ i hi
  exact ⟨q2,by rw [List.getElem?_set_ne (Ne.symm e)];exact h1,h2,h3,h4,h5⟩
/-- Those of the first j that score 1 at least. -/
def outs (qs:List Pr) (j:Nat):List Pr:=(qs.take j).filter (fun q=>decide (ONE≤q.s))
theorem outs_succ {qs:List Pr} {j:Nat} {q:Pr} (h:qs[j]? = some q):outs qs (j+1)=if ONE≤q.s then outs qs j++[q] else outs qs j:=by
 have hl:j<qs.length:=by
  rcases Nat.lt_or_ge j qs.length with h2 | h2
  ·exact h2
  ·rw [List.getElem?_eq_none h2] at h;cases h
 rw [List.getElem?_eq_getElem hl] at h
 have e:=Option.some.inj h
 unfold outs
 rw [List.take_succ_eq_append_getElem hl,List.filter_append,e]
 by_cases h1:ONE≤q.s
 ·rw [if_pos h1];simp [h1]
 ·rw [if_neg h1];simp [h1]
theorem outs_len (qs:List Pr) (j:Nat):(outs qs j).length≤j:=by
 unfold outs
 exact Nat.le_trans (List.length_filter_le _ _) (by rw [List.length_take];omega)
theorem outs_lv {L:Nat} {S:Nat→Nat} {lev:Nat} {qs:List Pr} (h:Adj L S lev qs):∀ j,j≤L→(outs qs j).map (·.lv)=((List.range j).filter (fun i=>decide (ONE≤S i))).map (fun (i:Nat)=>(i:Int))
 | 0,_=>rfl
 | j+1,hj=>by
  obtain ⟨q,h1,h2,h3,h4,h5⟩:=h.at_ j (by omega)
  rw [outs_succ h1,List.range_succ,List.filter_append,List.map_append,← outs_lv h j (by omega),h3]
  by_cases e:ONE≤S j
  ·rw [if_pos e,List.map_append];simp [e,h2]
  ·rw [if_neg e];simp [e]
theorem outs_sc {L:Nat} {S:Nat→Nat} {lev:Nat} {qs:List Pr} (h:Adj L S lev qs) {j:Nat}:∀ q∈outs qs j,q.s=S q.lv.toNat∧q.a≤INF:=fun q hq=>by
 have hm:q∈qs:=List.mem_of_mem_take (List.mem_filter.1 hq).1
 obtain ⟨i,hi,e⟩:=List.mem_iff_getElem.1 hm
 obtain ⟨q2,h1,h2,h3,h4,h5⟩:=h.at_ i (by rw [← h.len];exact hi)
 rw [List.getElem?_eq_getElem hi,e] at h1
 obtain rfl:=Option.some.inj h1
 refine ⟨by rw [h3,h2];rfl,h4⟩
def ltA (qs:List Pr) (i j:Nat):Bool:=decide ((qs.map (·.a)).getD j 0<(qs.map (·.a)).getD i 0)
theorem ltA_sw (n:Nat) (qs:List Pr):Od.SW n (ltA qs):=by
 refine ⟨fun x _=>decide_eq_false (by omega),fun x y z _ _ _ h1 h2=>?_,fun x y z _ _ _ h1 h2=>?_⟩
 ·have h1:=of_decide_eq_true h1
  have h2:=of_decide_eq_true h2
  exact decide_eq_true (by omega)
 ·have h1:=of_decide_eq_false h1
  have h2:=of_decide_eq_false h2
  exact decide_eq_false (by omega)
def zP:Pr:=⟨0,0,0,0,none,0,0,none,0,0⟩
def sortP (qs:List Pr):List Pr:=(ord qs.length (ltA qs)).map (fun i=>qs.getD i zP)
theorem map_range_P (qs:List Pr):(List.range qs.length).map (fun i=>qs.getD i zP)=qs:=by
 refine List.ext_getElem? (fun i=>?_)
 rw [List.getElem?_map]
 by_cases h:i<qs.length
 ·rw [List.getElem?_range h];simp [h]
 ·rw [List.getElem?_eq_none (by simpa using h),List.getElem?_eq_none (by omega)];rfl
theorem sortP_perm (qs:List Pr):(sortP qs).Perm qs:=by
 have h:=(Od.ord_perm (ltA_sw qs.length qs)).map (fun i=>qs.getD i zP)
 rw [map_range_P] at h
 exact h
theorem sortP_len (qs:List Pr):(sortP qs).length=qs.length:=(sortP_perm qs).length_eq
theorem sortP_ord (qs:List Pr):(sortP qs).Pairwise (fun p q=>q.a≤p.a):=by
 unfold sortP
 rw [List.pairwise_map]
 refine (Od.ord_sorted (ltA_sw qs.length qs)).imp_of_mem (fun {a b} ha hb hab=>?_)
 have la:=Od.ord_lt (ltA_sw qs.length qs) a ha
 have lb:=Od.ord_lt (ltA_sw qs.length qs) b hb
 have h:=of_decide_eq_false hab
 have g:∀ i,i<qs.length→(qs.map (·.a)).getD i 0=(qs.getD i zP).a:=fun i hi=>by simp [List.getD_eq_getElem?_getD,hi]
 rw [g a la,g b lb] at h
 omega
theorem picked_of {L:Nat} {S:Nat→Nat} {lev:Nat} {qs:List Pr} (h:Adj L S lev qs) {n:Nat} (hn:n≤L):Picked n S ((sortP (outs qs n)).map tell):=by
 refine ⟨?_,fun q hq=>?_,?_⟩
 ·rw [List.map_map,← outs_lv h n hn]
  exact (sortP_perm (outs qs n)).map (fun q=>q.lv)
 ·obtain ⟨p,hp,rfl⟩:=List.mem_map.1 hq
  exact outs_sc h p ((sortP_perm _).mem_iff.1 hp)
 ·rw [List.pairwise_map]
  exact sortP_ord _
end Go.Proofs.YtnineoajmgneiaaGreat.Pk
namespace Go.Proofs.YtnineoajmgneiaaGreat.Pk
open Lib (hid)
open Go.RowKit YtnineoajmgneiaaGreatW YtnineoajmgneiaaGreatW.PrintWords YtnineoajmgneiaaGreatW.PrintLast YtnineoajmgneiaaGreatW.PrintMore Fr L Ky Tm Lm It
theorem run_storeF (a:Addr) (n:Nat) (W:World):(store a (.float .f64 n)).run Tryz.prog W=stored Tryz.prog W a (.float .f64 n) .plain:=run_store Tryz.prog W a _ .plain rfl
/-- A row of priorities, with room. -/
structure PRow (w:World) (pb g k cap:Nat) (qs:List Pr) (rest:List Value):Prop where
 box:w.heap[pb]? = some (.cells #[.slice (some ⟨g,0,none⟩) k cap] 109 (0,0))
 row:w.heap[g]? = some (.cells (flatP qs++rest).toArray 113 (0,0))
theorem PRow.ne {w:World} {pb g k cap:Nat} {qs:List Pr} {rest:List Value} (h:PRow w pb g k cap qs rest):pb≠g:=fun e=>by
 have:=h.box
 rw [e,h.row] at this
 injection this with this
 injection this with _ e _
 exact absurd e (by decide)
theorem PRow.move {w w1:World} {pb g k cap:Nat} {qs:List Pr} {rest:List Value} (h:PRow w pb g k cap qs rest) (h1:w1.heap[pb]? = w.heap[pb]?) (h2:w1.heap[g]? = w.heap[g]?):PRow w1 pb g k cap qs rest:=⟨h1.trans h.box,h2.trans h.row⟩
theorem PRow.below {w w1:World} {pb g k cap:Nat} {qs:List Pr} {rest:List Value} (h:PRow w pb g k cap qs rest) (hb:Below w.heap.size w w1):PRow w1 pb g k cap qs rest:=h.move (hb.block _ (blk_lt h.box)) (hb.block _ (blk_lt h.row))
def AddPP (w:World) (pb g k cap:Nat) (qs:List Pr) (q:Pr) (rest:List Value) (e:Ending) (w':World):Prop:=
 e=.returned (.tuple #[])∧PRow w' pb g (k+1) cap (qs++[q]) (rest.drop 7)∧Below 0 w w'∧∀ b,b<w.heap.size→b≠pb→b≠g→w'.heap[b]? = w.heap[b]?
set_option maxRecDepth 100000 in
set_option maxHeartbeats 4000000 in
theorem add_calls {w:World} {tb pb g k cap n c m d s:Nat} {lv bl:Int} {A B:Option Addr} {qs:List Pr} {rest:List Value} (ht:w.heap[tb]? = some (.cells #[.int .i64 bl,.slice A n c,.slice B m d] 103 (0,0))) (hp:PRow w pb g k cap qs rest) (hk:k=qs.length) (hlt:k<cap) (hr:7≤rest.length) :
  Calls Tryz.prog 84 #[.int .i64 lv,.float .f64 s,.pointer (some ⟨tb,0,none⟩),.pointer (some ⟨pb,0,none⟩)] w (AddPP w pb g k cap qs ⟨lv,s,s,bl,A,n,c,B,m,d⟩ rest):=by
 obtain ⟨Q,hQ⟩ : ∃ Q,Q=AddPP w pb g k cap qs ⟨lv,s,s,bl,A,n,c,B,m,d⟩ rest:=⟨_,rfl⟩
 rw [← hQ]
 have HQ:=hid hQ
 have HP:=hid hp
 have HK:=hid hk
 have HLT:=hid hlt
 have HR:=hid hr
 clear hQ hp hk hlt hr
 have a0:=blk_cell ht 0
 have a1:=blk_cell ht 1
 have a2:=blk_cell ht 2
 have p0:=blk_cell HP.out.box 0
 have rsf:=run_storeF
 go_enter Tryz.func84,Tryz.ntmps84
 go_upto_region 1 with (fail)
 obtain ⟨w1,hw1⟩ : ∃ w1,w1=w.alloc (.cells #[.int .i64 lv,.float .f64 s,.float .f64 s,.slice none 0 0,.int .i64 bl,.slice A n c,.slice B m d] 113):=⟨_,rfl⟩
 rw [← hw1]
 obtain ⟨b6,hb6⟩ : ∃ b,b=w.heap.size:=⟨_,rfl⟩
 rw [← hb6]
 have HB1:=hid (show Below w.heap.size w w1 by rw [hw1];exact below_alloc (Below.refl _ _) _)
 have HX:=hid (show w1.heap[b6]? = some (.cells #[.int .i64 lv,.float .f64 s,.float .f64 s,.slice none 0 0,.int .i64 bl,.slice A n c,.slice B m d] 113 (0,0)) by rw [hw1,hb6];exact blk_new w _)
 have HP1:=hid (HP.out.below HB1.out)
 clear hw1 hb6 a0 a1 a2 p0 ht
 have p0:=blk_cell HP1.out.box 0
 have y0:=blk_frozen HP1.out.box 0
 have q0:=blk_cell HX.out 0
 have q1:=blk_cell HX.out 1
 have q2:=blk_cell HX.out 2
 have q3:=blk_cell HX.out 3
 have q4:=blk_cell HX.out 4
 have q5:=blk_cell HX.out 5
 have q6:=blk_cell HX.out 6
 have HR1:=hid (show (w1.alloc (.cells #[.int .i64 lv,.float .f64 s,.float .f64 s,.slice none 0 0,.int .i64 bl,.slice A n c,.slice B m d] 113)).heap[g]? = some (.cells (flatP qs++rest).toArray 113 (0,0)) from (Below.heap_alloc _ _ _ (blk_lt HP1.out.row)).trans HP1.out.row)
 have HO1:=hid (show (w1.alloc (.cells #[.int .i64 lv,.float .f64 s,.float .f64 s,.slice none 0 0,.int .i64 bl,.slice A n c,.slice B m d] 113)).heap[pb]? = some (.cells #[.slice (some ⟨g,0,none⟩) k cap] 109 (0,0)) from (Below.heap_alloc _ _ _ (blk_lt HP1.out.box)).trans HP1.out.box)
 have HN1:=hid (show (w1.alloc (.cells #[.int .i64 lv,.float .f64 s,.float .f64 s,.slice none 0 0,.int .i64 bl,.slice A n c,.slice B m d] 113)).heap[w1.heap.size]? = some (.cells (prC ⟨lv,s,s,bl,A,n,c,B,m,d⟩).toArray 113 (0,0)) from blk_new w1 _)
 go_wp2_with ((with_reducible refine gate_builtin (b:=.append) (xs:=#[.tmp 12,.tmp 14]) rfl ?_);at_builtin;refine wpL_roomP rfl (.tmp 12) (.tmp 14) rfl g w1.heap.size k cap 113 qs ⟨lv,s,s,bl,A,n,c,B,m,d⟩ rest rfl rfl HR1.out HN1.out HK.out HLT.out HR.out ?_;intro w8 hb8 hg8;have HB8:=hid hb8;have HG8:=hid hg8;clear hb8 hg8;have r8:=(HG8.out.block pb (blk_lt HO1.out) (fun e=>HP1.out.ne (by injection e with e))).trans HO1.out;have HR8:=hid r8;have z0:=blk_cell r8 0;have z1:=blk_frozen r8 0;clear r8)
 have HE:=hid (show AddPP w pb g k cap qs ⟨lv,s,s,bl,A,n,c,B,m,d⟩ rest (.returned (.tuple #[])) (w8.setCell ⟨pb,0,none⟩ (.slice (some ⟨g,0,none⟩) (k+1) cap)) by
  have hne:=HP1.out.ne
  refine ⟨rfl,⟨?_,(Below.heap_setCell w8 ⟨pb,0,none⟩ _ g (fun e=>hne e.symm)).trans HB8.out⟩,?_,fun b hb h1 h2=>?_⟩
  ·exact blk_put HR8.out 0 _ rfl
  ·have t0:Below 0 w w1:=HB1.out.mono (Nat.zero_le _)
   have t1:Below 0 w (w1.alloc (.cells #[.int .i64 lv,.float .f64 s,.float .f64 s,.slice none 0 0,.int .i64 bl,.slice A n c,.slice B m d] 113)):=t0.alloc (Nat.zero_le _) _
   have t2:Below 0 w w8:=t1.grown HG8.out (Nat.zero_le _) (fun k hk=>Nat.zero_le _)
   exact t2.setCell (Nat.zero_le _) _
  ·refine (Below.heap_setCell w8 ⟨pb,0,none⟩ _ b h1).trans ?_
   refine (HG8.out.block b (Nat.lt_of_lt_of_le hb (Nat.le_trans HB1.out.size (by simp))) (fun e=>h2 (by injection e with e))).trans ?_
   exact (Below.heap_alloc _ _ _ (Nat.lt_of_lt_of_le hb HB1.out.size)).trans (HB1.out.block b hb))
 rw [HQ.out]
 go_end0
 exact HE.out
theorem gt_ord {x y:Nat} (hx:x≤9218868437227405312) (hy:y≤9218868437227405312):(FloatKind.f64.format.order x y == some .gt)=decide (y<x):=by
 have g0:FloatKind.f64.format.order x y=some (compare x y):=Fl.order_words hx hy
 rw [g0]
 rcases Nat.lt_trichotomy x y with h | h | h
 ·rw [Nat.compare_eq_lt.2 h,decide_eq_false (by omega)];rfl
 ·rw [Nat.compare_eq_eq.2 h,decide_eq_false (by omega)];rfl
 ·rw [Nat.compare_eq_gt.2 h,decide_eq_true (by omega)];rfl
theorem ge_ord {x y:Nat} (hx:x≤9218868437227405312) (hy:y≤9218868437227405312):(FloatKind.f64.format.order x y == some .gt || FloatKind.f64.format.order x y == some .eq)=decide (y≤x):=by
 have g0:FloatKind.f64.format.order x y=some (compare x y):=Fl.order_words hx hy
 rw [g0]
 rcases Nat.lt_trichotomy x y with h | h | h
 ·rw [Nat.compare_eq_lt.2 h,decide_eq_false (by omega)];rfl
 ·rw [Nat.compare_eq_eq.2 h,decide_eq_true (by omega)];rfl
 ·rw [Nat.compare_eq_gt.2 h,decide_eq_true (by omega)];rfl
/-- The comparison of two priorities. -/
theorem less_calls {w:World} {pb g n cap i j:Nat} {x y:Nat} (hp:w.cell? ⟨pb,0,none⟩=some (.slice (some ⟨g,0,none⟩) n cap)) (hi:i<n) (hj:j<n) (h1:w.cell? ⟨g,i*7+2,none⟩=some (.float .f64 x)) (h2:w.cell? ⟨g,j*7+2,none⟩=some (.float .f64 y)) (hx:x≤9218868437227405312) (hy:y≤9218868437227405312) (hn:n≤1000000) :
  Calls Tryz.prog 89 #[.int .i64 (i:Int),.int .i64 (j:Int),.pointer (some ⟨pb,0,none⟩)] w fun e w'=>e=.returned (.bool (decide (y<x)))∧∃ q,w'=w.drewN q:=by
 go_enter Tryz.func89,Tryz.ntmps89
 go_upto_region 1 with (fail)
 go_quiet (fail)
 go_wp2
 go_ret
 refine ⟨?_,nq,rfl⟩
 show Ending.returned (.bool (FloatKind.f64.format.order x y == some .gt))=_
 rw [gt_ord hx hy]
theorem assert_calls {w:World}:Calls Tryz.prog 87 #[.bool true] w fun e w'=>e=.returned (.tuple #[])∧w=w':=by
 go_enter Tryz.func87,Tryz.ntmps87
 go_wp2_with fail
 go_end0
 exact ⟨rfl,rfl⟩
end Go.Proofs.YtnineoajmgneiaaGreat.Pk
namespace Go.Proofs.YtnineoajmgneiaaGreat.Pk
open Lib (hid)
open List renaming setIfInBounds_toArray → zA,set_cons_zero → zB,set_cons_succ → zC
open Go.RowKit YtnineoajmgneiaaGreatW YtnineoajmgneiaaGreatW.PrintWords YtnineoajmgneiaaGreatW.PrintLast YtnineoajmgneiaaGreatW.PrintMore Fr L Ky Tm Lm It Tg Sk
open YtnineoajmgneiaaGreat.Fl (D)
/-- Levels as Pick reads them. -/
structure PkS (w:World) (sb ob blk c g2 c2 L n0:Nat) (o:Lm.Op) (sz:List Int):Prop where
 lv:Lv w sb ob blk c o sz
 len:sz.length=L
 zero:∃ hp A cc,w.cell? ⟨blk,0,none⟩=some (ptr hp)∧w.cell? ⟨hp,0,none⟩=some (.slice A n0 cc)
 d0:w.cell? ⟨sb,2,none⟩=some (.slice (some ⟨g2,0,none⟩) L c2)
 del:∀ i,i<L→∃ p,w.cell? ⟨g2,i,none⟩=some (ptr p)∧w.cell? ⟨p,1,none⟩=some (.int .i64 0)
theorem PkS.below {w w1:World} {sb ob blk c g2 c2 L n0:Nat} {o:Lm.Op} {sz:List Int} (h:PkS w sb ob blk c g2 c2 L n0 o sz) (hb:Below w.heap.size w w1):PkS w1 sb ob blk c g2 c2 L n0 o sz:=by
 have mv:∀ {a:Addr} {v:Value},w.cell? a=some v→w1.cell? a=some v:=fun hc=>(hb.cell (World.block_lt_of_cell? w _ hc)).trans hc
 obtain ⟨hp,A,cc,h1,h2⟩:=h.zero
 refine ⟨h.lv.below hb,h.len,⟨hp,A,cc,mv h1,mv h2⟩,mv h.d0,fun i hi=>?_⟩
 obtain ⟨p,h1,h2⟩:=h.del i hi
 exact ⟨p,mv h1,mv h2⟩
def PickPost (w:World) (L:Nat) (S:Nat→Nat) (e:Ending) (w':World):Prop:=
 ∃ (g cap:Nat) (qs:List Pr) (rest:List Value),e=.returned (.slice (some ⟨g,0,none⟩) qs.length cap)∧w'.heap[g]? = some (.cells (flatP qs++rest).toArray 113 (0,0))∧Picked (L - 1) S (qs.map tell)∧qs.length≤L∧Below w.heap.size w w'
theorem not_box {W:World} {a:Addr} {x:Int} {pb n c:Nat} {q:Option Addr} {t:TypeId} (h:W.cell? a=some (.int .i64 x)) (hb:W.heap[pb]? = some (.cells #[.slice q n c] t (0,0))):a.block≠pb:=by
 intro e
 unfold World.cell? at h
 rw [e,hb] at h
 simp only at h
 split at h
 ·cases h
 ·cases ho:a.off with
  | zero=>rw [ho] at h;simp at h
  | succ k=>rw [ho] at h;simp at h
theorem bel_of {w w5 wr:World} {pb g:Nat} (h:Below w.heap.size w w5) (hk:Kp w5 wr (fun b=>b=pb∨b=g)) (h1:w.heap.size≤pb) (h2:w.heap.size≤g):Below w.heap.size w wr:=
 Kp.toBelow (S:=fun b=>b=pb∨b=g) ((Kp.of_below h _).trans hk (fun i hi=>.inl hi)) (fun i hi=>by rcases hi with rfl | rfl<;>assumption)
theorem kp_add {w w':World} {pb g:Nat} (hb:Below 0 w w') (hf:∀ b,b<w.heap.size→b≠pb→b≠g→w'.heap[b]? = w.heap[b]?):Kp w w' (fun b=>b=pb∨b=g):=
 ⟨hb,fun i hi hn=>hf i hi (fun e=>hn (.inl e)) (fun e=>hn (.inr e))⟩
theorem drop7 {qs:List Pr} {k:Nat} (hk:k<qs.length) (rest:List Value):(flatP (qs.drop k)++rest).drop 7=flatP (qs.drop (k+1))++rest:=by
 rw [List.drop_eq_getElem_cons hk,show qs[k] :: qs.drop (k+1)=[qs[k]]++qs.drop (k+1) from rfl,flatP_app,flatP_one,List.append_assoc]
 rfl
theorem mid_at {qs:List Pr} {k j:Nat} {os:List Pr} (ho:os.length=k) (hk:k≤j):(os++qs.drop k)[j]? = qs[j]?:=by
 rw [List.getElem?_append_right (by omega),List.getElem?_drop,ho,show k+(j - k)=j by omega]
theorem getD_prC {os:List Pr} {t:Nat} (h:t<os.length):(os.map prC).getD t []=prC (os.getD t zP):=by simp [List.getD_eq_getElem?_getD,h]
theorem sort_flat (os:List Pr):((Od.ord (os.map prC).length (ltA os)).map fun i=>(os.map prC).getD i []).flatten=flatP (sortP os):=by
 unfold flatP sortP
 rw [List.length_map,List.map_map]
 congr 1
 refine List.map_congr_left (fun i hi=>?_)
 exact getD_prC (Od.ord_lt (ltA_sw os.length os) i hi)
theorem less_pr {w:World} {pb g cap:Nat} {os:List Pr} (hb:w.heap[pb]? = some (.cells #[.slice (some ⟨g,0,none⟩) os.length cap] 109 (0,0))) (hne:pb≠g) (ha:∀ q∈os,q.a≤9218868437227405312) (hn:os.length≤1000000):LessK w g 89 #[.pointer (some ⟨pb,0,none⟩)] (os.map prC) (ltA os):=by
 intro W σ hσ hc hf i j hi hj
 rw [List.length_map] at hσ hc hi hj
 have hp:W.cell? ⟨pb,0,none⟩=some (.slice (some ⟨g,0,none⟩) os.length cap):=blk_cell ((hf pb (blk_lt hb) hne).trans hb) 0
 have hx:∀ t,t<os.length→W.cell? ⟨g,t*7+2,none⟩=some (.float .f64 ((os.map (·.a)).getD (σ t) 0))∧(os.map (·.a)).getD (σ t) 0≤9218868437227405312:=fun t ht=>by
  have h1:=hc t 2 ht (by decide)
  rw [getD_prC (hσ t ht)] at h1
  have e:(os.map (·.a)).getD (σ t) 0=(os.getD (σ t) zP).a:=by simp [List.getD_eq_getElem?_getD,hσ t ht]
  rw [e]
  refine ⟨h1,ha _ ?_⟩
  rw [List.getD_eq_getElem?_getD,List.getElem?_eq_getElem (hσ t ht)]
  exact List.getElem_mem _
 exact less_calls hp hi hj (hx i hi).1 (hx j hj).1 (hx i hi).2 (hx j hj).2 hn
theorem results_cell1 {P:Program} {fn:Func} {p:Tmp} {ty:TypeId} (h:fn.results = #[.cell p ty]) (tmps:Array Value) (w:World) (g:Nat) (v:Value) (hp:tmps.getD p undef=.pointer (some ⟨g,0,none⟩)) (hl:(loadVar ty ⟨g,0,none⟩).run P w=.ok v w) :
  (results fn tmps).run P w=.ok v w:=by
 have hp':tmps[p]?.getD undef=.pointer (some ⟨g,0,none⟩):=by simpa using hp
 simp [results,h,hp',asAddr,hl]
theorem load109 {w:World} {g:Nat} {v:Value} (h:w.cell? ⟨g,0,none⟩=some v):(loadVar 109 ⟨g,0,none⟩).run Tryz.prog w=.ok v w:=by
 go_simp
theorem goesC_ {P:Program} {ops:Array Oper} {Q:Exit→Act→World→Prop} {oi:Oper} {N:Option Tmp} {a:Act} {w:World} {K:Act→World→Prop} {f:FuncId} {fn:Func} {x:Operand} {aa:Array Operand} {ts:Array TypeId} (hf:P.funcs[f]? = some fn) (hname:(fn.name == "runtime.NumGoroutine")=false) (hb:fn.body.isSome=true) (args lb all:Array Value)
  (hw:Region.wanted oi (yielded ops a.tmps)=true) (hN:oi.dst=N) (hop:oi.op=.call { callee:=.value x,args:=aa,argTypes:=ts }) (hx:a.eval x=.func (.func f) #[] lb) (hargs:aa.map a.eval=args) (hall:args++lb=all)
  (h:Calls P f all w fun e w'=>∃ v,e=.returned v∧K (a.put N v) w'):if Region.wanted oi (yielded ops a.tmps)=true then Oper.wp P oi a w K Q else K (a.put N undef) w:=by
 refine call_ f all hw hN ?_ h
 have he:=enters_ hf hname hb all w
 unfold execOp
 simp [hop,resolve,Deferred.ofValue,invoke,hx,hargs,hall,he]
theorem run_made (L:Nat) (hL:L≤100):∃ z:Array Value,∀ W:World,(Instr.makeSlice 109 (.int .i64 0) (.int .i64 (L:Int))).run Tryz.prog W=.ok (.slice (some ⟨W.heap.size,0,none⟩) 0 L) (W.alloc (.cells (madeCells z (L*7)) 113)):=by
 obtain ⟨i,hi,hie⟩:=Option.map_eq_some_iff.1 (show (Tryz.prog.info? 113).map (fun i=>(i.zero.isSome,i.size,i.bytes))=some (true,7,104) by kernel_rfl)
 injection hie with h1 h2
 injection h2 with h2 h3
 obtain ⟨z,hz⟩:=Option.isSome_iff_exists.1 h1
 refine ⟨z.cells,fun W=>?_⟩
 have:=run_make (P:=Tryz.prog) W 109 113 i z (by kernel_rfl) hi hz .i64 .i64 0 (L:Int) (by omega) (by omega) (by rw [h3];omega) (by omega)
 rw [this,h2]
 rfl
set_option maxRecDepth 100000 in
set_option maxHeartbeats 8000000 in
theorem pick_calls {w:World} {sb ob blk c g2 c2 L n0:Nat} {o:Lm.Op} {sz:List Int} (hS:PkS w sb ob blk c g2 c2 L n0 o sz) (h2:2≤L) (hx:L≤100) (hz:∀ i,0≤sz.getD i 0∧sz.getD i 0≤1000000000000000) (hn0:n0≤1000000) (hmul:2≤o.mult) (hbase:1≤o.base∧o.base≤1000000000000000) (hzero:1≤o.zero∧o.zero≤1000) :
  Calls Tryz.prog 71 #[.pointer (some ⟨sb,0,none⟩),.slice none 0 0] w (PickPost w L (score n0 o sz)):=by
 obtain ⟨Q,hQ⟩ : ∃ Q,Q=PickPost w L (score n0 o sz):=⟨_,rfl⟩
 rw [← hQ]
 obtain ⟨S,hSS⟩ : ∃ S,S=score n0 o sz:=⟨_,rfl⟩
 rw [← hSS] at hQ
 have HQ:=hid hQ
 have HSS:=hid hSS
 have HSF:=hid (show ∀ i,i<L→S i<INF from fun i hi=>by rw [hSS];exact (score_facts hbase hmul hz hn0 hzero (by rw [hS.len];exact hi)).1)
 clear hSS
 have HS:=hid hS
 have HZ:=hid hz
 have HN0:=hid hn0
 have HB0:=hid hbase
 have HZR:=hid hzero
 have HM:=hid hmul
 have HL2:=hid h2
 have HLX:=hid hx
 have HLEN:=hid hS.len
 clear hQ hS hz hn0 hbase hzero hmul h2 hx
 go_enter Tryz.func71,Tryz.ntmps71
 go_upto_region 1 with (fail)
 obtain ⟨w1,hw1⟩ : ∃ w1,w1=w.alloc (.cells #[.slice none 0 0] 109):=⟨_,rfl⟩
 rw [← hw1]
 obtain ⟨pb,hpb⟩ : ∃ b,b=w.heap.size:=⟨_,rfl⟩
 rw [← hpb]
 have HB1:=hid (show Below w.heap.size w w1 by rw [hw1];exact below_alloc (Below.refl _ _) _)
 have HP1:=hid (show w1.heap[pb]? = some (.cells #[.slice none 0 0] 109 (0,0)) by rw [hw1,hpb];exact blk_new w _)
 have HPB:=hid hpb
 clear hw1 hpb
 have K70:=hid (levelTargets_calls (HS.out.below HB1.out).lv (by rw [HLEN.out];exact HL2.out) (by rw [HLEN.out];exact HLX.out) HZ.out HM.out (by have:=HB0.out;omega))
 go_wp2_with fail
 refine K70.out.mono ?_
 rintro e w2 ⟨A,cA,B,cB,rfl,hA,hB,hcA,hcB,hb2⟩
 rw [HLEN.out] at hA hB hcA hcB ⊢
 have HA:=hid hA
 have HB2:=hid hb2
 have HCA:=hid hcA
 clear hA hB hcA hcB hb2 K70
 obtain ⟨bl,hbl⟩ : ∃ b,b=bl4 o sz:=⟨_,rfl⟩
 rw [← hbl]
 have HBL:=hid (show 1≤bl∧bl≤(L - 1:Nat) by rw [hbl,← HLEN.out];exact bl4_range o sz (by rw [HLEN.out];exact HL2.out))
 clear hbl
 have HP2:=hid ((HB2.out.block _ (blk_lt HP1.out)).trans HP1.out)
 go_upto_region 2 with (fail)
 obtain ⟨w3,hw3⟩ : ∃ w3,w3=w2.alloc (.cells #[.int .i64 bl,.slice A L cA,.slice B L cB] 103):=⟨_,rfl⟩
 rw [← hw3]
 obtain ⟨tb,htb⟩ : ∃ b,b=w2.heap.size:=⟨_,rfl⟩
 rw [← htb]
 have HB3:=hid (show Below w2.heap.size w2 w3 by rw [hw3];exact below_alloc (Below.refl _ _) _)
 have HT3:=hid (show w3.heap[tb]? = some (.cells #[.int .i64 bl,.slice A L cA,.slice B L cB] 103 (0,0)) by rw [hw3,htb];exact blk_new w2 _)
 have HTB:=hid htb
 have HP3:=hid ((HB3.out.block _ (blk_lt HP2.out)).trans HP2.out)
 clear hw3 htb
 obtain ⟨z,hz⟩:=run_made L HLX.out
 have HZZ:=hid hz
 have HS3:=hid (HS.out.below (below_step (below_step HB1.out HB2.out) HB3.out))
 have s0:=HS3.out.lv.s0
 rw [HLEN.out] at s0
 have p0:=blk_cell HP3.out 0
 have y0:=blk_frozen HP3.out 0
 have d0:decide ((0:Int)<(L:Int))=true:=decide_eq_true (by have:=HL2.out;omega)
 have d1:decide (0<L)=true:=decide_eq_true (by have:=HL2.out;omega)
 go_upto_region 5 with (fail)
 obtain ⟨w4,hw4⟩ : ∃ w4,w4=w3.alloc (.cells (madeCells z (L*7)) 113):=⟨_,rfl⟩
 rw [← hw4]
 obtain ⟨g,hg⟩ : ∃ b,b=w3.heap.size:=⟨_,rfl⟩
 rw [← hg]
 have HB4:=hid (show Below w3.heap.size w3 w4 by rw [hw4];exact below_alloc (Below.refl _ _) _)
 have HG4:=hid (show w4.heap[g]? = some (.cells (madeCells z (L*7)) 113 (0,0)) by rw [hw4,hg];exact blk_new w3 _)
 have HG:=hid hg
 have HP4:=hid ((HB4.out.block _ (blk_lt HP3.out)).trans HP3.out)
 have HT4:=hid ((HB4.out.block _ (blk_lt HT3.out)).trans HT3.out)
 clear hw4 hg p0 y0 s0 d0 d1 hz HZZ
 have p0:=blk_cell HP4.out 0
 have y0:=blk_frozen HP4.out 0
 go_upto_region 6 with (fail)
 obtain ⟨w5,hw5⟩ : ∃ w5,w5=w4.setCell ⟨pb,0,none⟩ (.slice (some ⟨g,0,none⟩) 0 L):=⟨_,rfl⟩
 rw [← hw5]
 have HPN:=hid (show pb<w2.heap.size∧w.heap.size≤pb∧tb=w2.heap.size∧w2.heap.size<g from ⟨blk_lt HP2.out,by rw [HPB.out];exact Nat.le_refl _,HTB.out,by have:=blk_lt HT3.out;rw [HG.out,← HTB.out];exact this⟩)
 have HP5:=hid (show PRow w5 pb g 0 L [] (madeCells z (L*7)).toList from ⟨by rw [hw5];exact blk_put HP4.out 0 _ rfl,by
  have h:=(Below.heap_setCell w4 ⟨pb,0,none⟩ (.slice (some ⟨g,0,none⟩) 0 L) g (fun e=>by have:=HPN.out;simp only at e;omega)).trans HG4.out
  rw [hw5,h]
  simp [flatP]⟩)
 have HRL:=hid (show (madeCells z (L*7)).toList.length=L*7 by rw [Array.length_toList,size_madeCells])
 have HT5:=hid (show w5.heap[tb]? = some (.cells #[.int .i64 bl,.slice A L cA,.slice B L cB] 103 (0,0)) by
  rw [hw5]
  exact (Below.heap_setCell w4 ⟨pb,0,none⟩ _ tb (fun e=>by have:=HPN.out;simp only at e;omega)).trans HT4.out)
 have HF5:=hid (show Kp w2 w5 (fun b=>b=pb) by
  rw [hw5]
  exact Kp.setCell (S:=fun b=>b=pb) (p:=⟨pb,0,none⟩) ((Kp.of_below HB3.out _).below HB4.out) (.inl rfl) _)
 have HW5:=hid (show Below w.heap.size w w5 by
  rw [hw5]
  exact (below_step (below_step (below_step HB1.out HB2.out) HB3.out) HB4.out).setCell HPN.out.2.1 _)
 generalize (madeCells z (L*7)).toList=rest at HP5 HRL
 clear hw5 HP4 HT4 HG4 HB4 p0 y0 HP3 HT3 HB3 HS3 HTB HG
 have HS5:=hid (HS.out.below HW5.out)
 have HQ0:=hid (show ∀ W:World,(binOp .quo 62 (.float .f64 (floatOfInt FloatKind.f64 (n0:Int))) (.float .f64 (floatOfInt FloatKind.f64 o.zero))).run Tryz.prog W=.ok (.float .f64 (S 0)) W from fun W=>by
  have e:S 0=dq (n0:Int) o.zero:=by rw [HSS.out];rfl
  rw [e]
  exact run_dq (by have:=HN0.out;omega) (by have:=HZR.out;omega) W)
 have u0:=HS5.out.lv.s0
 rw [HLEN.out] at u0
 obtain ⟨hp0,A0,c0,u1,k2⟩:=HS5.out.zero
 have u2:=HS5.out.lv.s1
 have u3:w5.cell? ⟨ob,3,none⟩=some (.int .i64 o.zero):=blk_cell HS5.out.lv.op 3
 simp only [ptr] at u1 u2
 have K85:=hid (Rg.num_calls (w:=w5.drew) k2)
 have K84:=hid (add_calls (w:=w5.drew) (tb:=tb) (pb:=pb) (g:=g) (k:=0) (cap:=L) (s:=S 0) (lv:=0) (qs:=[]) (rest:=rest) HT5.out ⟨HP5.out.box,HP5.out.row⟩ rfl (by have:=HL2.out;omega) (by rw [HRL.out];have:=HL2.out;omega))
 have hq0:=HQ0.out
 have dL:0<L:=by have:=HL2.out;omega
 clear k2
 refine start_ (n:=19) (S:=fun w'=>w'.cell? ⟨sb,0,none⟩=some (.slice (some ⟨blk,0,none⟩) L c)∧w'.cell? ⟨blk,0,none⟩=some (.pointer (some ⟨hp0,0,none⟩))∧w'.cell? ⟨sb,1,none⟩=some (.pointer (some ⟨ob,0,none⟩))∧w'.cell? ⟨ob,3,none⟩=some (.int .i64 o.zero)) (ds:=[18]) #[false,false,false,false,false,false,false,false,false,false,false,false,false,false,false,false,false,false,false] (by kernel_rfl) rfl rfl ⟨u0,u1,u2,u3⟩ (fun hHeld=>?_)
 refine pure_ (i:=0) (N:=some 35) (v:=?_) (a':=?_) #[true,false,false,false,false,false,false,false,false,false,false,false,false,false,false,false,false,false,false] rfl rfl (by kernel_rfl) (fun _ _ _ h=>h) (Or.inl ⟨by rfl,?_⟩) ?_ ?_
 rotate_left
 ·intro w'
  go_simp
  with_reducible rfl
 rotate_left
 ·simp only [Act.put,zA,zB,zC,i64_w,i32_w]
  rfl
 refine pure_ (i:=1) (N:=some 36) (v:=?_) (a':=?_) #[true,true,false,false,false,false,false,false,false,false,false,false,false,false,false,false,false,false,false] rfl rfl (by kernel_rfl) (fun _ _ _ h=>h) (Or.inl ⟨by rfl,?_⟩) ?_ ?_
 rotate_left
 ·intro w'
  go_simp
  with_reducible rfl
 rotate_left
 ·simp only [Act.put,zA,zB,zC,i64_w,i32_w]
  rfl
 refine pure_ (i:=2) (N:=some 37) (v:=?_) (a':=?_) #[true,true,true,false,false,false,false,false,false,false,false,false,false,false,false,false,false,false,false] rfl rfl (by kernel_rfl) (fun _ _ _ h=>h) (Or.inl ⟨by rfl,?_⟩) ?_ ?_
 rotate_left
 ·intro w'
  go_simp
  with_reducible rfl
 rotate_left
 ·simp only [Act.put,zA,zB,zC,i64_w,i32_w]
  rfl
 refine pure_ (i:=3) (N:=some 38) (v:=?_) (a':=?_) #[true,true,true,true,false,false,false,false,false,false,false,false,false,false,false,false,false,false,false] rfl rfl (by kernel_rfl) (fun _ _ _ h=>h) (Or.inl ⟨by rfl,?_⟩) ?_ ?_
 rotate_left
 ·intro w'
  go_simp
  with_reducible rfl
 rotate_left
 ·simp only [Act.put,zA,zB,zC,i64_w,i32_w]
  rfl
 refine pure_ (i:=9) (N:=some 44) (v:=?_) (a':=?_) #[true,true,true,true,false,false,false,false,false,true,false,false,false,false,false,false,false,false,false] rfl rfl (by kernel_rfl) (fun _ _ _ h=>h) (Or.inl ⟨by rfl,?_⟩) ?_ ?_
 rotate_left
 ·intro w'
  go_simp
  with_reducible rfl
 rotate_left
 ·simp only [Act.put,zA,zB,zC,i64_w,i32_w]
  rfl
 refine pure_ (i:=10) (N:=some 45) (v:=?_) (a':=?_) #[true,true,true,true,false,false,false,false,false,true,true,false,false,false,false,false,false,false,false] rfl rfl (by kernel_rfl) (fun _ _ _ h=>h) (Or.inl ⟨by rfl,?_⟩) ?_ ?_
 rotate_left
 ·intro w'
  go_simp
  with_reducible rfl
 rotate_left
 ·simp only [Act.put,zA,zB,zC,i64_w,i32_w]
  rfl
 refine pure_ (i:=11) (N:=some 46) (v:=?_) (a':=?_) #[true,true,true,true,false,false,false,false,false,true,true,true,false,false,false,false,false,false,false] rfl rfl (by kernel_rfl) (fun _ _ _ h=>h) (Or.inl ⟨by rfl,?_⟩) ?_ ?_
 rotate_left
 ·intro w'
  go_simp
  with_reducible rfl
 rotate_left
 ·simp only [Act.put,zA,zB,zC,i64_w,i32_w]
  rfl
 refine take_ (i:=4) (N:=some 39) (v:=?_) (a':=?_) #[true,true,true,true,true,false,false,false,false,true,true,true,false,false,false,false,false,false,false] rfl rfl (by kernel_rfl) (fun _ _ _ h=>h) (Or.inl ⟨by rfl,?_⟩) hHeld ?_ ?_
 rotate_left
 ·rintro w' ⟨s0,s1,s2,s3⟩
  go_simp
  with_reducible rfl
 rotate_left
 ·simp only [Act.put,zA,zB,zC,i64_w,i32_w]
  rfl
 refine pure_ (i:=5) (N:=some 40) (v:=?_) (a':=?_) #[true,true,true,true,true,true,false,false,false,true,true,true,false,false,false,false,false,false,false] rfl rfl (by kernel_rfl) (fun _ _ _ h=>h) (Or.inl ⟨by rfl,?_⟩) ?_ ?_
 rotate_left
 ·intro w'
  go_simp
  with_reducible rfl
 rotate_left
 ·simp only [Act.put,zA,zB,zC,i64_w,i32_w]
  rfl
 refine take_ (i:=6) (N:=some 41) (v:=?_) (a':=?_) #[true,true,true,true,true,true,true,false,false,true,true,true,false,false,false,false,false,false,false] rfl rfl (by kernel_rfl) (fun _ _ _ h=>h) (Or.inl ⟨by rfl,?_⟩) hHeld ?_ ?_
 rotate_left
 ·rintro w' ⟨s0,s1,s2,s3⟩
  go_simp
  with_reducible rfl
 rotate_left
 ·simp only [Act.put,zA,zB,zC,i64_w,i32_w]
  rfl
 refine take_ (i:=12) (N:=some 47) (v:=?_) (a':=?_) #[true,true,true,true,true,true,true,false,false,true,true,true,true,false,false,false,false,false,false] rfl rfl (by kernel_rfl) (fun _ _ _ h=>h) (Or.inl ⟨by rfl,?_⟩) hHeld ?_ ?_
 rotate_left
 ·rintro w' ⟨s0,s1,s2,s3⟩
  go_simp
  with_reducible rfl
 rotate_left
 ·simp only [Act.put,zA,zB,zC,i64_w,i32_w]
  rfl
 refine pure_ (i:=13) (N:=some 48) (v:=?_) (a':=?_) #[true,true,true,true,true,true,true,false,false,true,true,true,true,true,false,false,false,false,false] rfl rfl (by kernel_rfl) (fun _ _ _ h=>h) (Or.inl ⟨by rfl,?_⟩) ?_ ?_
 rotate_left
 ·intro w'
  go_simp
  with_reducible rfl
 rotate_left
 ·simp only [Act.put,zA,zB,zC,i64_w,i32_w]
  rfl
 refine pure_ (i:=14) (N:=some 49) (v:=?_) (a':=?_) #[true,true,true,true,true,true,true,false,false,true,true,true,true,true,true,false,false,false,false] rfl rfl (by kernel_rfl) (fun _ _ _ h=>h) (Or.inl ⟨by rfl,?_⟩) ?_ ?_
 rotate_left
 ·intro w'
  go_simp
  with_reducible rfl
 rotate_left
 ·simp only [Act.put,zA,zB,zC,i64_w,i32_w]
  rfl
 refine take_ (i:=15) (N:=some 50) (v:=?_) (a':=?_) #[true,true,true,true,true,true,true,false,false,true,true,true,true,true,true,true,false,false,false] rfl rfl (by kernel_rfl) (fun _ _ _ h=>h) (Or.inl ⟨by rfl,?_⟩) hHeld ?_ ?_
 rotate_left
 ·rintro w' ⟨s0,s1,s2,s3⟩
  go_simp
  with_reducible rfl
 rotate_left
 ·simp only [Act.put,zA,zB,zC,i64_w,i32_w]
  rfl
 refine pure_ (i:=16) (N:=some 51) (v:=?_) (a':=?_) #[true,true,true,true,true,true,true,false,false,true,true,true,true,true,true,true,true,false,false] rfl rfl (by kernel_rfl) (fun _ _ _ h=>h) (Or.inl ⟨by rfl,?_⟩) ?_ ?_
 rotate_left
 ·intro w'
  go_simp
  with_reducible rfl
 rotate_left
 ·simp only [Act.put,zA,zB,zC,i64_w,i32_w]
  rfl
 refine one_ (i:=7) (N:=some 42) #[true,true,true,true,true,true,true,true,false,true,true,true,true,true,true,true,true,false,false] rfl rfl (by kernel_rfl) (by decide) (fun K hK=>?_)
 refine goes_ Tryz.func85 (by kernel_rfl) rfl #[.pointer (some ⟨hp0,0,none⟩)] (by rfl) rfl rfl (by simp only [List.map_toArray,List.map_cons,List.map_nil];rfl) ?_
 with_reducible refine (K85.out).mono ?_
 rintro e wz ⟨rfl,rfl⟩
 refine ⟨_,rfl,?_⟩
 refine hK.out _ _ ⟨u0,u1,u2,u3⟩ (fun hHeld=>?_)
 clear hK K
 refine norm_ (a':=?_) ?_ ?_
 rotate_left
 ·show Act.put _ (some 42) _=_
  simp only [Act.put,zA,zB,zC,i64_w,i32_w]
  rfl
 refine pure_ (i:=8) (N:=some 43) (v:=?_) (a':=?_) #[true,true,true,true,true,true,true,true,true,true,true,true,true,true,true,true,true,false,false] rfl rfl (by kernel_rfl) (fun _ _ _ h=>h) (Or.inl ⟨by rfl,?_⟩) ?_ ?_
 rotate_left
 ·intro w'
  go_simp
  with_reducible rfl
 rotate_left
 ·simp only [Act.put,zA,zB,zC,i64_w,i32_w]
  rfl
 refine pure_ (i:=17) (N:=some 52) (v:=?_) (a':=?_) #[true,true,true,true,true,true,true,true,true,true,true,true,true,true,true,true,true,true,false] rfl rfl (by kernel_rfl) (fun _ _ _ h=>h) (Or.inl ⟨by rfl,?_⟩) ?_ ?_
 rotate_left
 ·intro w'
  go_simp
  with_reducible rfl
 rotate_left
 ·simp only [Act.put,zA,zB,zC,i64_w,i32_w]
  rfl
 refine last_ (i:=18) (N:=some 53) #[true,true,true,true,true,true,true,true,true,true,true,true,true,true,true,true,true,true,true] rfl rfl (by kernel_rfl) (by decide) (fun K hK=>?_)
 refine goesC_ Tryz.func84 (by kernel_rfl) rfl #[.int .i64 0,.float .f64 (S 0)] #[.pointer (some ⟨tb,0,none⟩),.pointer (some ⟨pb,0,none⟩)] #[.int .i64 0,.float .f64 (S 0),.pointer (some ⟨tb,0,none⟩),.pointer (some ⟨pb,0,none⟩)] (by rfl) rfl rfl (by rfl) (by simp only [List.map_toArray,List.map_cons,List.map_nil];rfl) (by rfl) ?_
 with_reducible refine (K84.out).mono ?_
 rintro e w6 ⟨rfl,hrow6,hb6,hf6⟩
 refine ⟨_,rfl,?_⟩
 refine hK.out _ _ ?_
 clear hK K
 refine norm_ (a':=?_) ?_ ?_
 rotate_left
 ·show Act.put _ (some 53) _=_
  simp only [Act.put,zA,zB,zC,i64_w,i32_w]
  rfl
 refine done_ (by kernel_rfl) ?_
 have HR6:=hid (show PRow w6 pb g 1 L (starts S bl A L cA B L cB 1) (rest.drop (1*7)) from hrow6)
 have HK6:=hid (show Kp w5 w6 (fun b=>b=pb∨b=g) from (Kp.refl w5 _).drew.trans (kp_add hb6 hf6) (fun i hi=>.inl hi))
 clear hHeld hrow6 hb6 hf6 u0 u1 u2 u3 K85 K84 hq0 dL
 have HTC:=hid (show ∃ ad:Addr,A=some ad∧∀ i,i<L→w5.cell? (ad.add i)=some (.int .i64 ((blT o sz).2.getD i 0))∧(ad.add i).block≠pb∧(ad.add i).block≠g by
  obtain ⟨ad,e,_⟩:=Kd.at_int HA.out 0 (by omega) (by have:=HL2.out;omega)
  refine ⟨ad,e,fun i hi=>?_⟩
  obtain ⟨ad2,e2,h⟩:=Kd.at_int HA.out (i:Int) (by omega) (by omega)
  rw [e] at e2
  obtain rfl:=Option.some.inj e2
  have h:w2.cell? (ad.add i)=some (.int .i64 ((blT o sz).2.getD i 0)):=h
  have h1:=not_box h HP2.out
  have h2:=World.block_lt_of_cell? w2 _ h
  have h3:=HPN.out
  exact ⟨HF5.out.cell h h1,h1,by omega⟩)
 clear HA HF5
 obtain ⟨ad,hA,htc⟩:=HTC.out
 subst hA
 have HTC:=hid htc
 clear htc
 go_upto_block 0 with (fail)
 go_cut [7] from 54 to 90 (fun v7 wr=>PRow wr pb g L L (starts S bl (some ad) L cA B L cB L) (rest.drop (L*7))∧Kp w5 wr (fun b=>b=pb∨b=g))
 case first =>
  go_wp2_with fail
  go_loopg [7] L (fun kq v7 wr=>∃ i:Nat,v7=.int .i64 (i:Int)∧Aside0 (1≤i∧i≤L∧L≤i+kq)∧Aside0 (PRow wr pb g i L (starts S bl (some ad) L cA B L cB i) (rest.drop (i*7))∧Kp w5 wr (fun b=>b=pb∨b=g)))
  case atStart=>exact ⟨1,rfl,⟨by omega,by have:=HL2.out;omega,by omega⟩,⟨HR6.out,HK6.out⟩⟩
  case round =>
   obtain ⟨i,rfl,HI,HQ2⟩:=hrel
   have HR:=hid HQ2.out.1
   have HK:=hid HQ2.out.2
   clear HQ2 HR6 HK6
   have HSW:=hid (HS.out.below (bel_of HW5.out HK.out HPN.out.2.1 (by have:=HPN.out;omega)))
   have s0:=HSW.out.lv.s0
   rw [HLEN.out] at s0
   by_cases hi:i<L
   ·have d1:decide ((i:Int)<(L:Int))=true:=decide_eq_true (by omega)
    have dn:i<L:=hi
    have HGK:=hid (show gk - 1<gk∧1≤i+1∧i+1≤L∧L≤i+1+(gk - 1) by have:=HI.out;omega)
    obtain ⟨hp,a1,a2⟩:=HSW.out.lv.at_ i (by rw [HLEN.out];exact hi)
    obtain ⟨p,b1,b2⟩:=HSW.out.del i hi
    have b0:=HSW.out.d0
    have hzi:=HZ.out i
    have K86:=hid (Rg.delSize_calls (w:=wr) b0 hi b1 b2)
    have K83:=hid (tot_calls a2)
    have ht:=HTC.out i hi
    have t1:wr.cell? (ad.add i)=some (.int .i64 ((blT o sz).2.getD i 0)):=HK.out.cell ht.1 (fun e=>by rcases e with e | e;exact ht.2.1 e;exact ht.2.2 e)
    have HT:=hid (show wr.heap[tb]? = some (.cells #[.int .i64 bl,.slice (some ad) L cA,.slice B L cB] 103 (0,0)) from HK.out.blk HT5.out (fun e=>by have:=HPN.out;rcases e with e | e<;>omega))
    have c1:=blk_cell HT.out 1
    have K84:=hid (fun W (hw:Below wr.heap.size wr W)=>add_calls (w:=W) (tb:=tb) (pb:=pb) (g:=g) (k:=i) (cap:=L) (s:=S i) (lv:=(i:Int)) (qs:=starts S bl (some ad) L cA B L cB i) (rest:=rest.drop (i*7)) ((hw.block _ (blk_lt HT.out)).trans HT.out) (HR.out.below hw) (starts_len ..).symm hi (by rw [List.length_drop,HRL.out];omega))
    have HQ0:=hid (show ∀ W:World,(binOp .quo 62 (.float .f64 (floatOfInt FloatKind.f64 (sz.getD i 0))) (.float .f64 (floatOfInt FloatKind.f64 ((blT o sz).2.getD i 0)))).run Tryz.prog W=.ok (.float .f64 (S i)) W from fun W=>by
     have hi1:=HI.out.1
     have e:S i=dq (sz.getD i 0) ((blT o sz).2.getD i 0):=by rw [HSS.out];unfold score;rw [if_neg (by omega)]
     have:=T_range HB0.out HM.out HZ.out hi1 (by rw [HLEN.out];exact hi)
     rw [e]
     exact run_dq (by omega) (by omega) W)
    have hq0:=HQ0.out
    have HWR:=hid (show Value.int IntKind.i64 (wrap64 ((i:Int)+1))=Value.int IntKind.i64 ((i+1:Nat):Int) by rw [show wrap64 ((i:Int)+1)=((i+1:Nat):Int) by have:=HLX.out;unfold wrap64;omega])
    have s1:IntKind.i64.wrap (sz.getD i 0)=sz.getD i 0:=by rw [IntWalk.i64_in _ (by omega)]
    generalize sz.getD i 0=x at *
    generalize (blT o sz).2.getD i 0=y at *
    simp only [ptr] at a1 b1 K83
    clear hi ht a2 b2
    go_wp2_with (first | (go_at_call 86;refine K86.out.mono ?_;rintro e w' ⟨rfl,rfl⟩) | (go_at_call 83;refine K83.out.mono ?_;rintro e w' ⟨rfl,rfl⟩))
    refine (K84.out _ (Below.refl _ _)).mono ?_
    rintro e w7 ⟨rfl,hrow,hb,hf⟩
    have HR7:=hid (show PRow w7 pb g (i+1) L (starts S bl (some ad) L cA B L cB (i+1)) (rest.drop ((i+1)*7)) by
     rw [starts_succ,show (i+1)*7=i*7+7 by omega,← List.drop_drop]
     exact hrow)
    have HK7:=hid (show Kp w5 w7 (fun b=>b=pb∨b=g) from HK.out.trans (kp_add hb hf) (fun i hi=>.inl hi))
    clear hrow hb hf K84 HR HK HT HSW c1 t1 s0 a1 b0 b1 hq0 s1 d1 dn K86 K83
    go_wp2_with fail
    go_roundg (gk - 1)
    case measure=>exact HGK.out.1
    case rel=>exact ⟨i+1,HWR.out,⟨HGK.out.2⟩,⟨HR7.out,HK7.out⟩⟩
   ·have d1:decide ((i:Int)<(L:Int))=false:=decide_eq_false (by omega)
    have dn:decide (i<L)=false:=decide_eq_false hi
    obtain rfl:i=L:=by have:=HI.out;omega
    clear hi
    go_wp2_with fail
    go_meet
    case rel=>exact ⟨HR.out,HK.out⟩
 case rest =>
  obtain ⟨hrow,hkp⟩:=hcut
  have HR:=hid hrow
  have HK:=hid hkp
  clear hrow hkp HR6 HK6
  have HSW:=hid (HS.out.below (bel_of HW5.out HK.out HPN.out.2.1 (by have:=HPN.out;omega)))
  have s0:=HSW.out.lv.s0
  rw [HLEN.out] at s0
  have p0:=blk_cell HR.out.box 0
  have K87:=hid (assert_calls (w:=wc.drew))
  go_upto_region 14 with (fail)
  refine start_ (n:=9) (S:=fun w'=>w'.cell? ⟨pb,0,none⟩=some (.slice (some ⟨g,0,none⟩) L L)∧w'.cell? ⟨sb,0,none⟩=some (.slice (some ⟨blk,0,none⟩) L c)) (ds:=[8]) #[false,false,false,false,false,false,false,false,false] (by kernel_rfl) rfl rfl ⟨p0,s0⟩ (fun hHeld=>?_)
  refine pure_ (i:=2) (N:=some 93) (v:=?_) (a':=?_) #[false,false,true,false,false,false,false,false,false] rfl rfl (by kernel_rfl) (fun _ _ _ h=>h) (Or.inl ⟨by rfl,?_⟩) ?_ ?_
  rotate_left
  ·intro w'
   go_simp
   with_reducible rfl
  rotate_left
  ·simp only [Act.put,zA,zB,zC,i64_w,i32_w]
   rfl
  refine pure_ (i:=3) (N:=some 94) (v:=?_) (a':=?_) #[false,false,true,true,false,false,false,false,false] rfl rfl (by kernel_rfl) (fun _ _ _ h=>h) (Or.inl ⟨by rfl,?_⟩) ?_ ?_
  rotate_left
  ·intro w'
   go_simp
   with_reducible rfl
  rotate_left
  ·simp only [Act.put,zA,zB,zC,i64_w,i32_w]
   rfl
  refine pure_ (i:=4) (N:=some 95) (v:=?_) (a':=?_) #[false,false,true,true,true,false,false,false,false] rfl rfl (by kernel_rfl) (fun _ _ _ h=>h) (Or.inl ⟨by rfl,?_⟩) ?_ ?_
  rotate_left
  ·intro w'
   go_simp
   with_reducible rfl
  rotate_left
  ·simp only [Act.put,zA,zB,zC,i64_w,i32_w]
   rfl
  refine take_ (i:=0) (N:=some 91) (v:=?_) (a':=?_) #[true,false,true,true,true,false,false,false,false] rfl rfl (by kernel_rfl) (fun _ _ _ h=>h) (Or.inl ⟨by rfl,?_⟩) hHeld ?_ ?_
  rotate_left
  ·rintro w' ⟨s0,s1⟩
   go_simp
   with_reducible rfl
  rotate_left
  ·simp only [Act.put,zA,zB,zC,i64_w,i32_w]
   rfl
  refine pure_ (i:=1) (N:=some 92) (v:=?_) (a':=?_) #[true,true,true,true,true,false,false,false,false] rfl rfl (by kernel_rfl) (fun _ _ _ h=>h) (Or.inl ⟨by rfl,?_⟩) ?_ ?_
  rotate_left
  ·intro w'
   go_simp
   with_reducible rfl
  rotate_left
  ·simp only [Act.put,zA,zB,zC,i64_w,i32_w]
   rfl
  refine take_ (i:=5) (N:=some 96) (v:=?_) (a':=?_) #[true,true,true,true,true,true,false,false,false] rfl rfl (by kernel_rfl) (fun _ _ _ h=>h) (Or.inl ⟨by rfl,?_⟩) hHeld ?_ ?_
  rotate_left
  ·rintro w' ⟨s0,s1⟩
   go_simp
   with_reducible rfl
  rotate_left
  ·simp only [Act.put,zA,zB,zC,i64_w,i32_w]
   rfl
  refine pure_ (i:=6) (N:=some 97) (v:=?_) (a':=?_) #[true,true,true,true,true,true,true,false,false] rfl rfl (by kernel_rfl) (fun _ _ _ h=>h) (Or.inl ⟨by rfl,?_⟩) ?_ ?_
  rotate_left
  ·intro w'
   go_simp
   with_reducible rfl
  rotate_left
  ·simp only [Act.put,zA,zB,zC,i64_w,i32_w]
   rfl
  refine pure_ (i:=7) (N:=some 98) (v:=?_) (a':=?_) #[true,true,true,true,true,true,true,true,false] rfl rfl (by kernel_rfl) (fun _ _ _ h=>h) (Or.inl ⟨by rfl,?_⟩) ?_ ?_
  rotate_left
  ·intro w'
   go_simp
   with_reducible rfl
  rotate_left
  ·simp only [Act.put,zA,zB,zC,i64_w,i32_w]
   rfl
  refine last_ (i:=8) (N:=some 99) #[true,true,true,true,true,true,true,true,true] rfl rfl (by kernel_rfl) (by decide) (fun K hK=>?_)
  refine goes_ Tryz.func87 (by kernel_rfl) rfl #[.bool true] (by rfl) rfl rfl (by simp only [List.map_toArray,List.map_cons,List.map_nil];rfl) ?_
  with_reducible refine (K87.out).mono ?_
  rintro e wz ⟨rfl,rfl⟩
  refine ⟨_,rfl,?_⟩
  refine hK.out _ _ ?_
  clear hK K
  refine norm_ (a':=?_) ?_ ?_
  rotate_left
  ·show Act.put _ (some 99) _=_
   simp only [Act.put,zA,zB,zC,i64_w,i32_w]
   rfl
  refine done_ (by kernel_rfl) ?_
  have HR1:=hid (show PRow wc.drew pb g L L (starts S bl (some ad) L cA B L cB L) (rest.drop (L*7)) from ⟨HR.out.box,HR.out.row⟩)
  have HK1:=hid (show Kp w5 wc.drew (fun b=>b=pb∨b=g) from HK.out.drew)
  clear hHeld s0 p0 HR HK HSW K87
  generalize wc.drew=w8 at *
  have HT:=hid (show w8.heap[tb]? = some (.cells #[.int .i64 bl,.slice (some ad) L cA,.slice B L cB] 103 (0,0)) from HK1.out.blk HT5.out (fun e=>by have:=HPN.out;rcases e with e | e<;>omega))
  have c0:=blk_cell HT.out 0
  obtain ⟨lev0,rfl⟩ : ∃ n:Nat,bl=(n:Int):=⟨bl.toNat,by have:=HBL.out;omega⟩
  have HA1:=hid (show Adj L S lev0 (starts S (lev0:Int) (some ad) L cA B L cB L) from adj_start HSF.out)
  generalize starts S (lev0:Int) (some ad) L cA B L cB L=qs0 at HA1 HR1
  generalize rest.drop (L*7)=rest1 at HR1
  go_upto_block 2 with (fail)
  clear c0
  go_cut [11,12] from 102 to 144 (fun v11 v12 wr=>∃ qs,Adj L S L qs∧PRow wr pb g L L qs rest1∧Kp w5 wr (fun b=>b=pb∨b=g))
  case first =>
   go_wp2_with fail
   go_loopg [11,12] L (fun kq v11 v12 wr=>∃ (p lev:Nat) (qs:List Pr),v11=.int .i64 (p:Int)∧v12=.int .i64 (lev:Int)∧Aside0 (p<lev∧lev≤L∧L≤lev+kq)∧Aside0 (Adj L S lev qs∧PRow wr pb g L L qs rest1∧Kp w5 wr (fun b=>b=pb∨b=g)))
   case atStart=>exact ⟨0,lev0,qs0,rfl,rfl,⟨by have:=HBL.out;omega,by have:=HBL.out;omega,by omega⟩,⟨HA1.out,HR1.out,HK1.out⟩⟩
   case round =>
    obtain ⟨p,lev,qs,rfl,rfl,HI,HQ2⟩:=hrel
    have HA:=hid HQ2.out.1
    have HR:=hid HQ2.out.2.1
    have HK:=hid HQ2.out.2.2
    clear HQ2 HR1 HK1 HA1 HT
    have HSW:=hid (HS.out.below (bel_of HW5.out HK.out HPN.out.2.1 (by have:=HPN.out;omega)))
    have s0:=HSW.out.lv.s0
    rw [HLEN.out] at s0
    by_cases hi:lev<L
    ·have d1:decide ((lev:Int)<(L:Int))=true:=decide_eq_true (by omega)
     have dl:lev<L:=hi
     have dp:p<L:=by have:=HI.out;omega
     have HWR:=hid (show Value.int IntKind.i64 (wrap64 ((lev:Int)+1))=Value.int IntKind.i64 ((lev+1:Nat):Int) by rw [show wrap64 ((lev:Int)+1)=((lev+1:Nat):Int) by have:=HLX.out;unfold wrap64;omega])
     have HGK:=hid (show gk - 1<gk∧lev<lev+1∧lev+1≤L∧L≤lev+1+(gk - 1) by have:=HI.out;omega)
     obtain ⟨qp,hqp,lp,sp,ap,-⟩:=HA.out.at_ p dp
     obtain ⟨ql,hql,ll,sl,al,el⟩:=HA.out.at_ lev dl
     have el:=el (Nat.le_refl _)
     have p0:=blk_cell HR.out.box 0
     have x1:=row_cell HR.out.row hqp 2 (by decide) _ rfl
     have x2:=row_cell HR.out.row hql 1 (by decide) _ rfl
     have x3:=row_cell HR.out.row hql 2 (by decide) _ rfl
     rw [sl] at x2
     rw [el] at x3
     have HQP:=hid hqp
     have HSL:=hid (HSF.out lev dl)
     have HAP:=hid ap
     have HPL:=hid (show p<lev from HI.out.1)
     obtain ⟨a,ha⟩ : ∃ a,a=qp.a:=⟨_,rfl⟩
     rw [← ha] at x1 HAP
     generalize S lev=sv at x2 x3 HSL
     clear hqp lp sp ap hql ll sl al el HI hi ha
     by_cases h1:ONE≤a
     ·have e1:(FloatKind.f64.format.order a 4607182418800017408 == some .gt || FloatKind.f64.format.order a 4607182418800017408 == some .eq)=true:=by rw [ge_ord HAP.out (by decide)];exact decide_eq_true h1
      by_cases h2:4576918229304087675≤sv
      ·have e2:(FloatKind.f64.format.order sv 4576918229304087675 == some .gt || FloatKind.f64.format.order sv 4576918229304087675 == some .eq)=true:=by rw [ge_ord (Nat.le_of_lt HSL.out) (by decide)];exact decide_eq_true h2
       have HQ0:=hid (fun W=>run_wq HAP.out (show 0<sv by omega) HSL.out W)
       have HWQ:=hid (wq_facts HAP.out (show 0<sv by omega) HSL.out).2
       clear h1 h2
       go_upto_region 21 with (fail)
       have hq0:=HQ0.out
       have rsf:=run_storeF
       have y1:wr.drew.frozen? ⟨g,p*7+2,none⟩=false:=blk_frozen (w:=wr.drew) HR.out.row _
       refine start_ (n:=14) (S:=fun w'=>w'.cell? ⟨pb,0,none⟩=some (.slice (some ⟨g,0,none⟩) L L)∧w'.cell? ⟨g,p*7+2,none⟩=some (.float .f64 a)∧w'.cell? ⟨g,lev*7+2,none⟩=some (.float .f64 sv)) (ds:=[13]) #[false,false,false,false,false,false,false,false,false,false,false,false,false,false] (by kernel_rfl) rfl rfl ⟨p0,x1,x3⟩ (fun hHeld=>?_)
       refine pure_ (i:=1) (N:=some 124) (v:=?_) (a':=?_) #[false,true,false,false,false,false,false,false,false,false,false,false,false,false] rfl rfl (by kernel_rfl) (fun _ _ _ h=>h) (Or.inl ⟨by rfl,?_⟩) ?_ ?_
       rotate_left
       ·intro w'
        go_simp
        with_reducible rfl
       rotate_left
       ·simp only [Act.put,zA,zB,zC,i64_w,i32_w]
        rfl
       refine pure_ (i:=6) (N:=some 129) (v:=?_) (a':=?_) #[false,true,false,false,false,false,true,false,false,false,false,false,false,false] rfl rfl (by kernel_rfl) (fun _ _ _ h=>h) (Or.inl ⟨by rfl,?_⟩) ?_ ?_
       rotate_left
       ·intro w'
        go_simp
        with_reducible rfl
       rotate_left
       ·simp only [Act.put,zA,zB,zC,i64_w,i32_w]
        rfl
       refine take_ (i:=0) (N:=some 123) (v:=?_) (a':=?_) #[true,true,false,false,false,false,true,false,false,false,false,false,false,false] rfl rfl (by kernel_rfl) (fun _ _ _ h=>h) (Or.inl ⟨by rfl,?_⟩) hHeld ?_ ?_
       rotate_left
       ·rintro w' ⟨s0,s1,s2⟩
        go_simp
        with_reducible rfl
       rotate_left
       ·simp only [Act.put,zA,zB,zC,i64_w,i32_w]
        rfl
       refine pure_ (i:=2) (N:=some 125) (v:=?_) (a':=?_) #[true,true,true,false,false,false,true,false,false,false,false,false,false,false] rfl rfl (by kernel_rfl) (fun _ _ _ h=>h) (Or.inl ⟨by rfl,?_⟩) ?_ ?_
       rotate_left
       ·intro w'
        go_simp
        with_reducible rfl
       rotate_left
       ·simp only [Act.put,zA,zB,zC,i64_w,i32_w]
        rfl
       refine pure_ (i:=3) (N:=some 126) (v:=?_) (a':=?_) #[true,true,true,true,false,false,true,false,false,false,false,false,false,false] rfl rfl (by kernel_rfl) (fun _ _ _ h=>h) (Or.inl ⟨by rfl,?_⟩) ?_ ?_
       rotate_left
       ·intro w'
        go_simp
        with_reducible rfl
       rotate_left
       ·simp only [Act.put,zA,zB,zC,i64_w,i32_w]
        rfl
       refine take_ (i:=4) (N:=some 127) (v:=?_) (a':=?_) #[true,true,true,true,true,false,true,false,false,false,false,false,false,false] rfl rfl (by kernel_rfl) (fun _ _ _ h=>h) (Or.inl ⟨by rfl,?_⟩) hHeld ?_ ?_
       rotate_left
       ·rintro w' ⟨s0,s1,s2⟩
        go_simp
        with_reducible rfl
       rotate_left
       ·simp only [Act.put,zA,zB,zC,i64_w,i32_w]
        rfl
       refine take_ (i:=5) (N:=some 128) (v:=?_) (a':=?_) #[true,true,true,true,true,true,true,false,false,false,false,false,false,false] rfl rfl (by kernel_rfl) (fun _ _ _ h=>h) (Or.inl ⟨by rfl,?_⟩) hHeld ?_ ?_
       rotate_left
       ·rintro w' ⟨s0,s1,s2⟩
        go_simp
        with_reducible rfl
       rotate_left
       ·simp only [Act.put,zA,zB,zC,i64_w,i32_w]
        rfl
       refine pure_ (i:=7) (N:=some 130) (v:=?_) (a':=?_) #[true,true,true,true,true,true,true,true,false,false,false,false,false,false] rfl rfl (by kernel_rfl) (fun _ _ _ h=>h) (Or.inl ⟨by rfl,?_⟩) ?_ ?_
       rotate_left
       ·intro w'
        go_simp
        with_reducible rfl
       rotate_left
       ·simp only [Act.put,zA,zB,zC,i64_w,i32_w]
        rfl
       refine pure_ (i:=8) (N:=some 131) (v:=?_) (a':=?_) #[true,true,true,true,true,true,true,true,true,false,false,false,false,false] rfl rfl (by kernel_rfl) (fun _ _ _ h=>h) (Or.inl ⟨by rfl,?_⟩) ?_ ?_
       rotate_left
       ·intro w'
        go_simp
        with_reducible rfl
       rotate_left
       ·simp only [Act.put,zA,zB,zC,i64_w,i32_w]
        rfl
       refine take_ (i:=9) (N:=some 132) (v:=?_) (a':=?_) #[true,true,true,true,true,true,true,true,true,true,false,false,false,false] rfl rfl (by kernel_rfl) (fun _ _ _ h=>h) (Or.inl ⟨by rfl,?_⟩) hHeld ?_ ?_
       rotate_left
       ·rintro w' ⟨s0,s1,s2⟩
        go_simp
        with_reducible rfl
       rotate_left
       ·simp only [Act.put,zA,zB,zC,i64_w,i32_w]
        rfl
       refine pure_ (i:=10) (N:=some 133) (v:=?_) (a':=?_) #[true,true,true,true,true,true,true,true,true,true,true,false,false,false] rfl rfl (by kernel_rfl) (fun _ _ _ h=>h) (Or.inl ⟨by rfl,?_⟩) ?_ ?_
       rotate_left
       ·intro w'
        go_simp
        with_reducible rfl
       rotate_left
       ·simp only [Act.put,zA,zB,zC,i64_w,i32_w]
        rfl
       refine pure_ (i:=11) (N:=some 134) (v:=?_) (a':=?_) #[true,true,true,true,true,true,true,true,true,true,true,true,false,false] rfl rfl (by kernel_rfl) (fun _ _ _ h=>h) (Or.inl ⟨by rfl,?_⟩) ?_ ?_
       rotate_left
       ·intro w'
        go_simp
        with_reducible rfl
       rotate_left
       ·simp only [Act.put,zA,zB,zC,i64_w,i32_w]
        rfl
       refine pure_ (i:=12) (N:=some 135) (v:=?_) (a':=?_) #[true,true,true,true,true,true,true,true,true,true,true,true,true,false] rfl rfl (by kernel_rfl) (fun _ _ _ h=>h) (Or.inl ⟨by rfl,?_⟩) ?_ ?_
       rotate_left
       ·intro w'
        go_simp
        with_reducible rfl
       rotate_left
       ·simp only [Act.put,zA,zB,zC,i64_w,i32_w]
        rfl
       refine last_ (i:=13) (N:=none) #[true,true,true,true,true,true,true,true,true,true,true,true,true,true] rfl rfl (by kernel_rfl) (by decide) (fun K hK=>?_)
       refine skip_ (w1:=?_) (by rfl) rfl ?_ ?_
       rotate_left
       ·go_simp
        rfl
       refine hK.out _ _ ?_
       clear hK K
       refine done_ (by kernel_rfl) ?_
       obtain ⟨w9,hw9⟩ : ∃ w9,w9=(wr.setCell ⟨g,p*7+2,none⟩ (.float .f64 (wq a sv))).drew:=⟨_,rfl⟩
       rw [← hw9]
       have HA9:=hid (show Adj L S (lev+1) (qs.set p { qp with a:=wq a sv }) from (HA.out.mono (Nat.le_succ _)).set HQP.out (by have:=HPL.out;omega) HWQ.out)
       have HR9:=hid (show PRow w9 pb g L L (qs.set p { qp with a:=wq a sv }) rest1 by
        rw [hw9]
        exact ⟨(Below.heap_setCell wr ⟨g,p*7+2,none⟩ _ pb HR.out.ne).trans HR.out.box,row_set HR.out.row HQP.out _⟩)
       have HK9:=hid (show Kp w5 w9 (fun b=>b=pb∨b=g) by
        rw [hw9]
        exact (Kp.setCell (S:=fun b=>b=pb∨b=g) (p:=⟨g,p*7+2,none⟩) HK.out (.inl (.inr rfl)) _).drew)
       clear hHeld hw9 hq0 rsf y1 p0 x1 x2 x3 s0 d1 dl dp e1 e2 HA HR HK HSW HQ0
       go_wp2_with fail
       go_roundg (gk - 1)
       case measure=>exact HGK.out.1
       case rel=>exact ⟨lev,lev+1,_,rfl,HWR.out,⟨HGK.out.2⟩,⟨HA9.out,HR9.out,HK9.out⟩⟩
      ·have e2:(FloatKind.f64.format.order sv 4576918229304087675 == some .gt || FloatKind.f64.format.order sv 4576918229304087675 == some .eq)=false:=by rw [ge_ord (Nat.le_of_lt HSL.out) (by decide)];exact decide_eq_false h2
       have HQ0:=hid (fun W=>run_wq HAP.out (show 0<4576918229304087675 by decide) (by decide) W)
       have HWQ:=hid (wq_facts HAP.out (show 0<4576918229304087675 by decide) (by decide)).2
       have hq0:=HQ0.out
       have rsf:=run_storeF
       have y1:wr.frozen? ⟨g,p*7+2,none⟩=false:=blk_frozen HR.out.row _
       clear h1 h2
       go_upto_region 23 with (fail)
       obtain ⟨w9,hw9⟩ : ∃ w9,w9=wr.setCell ⟨g,p*7+2,none⟩ (.float .f64 (wq a 4576918229304087675)):=⟨_,rfl⟩
       rw [← hw9]
       have HA9:=hid (show Adj L S (lev+1) (qs.set p { qp with a:=wq a 4576918229304087675 }) from (HA.out.mono (Nat.le_succ _)).set HQP.out (by have:=HPL.out;omega) HWQ.out)
       have HR9:=hid (show PRow w9 pb g L L (qs.set p { qp with a:=wq a 4576918229304087675 }) rest1 by
        rw [hw9]
        exact ⟨(Below.heap_setCell wr ⟨g,p*7+2,none⟩ _ pb HR.out.ne).trans HR.out.box,row_set HR.out.row HQP.out _⟩)
       have HK9:=hid (show Kp w5 w9 (fun b=>b=pb∨b=g) by
        rw [hw9]
        exact Kp.setCell (S:=fun b=>b=pb∨b=g) (p:=⟨g,p*7+2,none⟩) HK.out (.inl (.inr rfl)) _)
       clear hw9 hq0 rsf y1 p0 x1 x2 x3 s0 d1 dl dp e1 e2 HA HR HK HSW HQ0
       go_wp2_with fail
       go_roundg (gk - 1)
       case measure=>exact HGK.out.1
       case rel=>exact ⟨lev,lev+1,_,rfl,HWR.out,⟨HGK.out.2⟩,⟨HA9.out,HR9.out,HK9.out⟩⟩
     ·have e1:(FloatKind.f64.format.order a 4607182418800017408 == some .gt || FloatKind.f64.format.order a 4607182418800017408 == some .eq)=false:=by rw [ge_ord HAP.out (by decide)];exact decide_eq_false h1
      clear h1
      go_wp2_with fail
      go_roundg (gk - 1)
      case measure=>exact HGK.out.1
      case rel=>exact ⟨lev,lev+1,qs,rfl,HWR.out,⟨HGK.out.2⟩,⟨HA.out.mono (Nat.le_succ _),HR.out,HK.out⟩⟩
    ·have d1:decide ((lev:Int)<(L:Int))=false:=decide_eq_false (by omega)
     have dn:decide (lev<L)=false:=decide_eq_false hi
     obtain rfl:lev=L:=by have:=HI.out;omega
     clear hi
     go_wp2_with fail
     go_meet
     case rel=>exact ⟨qs,HA.out,HR.out,HK.out⟩
  case rest =>
   obtain ⟨qs,hadj,hrow,hkp⟩:=hcut
   have HA:=hid hadj
   have HR:=hid hrow
   have HK:=hid hkp
   clear hadj hrow hkp HR1 HK1 HA1 HT
   obtain ⟨m,rfl⟩ : ∃ m,L=m+1:=⟨L - 1,by have:=HL2.out;omega⟩
   have p0:=blk_cell HR.out.box 0
   have y0:=blk_frozen HR.out.box 0
   have s1:IntKind.i64.wrap ((m:Int)+1 - 1)=(m:Int):=by rw [IntWalk.i64_in _ (by have:=HLX.out;omega)];omega
   have s2:wrap64 (m:Int)=(m:Int):=by have:=HLX.out;unfold wrap64;omega
   go_upto_block 4 with (fail)
   clear p0 y0 s1 s2
   go_cut [13] from 153 to 164 (fun v13 wr=>v13=.slice (some ⟨g,0,none⟩) (outs qs m).length (m+1)∧PRow wr pb g (m+1) (m+1) (outs qs m++qs.drop (outs qs m).length) rest1∧Kp w5 wr (fun b=>b=pb∨b=g))
   case first =>
    go_wp2_with fail
    go_loopg [13,153] m (fun kq v13 v153 wr=>∃ j:Nat,v13=.slice (some ⟨g,0,none⟩) (outs qs j).length (m+1)∧v153=.int .i64 (j:Int)∧Aside0 (j+kq=m)∧Aside0 (PRow wr pb g (m+1) (m+1) (outs qs j++qs.drop (outs qs j).length) rest1∧Kp w5 wr (fun b=>b=pb∨b=g)))
    case atStart=>exact ⟨0,rfl,rfl,⟨by omega⟩,⟨by simpa [outs] using HR.out,HK.out⟩⟩
    case round =>
     obtain ⟨j,rfl,rfl,HI,HQ2⟩:=hrel
     have HR2:=hid HQ2.out.1
     have HK2:=hid HQ2.out.2
     clear HQ2 HR HK
     by_cases hj:j<m
     ·have d1:decide ((j:Int)<(m:Int))=true:=decide_eq_true (by omega)
      have dj:j<m:=hj
      have HGK:=hid (show gk - 1<gk∧j+1+(gk - 1)=m by have:=HI.out;omega)
      have HWR:=hid (show Value.int IntKind.i64 (wrap64 ((j:Int)+1))=Value.int IntKind.i64 ((j+1:Nat):Int) by rw [show wrap64 ((j:Int)+1)=((j+1:Nat):Int) by have:=HLX.out;unfold wrap64;omega])
      obtain ⟨q,hq,lq,sq,aq,-⟩:=HA.out.at_ j (by omega)
      have hol:=outs_len qs j
      have hos:=outs_succ hq
      have hql:(outs qs j).length<qs.length:=by rw [HA.out.len];omega
      have hd7:=drop7 hql rest1
      have hmid:(outs qs j++qs.drop (outs qs j).length)[j]? = some q:=by rw [mid_at rfl hol];exact hq
      have hsq:q.s≤9218868437227405312:=by rw [sq];exact Nat.le_of_lt (HSF.out j (by omega))
      have HROW:=hid HR2.out.row
      rw [flatP_app,List.append_assoc] at HROW
      obtain ⟨lv,s,a,bl2,A2,n2,c2',B2,m2,d2⟩:=q
      have x0:wr.cell? ⟨g,j*7,none⟩=some (.int .i64 lv):=row_cell HR2.out.row hmid 0 (by decide) _ rfl
      have x1:=row_cell HR2.out.row hmid 1 (by decide) _ rfl
      have x2:=row_cell HR2.out.row hmid 2 (by decide) _ rfl
      have x3:=row_cell HR2.out.row hmid 3 (by decide) _ rfl
      have x4:=row_cell HR2.out.row hmid 4 (by decide) _ rfl
      have x5:=row_cell HR2.out.row hmid 5 (by decide) _ rfl
      have x6:=row_cell HR2.out.row hmid 6 (by decide) _ rfl
      simp only at x1 x2 x3 x4 x5 x6 hsq
      have HOS:=hid hos
      have HD7:=hid hd7
      have HSQ:=hid hsq
      have HOL:=hid hol
      obtain ⟨k,hk⟩ : ∃ k,k=(outs qs j).length:=⟨_,rfl⟩
      rw [← hk] at HROW HD7 HR2 HOL ⊢
      have HKK:=hid hk
      have rsf:=run_storeF
      clear hq lq sq aq hol hos hql hd7 hmid hsq hj hk HI
      go_upto_region 28 with (fail)
      obtain ⟨wa,hwa⟩ : ∃ wa,wa=wr.alloc (.cells #[.int .i64 lv,.float .f64 s,.float .f64 a,.slice none 0 0,.int .i64 bl2,.slice A2 n2 c2',.slice B2 m2 d2] 113):=⟨_,rfl⟩
      rw [← hwa]
      obtain ⟨qb,hqb⟩ : ∃ b,b=wr.heap.size:=⟨_,rfl⟩
      rw [← hqb]
      have HBA:=hid (show Below wr.heap.size wr wa by rw [hwa];exact below_alloc (Below.refl _ _) _)
      have HX:=hid (show wa.heap[qb]? = some (.cells #[.int .i64 lv,.float .f64 s,.float .f64 a,.slice none 0 0,.int .i64 bl2,.slice A2 n2 c2',.slice B2 m2 d2] 113 (0,0)) by rw [hwa,hqb];exact blk_new wr _)
      have HRA:=hid (HR2.out.below HBA.out)
      have HKA:=hid (HK2.out.below HBA.out)
      clear hwa hqb x0 x1 x2 x3 x4 x5 x6
      have x0:=blk_cell HX.out 0
      have x1:=blk_cell HX.out 1
      have x2:=blk_cell HX.out 2
      have x3:=blk_cell HX.out 3
      have x4:=blk_cell HX.out 4
      have x5:=blk_cell HX.out 5
      have x6:=blk_cell HX.out 6
      by_cases h1:ONE≤s
      ·have e1:(FloatKind.f64.format.order s 4607182418800017408 == some .gt || FloatKind.f64.format.order s 4607182418800017408 == some .eq)=true:=by rw [ge_ord HSQ.out (by decide)];exact decide_eq_true h1
       have HO2:=hid (show outs qs (j+1)=outs qs j++[⟨lv,s,a,bl2,A2,n2,c2',B2,m2,d2⟩] by rw [HOS.out,if_pos h1])
       have HROWA:=hid (show (wa.alloc (.cells #[.int .i64 lv,.float .f64 s,.float .f64 a,.slice none 0 0,.int .i64 bl2,.slice A2 n2 c2',.slice B2 m2 d2] 113)).heap[g]? = some (.cells (flatP (outs qs j)++(flatP (qs.drop k)++rest1)).toArray 113 (0,0)) from (Below.heap_alloc _ _ _ (Nat.lt_of_lt_of_le (blk_lt HROW.out) HBA.out.size)).trans ((HBA.out.block _ (blk_lt HROW.out)).trans HROW.out))
       have HNEW:=hid (show (wa.alloc (.cells #[.int .i64 lv,.float .f64 s,.float .f64 a,.slice none 0 0,.int .i64 bl2,.slice A2 n2 c2',.slice B2 m2 d2] 113)).heap[wa.heap.size]? = some (.cells (prC ⟨lv,s,a,bl2,A2,n2,c2',B2,m2,d2⟩).toArray 113 (0,0)) from blk_new wa _)
       have HBOX:=hid (show (wa.alloc (.cells #[.int .i64 lv,.float .f64 s,.float .f64 a,.slice none 0 0,.int .i64 bl2,.slice A2 n2 c2',.slice B2 m2 d2] 113)).heap[pb]? = some (.cells #[.slice (some ⟨g,0,none⟩) (m+1) (m+1)] 109 (0,0)) from up1 HRA.out.box)
       have HLN:=hid (show 7≤(flatP (qs.drop k)++rest1).length by
        rw [List.length_append,flatP_len,List.length_drop,HA.out.len]
        have:=HOL.out
        omega)
       clear h1 HOS
       go_wp2_with ((with_reducible refine gate_builtin (b:=.append) (xs:=#[.tmp 160,.tmp 162]) rfl ?_);at_builtin;refine wpL_roomP rfl (.tmp 160) (.tmp 162) rfl g wa.heap.size k (m+1) 113 (outs qs j) ⟨lv,s,a,bl2,A2,n2,c2',B2,m2,d2⟩ (flatP (qs.drop k)++rest1) rfl rfl HROWA.out HNEW.out HKK.out (by have:=HOL.out;omega) HLN.out ?_;intro w8 hb8 hg8;have HB8:=hid hb8;have HG8:=hid hg8;clear hb8 hg8)
       go_roundg (gk - 1)
       case measure=>exact HGK.out.1
       case rel =>
        have hl:(outs qs (j+1)).length=k+1:=by rw [HO2.out,List.length_append,← HKK.out];rfl
        refine ⟨j+1,by rw [hl],HWR.out,⟨HGK.out.2⟩,⟨⟨?_,?_⟩,?_⟩⟩
        ·exact (HG8.out.block pb (blk_lt HBOX.out) (fun e=>HRA.out.ne (by injection e with e))).trans HBOX.out
        ·rw [hl,HO2.out,flatP_app,List.append_assoc,← HD7.out]
         exact HB8.out
        ·exact (HKA.out.alloc _).grown HG8.out (fun k hk=>.inl (.inr (by injection hk with hk;exact hk.symm)))
      ·have e1:(FloatKind.f64.format.order s 4607182418800017408 == some .gt || FloatKind.f64.format.order s 4607182418800017408 == some .eq)=false:=by rw [ge_ord HSQ.out (by decide)];exact decide_eq_false h1
       have HO2:=hid (show outs qs (j+1)=outs qs j by rw [HOS.out,if_neg h1])
       clear h1 HOS
       go_wp2_with fail
       go_roundg (gk - 1)
       case measure=>exact HGK.out.1
       case rel =>
        refine ⟨j+1,by rw [HO2.out,← HKK.out],HWR.out,⟨HGK.out.2⟩,⟨?_,HKA.out⟩⟩
        rw [HO2.out,← HKK.out]
        exact HRA.out
     ·have d1:decide ((j:Int)<(m:Int))=false:=decide_eq_false (by omega)
      obtain rfl:j=m:=by have:=HI.out;omega
      clear hj
      go_wp2_with fail
      go_meet
      case rel=>exact ⟨rfl,HR2.out,HK2.out⟩
   case rest =>
    obtain ⟨rfl,hrow,hkp⟩:=hcut
    have HR3:=hid hrow
    have HK3:=hid hkp
    clear hrow hkp HR HK
    have p0:=blk_cell HR3.out.box 0
    have y0:=blk_frozen HR3.out.box 0
    go_upto_region 32 with (fail)
    obtain ⟨w10,hw10⟩ : ∃ w10,w10=wc.setCell ⟨pb,0,none⟩ (.slice (some ⟨g,0,none⟩) (outs qs m).length (m+1)):=⟨_,rfl⟩
    rw [← hw10]
    have HBX:=hid (show w10.heap[pb]? = some (.cells #[.slice (some ⟨g,0,none⟩) (outs qs m).length (m+1)] 109 (0,0)) by rw [hw10];exact blk_put HR3.out.box 0 _ rfl)
    have HROW:=hid (show w10.heap[g]? = some (.cells (((outs qs m).map prC).flatten++(flatP (qs.drop (outs qs m).length)++rest1)).toArray 113 (0,0)) by
     have h:=(Below.heap_setCell wc ⟨pb,0,none⟩ (.slice (some ⟨g,0,none⟩) (outs qs m).length (m+1)) g (fun e=>HR3.out.ne e.symm)).trans HR3.out.row
     rw [flatP_app,List.append_assoc] at h
     rw [hw10]
     exact h)
    have HK10:=hid (show Kp w5 w10 (fun b=>b=pb∨b=g) by
     rw [hw10]
     exact Kp.setCell (S:=fun b=>b=pb∨b=g) (p:=⟨pb,0,none⟩) HK3.out (.inl (.inl rfl)) _)
    have HOL:=hid (outs_len qs m)
    have HNE:=hid HR3.out.ne
    have HPK:=hid (picked_of HA.out (n:=m) (by omega))
    have HSN:=hid (sortP_len (outs qs m))
    have K88:=hid (sort_rowK (w:=w10) (g:=g) (cap:=m+1) HROW.out (one7 _) (by rw [List.length_map];have:=HOL.out;have:=HLX.out;omega) 89 #[.pointer (some ⟨pb,0,none⟩)] (enters_of Tryz.func89 (by kernel_rfl) rfl) (ltA (outs qs m)) (ltA_sw _ _) (less_pr HBX.out HNE.out (fun q hq=>(outs_sc HA.out q hq).2) (by have:=HOL.out;have:=HLX.out;omega)))
    rw [List.length_map] at K88
    clear hw10 HR3 HK3 p0 y0
    have p0:=blk_cell HBX.out 0
    go_wp2_with fail
    refine K88.out.mono ?_
    rintro e w11 ⟨rfl,hrow,hkp⟩
    rw [sort_flat] at hrow
    have HROW2:=hid hrow
    have HB11:=hid (hkp.blk HBX.out (fun e=>HNE.out (by injection e with e;exact e.symm)))
    have HK11:=hid (show Kp w5 w11 (fun b=>b=pb∨b=g) from HK10.out.trans hkp (fun i hi=>.inl (.inr (by injection hi with hi;exact hi.symm))))
    clear hrow hkp p0 K88 HROW
    have p0:=blk_cell HB11.out 0
    have y0:=blk_frozen HB11.out 0
    have HE:=hid (show PickPost w (m+1) S (.returned (.slice (some ⟨g,0,none⟩) (outs qs m).length (m+1))) (w11.setCell ⟨pb,0,none⟩ (.slice (some ⟨g,0,none⟩) (outs qs m).length (m+1))) by
     rw [← HSN.out]
     refine ⟨g,m+1,sortP (outs qs m),_,rfl,(Below.heap_setCell w11 ⟨pb,0,none⟩ _ g (fun e=>HNE.out e.symm)).trans HROW2.out,HPK.out,by rw [HSN.out];have:=HOL.out;omega,?_⟩
     have hk:Kp w5 (w11.setCell ⟨pb,0,none⟩ (.slice (some ⟨g,0,none⟩) (sortP (outs qs m)).length (m+1))) (fun b=>b=pb∨b=g):=Kp.setCell (S:=fun b=>b=pb∨b=g) (p:=⟨pb,0,none⟩) HK11.out (.inl (.inl rfl)) _
     exact bel_of HW5.out hk HPN.out.2.1 (by have:=HPN.out;omega))
    go_wp2_with fail
    refine bodyPost_ret (results_cell1 rfl _ _ pb (.slice (some ⟨g,0,none⟩) (outs qs m).length (m+1)) rfl (load109 (blk_cell (blk_put HB11.out 0 _ rfl) 0))) rfl ?_
    rw [HQ.out]
    exact HE.out
end Go.Proofs.YtnineoajmgneiaaGreat.Pk
namespace Go.Proofs.YtnineoajmgneiaaGreat.Pk
open Lib (hid)
open Go.RowKit YtnineoajmgneiaaGreatW YtnineoajmgneiaaGreatW.PrintWords YtnineoajmgneiaaGreatW.PrintLast YtnineoajmgneiaaGreatW.PrintMore Fr L Ky Tm Lm It Tg Sk Nw Bd Tp
open YtnineoajmgneiaaGreat.Od (ord)
theorem info79:(Tryz.prog.info? 79).map (fun i=>(i.zero,i.size,i.bytes))=some (some (.agg #[.int .i64 0,.float .f64 0,.float .f64 0]),3,24):=by kernel_rfl
theorem info64:(Tryz.prog.info? 64).map (fun i=>(i.zero,i.size,i.bytes))=some (some (.agg #[.int .i64 0,.float .f64 0,.float .f64 0]),3,24):=by kernel_rfl
/-- What Pick hands back, told. -/
def ToldPost (w:World) (n:Nat) (S:Nat→Nat) (e:Ending) (w':World):Prop:=
 ∃ (A:Option Addr) (c:Nat) (qs:List Q3),e=.returned (.slice A qs.length c)∧qs.length≤c∧Kd.C k3 w' A qs.length qs∧Picked n S qs∧qs.length≤100∧Below w.heap.size w w'
def ToldR (w:World) (n:Nat) (S:Nat→Nat) (e:Ending) (w':World):Prop:=
 ∃ (v:Value) (qs:List Q3),e=.returned v∧Kd.R k3 79 w' w.heap.size (fun _=>True) v qs∧Picked n S qs∧qs.length≤100∧Below w.heap.size w w'
theorem pks_of_new {w w':World} {xs:List (List Tb)} {o:Lm.Op} {ob mb sb:Nat} (h:NewR w xs o ob mb sb xs.length w') (hx:0<xs.length):∃ blk c g2 c2,PkS w' sb ob blk c g2 c2 xs.length (xs.getD 0 []).length o (xs.map total):=by
 obtain ⟨lv,cv,hs,cs,h1,h2,h3,h4⟩:=h
 rw [List.take_of_length_le (Nat.le_refl _)] at h2
 have hl:hs.length=xs.length:=by rw [← h2,List.length_map]
 obtain ⟨A,c,e,hc,hr⟩:=row_F (F:=fun _=>True) h1.lr (fun _ _ _=>trivial)
 rw [List.length_map,hl] at e hc hr
 obtain ⟨b,ds,rfl,_,hb,hat⟩:=hr hx
 subst e
 obtain ⟨A2,c2,e2,hc2,hr2⟩:=row_F (F:=fun _=>True) h1.cr (fun _ _ _=>trivial)
 rw [h3] at e2 hc2 hr2
 obtain ⟨b2,ds2,rfl,_,hb2,hat2⟩:=hr2 hx
 subst e2
 have at1:∀ i,(hi:i<xs.length)→w'.cell? ⟨b,i,none⟩=some (ptr (hs[i]'(by omega)).hp):=fun i hi=>by
  rw [blk_cell hb]
  exact hat i _ (by simp [show i<hs.length by omega])
 have ts1:∀ i,(hi:i<xs.length)→xs[i]? = some (hs[i]'(by omega)).ts:=fun i hi=>by
  have h5:(hs.map (·.ts))[i]? = some (hs[i]'(by omega)).ts:=by simp [show i<hs.length by omega]
  rw [h2] at h5
  exact h5
 refine ⟨b,c,b2,c2,⟨by have:=blk_cell h1.ctl 0;rw [List.length_map];exact this,blk_cell h1.ctl 1,h1.opt,fun i hi=>?_⟩,List.length_map _,?_,?_,fun i hi=>?_⟩
 ·rw [List.length_map] at hi
  have hih:i<hs.length:=by omega
  refine ⟨hs[i].hp,at1 i hi,?_⟩
  have:=blk_cell (h4 i _ (List.getElem?_eq_getElem hih)).blk 1
  refine this.trans ?_
  have e3:=ts1 i hi
  have e4:(xs.map total).getD i 0=total hs[i].ts:=by simp [e3]
  rw [e4]
  rfl
 ·have h0:0<hs.length:=by omega
  have hf:=h4 0 _ (List.getElem?_eq_getElem h0)
  obtain ⟨A3,c3,e3,_,_⟩:=hf.row
  refine ⟨hs[0].hp,A3,c3,at1 0 hx,?_⟩
  have:=blk_cell hf.blk 0
  refine this.trans ?_
  have e4:xs.getD 0 []=hs[0].ts:=by simp [ts1 0 hx]
  rw [e4,← hf.len]
  show some hs[0].tv=_
  rw [e3]
 ·exact blk_cell h1.ctl 2
 ·have hi3:i<cs.length:=by omega
  refine ⟨cs[i],?_,?_⟩
  ·rw [blk_cell hb2]
   exact hat2 i _ (by simp [hi3])
  ·exact blk_cell (h1.st _ (List.getElem_mem hi3)).1 1
set_option maxRecDepth 100000 in
set_option maxHeartbeats 4000000 in
theorem pick61_calls {w:World} {lp sb ob blk c g2 c2 L n0:Nat} {o:Lm.Op} {sz:List Int} (hl:w.cell? ⟨lp,0,none⟩=some (ptr sb)) (hS:PkS w sb ob blk c g2 c2 L n0 o sz) (h2:2≤L) (hx:L≤100) (hz:∀ i,0≤sz.getD i 0∧sz.getD i 0≤1000000000000000) (hn0:n0≤1000000) (hmul:2≤o.mult) (hbase:1≤o.base∧o.base≤1000000000000000) (hzero:1≤o.zero∧o.zero≤1000) :
  Calls Tryz.prog 61 #[.pointer (some ⟨lp,0,none⟩)] w (ToldR w (L - 1) (score n0 o sz)):=by
 obtain ⟨Q,hQ⟩ : ∃ Q,Q=ToldR w (L - 1) (score n0 o sz):=⟨_,rfl⟩
 rw [← hQ]
 have HQ:=hid hQ
 have K71:=hid (pick_calls hS h2 hx hz hn0 hmul hbase hzero)
 have HLX:=hid hx
 simp only [ptr] at hl
 clear hQ hS h2 hx hz hn0 hmul hbase hzero
 go_enter Tryz.func61,Tryz.ntmps61
 go_wp2_with fail
 refine K71.out.mono ?_
 rintro e w1 ⟨g,cap,qs,rest,rfl,hrow,hpk,hlen,hb1⟩
 have HROW:=hid hrow
 have HPK:=hid hpk
 have HLEN:=hid hlen
 have HB1:=hid hb1
 clear hrow hpk hlen hb1 hl K71
 obtain ⟨n,hn⟩ : ∃ n,n=qs.length:=⟨_,rfl⟩
 rw [← hn]
 have HN:=hid hn
 clear hn
 go_wp2_with fail
 go_loopg [3,12] n (fun kq v3 v12 wr=>∃ j:Nat,v12=.int .i64 (j:Int)∧Aside0 (j+kq=n)∧Aside0 (Kd.R k3 79 wr w1.heap.size (fun _=>True) v3 ((qs.map tell).take j)∧Below w1.heap.size w1 wr))
 case atStart=>exact ⟨0,rfl,⟨by omega⟩,⟨Kd.R_nil ..,Below.refl _ _⟩⟩
 case round =>
  obtain ⟨j,rfl,HI,HQ2⟩:=hrel
  have HR:=hid HQ2.out.1
  have HB:=hid HQ2.out.2
  clear HQ2
  by_cases hj:j<n
  ·have d1:decide ((j:Int)<(n:Int))=true:=decide_eq_true (by omega)
   have dj:j<n:=hj
   have HGK:=hid (show gk - 1<gk∧j+1+(gk - 1)=n by have:=HI.out;omega)
   have HWR:=hid (show Value.int IntKind.i64 (wrap64 ((j:Int)+1))=Value.int IntKind.i64 ((j+1:Nat):Int) by rw [show wrap64 ((j:Int)+1)=((j+1:Nat):Int) by have:=HLX.out;have:=HLEN.out;have:=HN.out;unfold wrap64;omega])
   have hjq:j<qs.length:=by have:=HN.out;omega
   have hq:=List.getElem?_eq_getElem hjq
   have HTK:=hid (show (qs.map tell).take (j+1)=(qs.map tell).take j++[tell qs[j]] by rw [List.take_succ_eq_append_getElem (by rw [List.length_map];exact hjq)];simp)
   have HLT:=hid (show (((qs.map tell).take j).length+1)*24≤140737488355328 by rw [List.length_take,List.length_map];have:=HLX.out;have:=HLEN.out;omega)
   have hrow:=(HB.out.block _ (blk_lt HROW.out)).trans HROW.out
   generalize qs[j]=q at hq HTK
   obtain ⟨lv,s,a,bl2,A2,n2,c2',B2,m2,d2⟩:=q
   have x0:wr.cell? ⟨g,j*7,none⟩=some (.int .i64 lv):=row_cell hrow hq 0 (by decide) _ rfl
   have x1:=row_cell hrow hq 1 (by decide) _ rfl
   have x2:=row_cell hrow hq 2 (by decide) _ rfl
   have x3:=row_cell hrow hq 3 (by decide) _ rfl
   have x4:=row_cell hrow hq 4 (by decide) _ rfl
   have x5:=row_cell hrow hq 5 (by decide) _ rfl
   have x6:=row_cell hrow hq 6 (by decide) _ rfl
   simp only at x1 x2 x3 x4 x5 x6
   have rsf:=run_storeF
   clear hrow hq hj HI hjq
   go_upto_region 5 with (fail)
   obtain ⟨wa,hwa⟩ : ∃ wa,wa=wr.alloc (.cells #[.int .i64 lv,.float .f64 s,.float .f64 a,.slice none 0 0,.int .i64 bl2,.slice A2 n2 c2',.slice B2 m2 d2] 113):=⟨_,rfl⟩
   rw [← hwa]
   obtain ⟨qb,hqb⟩ : ∃ b,b=wr.heap.size:=⟨_,rfl⟩
   rw [← hqb]
   have HBA:=hid (show Below wr.heap.size wr wa by rw [hwa];exact below_alloc (Below.refl _ _) _)
   have HX:=hid (show wa.heap[qb]? = some (.cells #[.int .i64 lv,.float .f64 s,.float .f64 a,.slice none 0 0,.int .i64 bl2,.slice A2 n2 c2',.slice B2 m2 d2] 113 (0,0)) by rw [hwa,hqb];exact blk_new wr _)
   have HBB:=hid (below_step HB.out HBA.out)
   have HRA:=hid (Kd.R_below HR.out HBA.out)
   clear hwa hqb x0 x1 x2 x3 x4 x5 x6
   have x0:=blk_cell HX.out 0
   have x1:=blk_cell HX.out 1
   have x2:=blk_cell HX.out 2
   go_wp2_with (first | ((with_reducible refine gate_builtin (b:=.append) (xs:=#[.tmp 16,.tmp 24]) rfl ?_);at_builtin;refine Kd.R_append k3 (w0:=w1) w1.heap.size rfl (.tmp 16) (.tmp 24) 77 79 (.agg #[.int .i64 0,.float .f64 0,.float .f64 0]) 24 rfl (by kernel_rfl) info79 rfl (by decide) (by omega) _ ((qs.map tell).take j) ⟨lv,s,a⟩ [.int .i64 lv,.float .f64 s,.float .f64 a] (fun _=>True) (fun _=>False) rfl rfl ?aP (fun _ hk=>hk.elim) ?aF ?aO ?aB ?aS ?aL ?_;(case aP=>exact k3_mkM _ _ _ ⟨lv,s,a⟩);(case aB=>exact HBB.out);(case aF=>exact (fun _ _=>trivial));(case aO=>exact HRA.out);(case aS=>exact below_size HBB.out);(case aL=>exact HLT.out);intro v7 w7 ho hb hg hat;have HR7:=hid ho;have HB7:=hid hb;clear ho hb hg hat))
   go_roundg (gk - 1)
   case measure=>exact HGK.out.1
   case rel=>exact ⟨j+1,HWR.out,⟨HGK.out.2⟩,⟨by rw [HTK.out];exact HR7.out,HB7.out⟩⟩
  ·have d1:decide ((j:Int)<(n:Int))=false:=decide_eq_false (by omega)
   have dn:decide (j<n)=false:=decide_eq_false hj
   have HE:=hid (show ToldR w (L - 1) (score n0 o sz) (.returned u3) wr by
    have h:=HR.out
    rw [List.take_of_length_le (by rw [List.length_map];have:=HN.out;omega)] at h
    exact ⟨u3,qs.map tell,rfl,Kd.R_lower h HB1.out.size,HPK.out,by rw [List.length_map];have:=HLEN.out;have:=HLX.out;omega,below_step HB1.out HB.out⟩)
   clear hj HI
   go_wp2_with fail
   rw [HQ.out]
   exact HE.out
set_option maxRecDepth 100000 in
set_option maxHeartbeats 4000000 in
theorem pick51_calls {w:World} {A0:Option Addr} {c0:Nat} {ls:List (List S68)} {m a b c d e f g:Int} {xs:List (List Tb)} (hxs:xs=ls.map (·.map tbOf)) (hC:Kd.C (Kd.slice 68 k68) w A0 ls.length ls) (hc0:ls.length≤c0) (hm:m=(xs.length:Int)) (hx:ls.length≤100) (h2:2≤ls.length) (hlen:∀ l∈ls,l.length≤50000)
  (hin:∀ l∈ls,∀ t∈l,InTab t) (hord:∀ (i:Nat) (l:List Tb),xs[i]? = some l→Od.SW l.length (It.ltOf i l)∧ord l.length (It.ltOf i l)=List.range l.length) (hg:IntKind.u64.wrap g=g) (hmul:2≤a) (hbase:1≤d∧d≤1000000000000000) (hzero:1≤c∧c≤1000) :
  Calls Tryz.prog 51 #[.slice A0 ls.length c0,.agg #[.int .i64 m,.int .i64 a,.int .i64 b,.int .i64 c,.int .i64 d,.int .i64 e,.int .i64 f,.int .i64 g]] w (ToldPost w (xs.length - 1) (score (xs.getD 0 []).length ⟨m,a,b,c,d,e,f,g⟩ (xs.map total))):=by
 obtain ⟨S,hSS⟩ : ∃ S,S=score (xs.getD 0 []).length ⟨m,a,b,c,d,e,f,g⟩ (xs.map total):=⟨_,rfl⟩
 rw [← hSS]
 obtain ⟨Q,hQ⟩ : ∃ Q,Q=ToldPost w (xs.length - 1) S:=⟨_,rfl⟩
 rw [← hQ]
 have HQ:=hid hQ
 have HSS:=hid hSS
 have HXL:=hid (show xs.length=ls.length by rw [hxs,List.length_map])
 have HN0:=hid (show (xs.getD 0 []).length≤1000000 by
  rw [hxs,List.getD_eq_getElem?_getD,List.getElem?_map]
  cases h:ls[0]? with
  | none=>simp
  | some l =>
   have:=hlen l (List.mem_of_getElem? h)
   simp only [Option.map_some,Option.getD_some,List.length_map]
   omega)
 have HSZ:=hid (sizes_ok (xs:=xs) (fun l hl=>by
  rw [hxs] at hl
  obtain ⟨l0,h0,rfl⟩:=List.mem_map.1 hl
  refine ⟨by rw [List.length_map];exact hlen l0 h0,fun t ht=>?_⟩
  obtain ⟨t0,h1,rfl⟩:=List.mem_map.1 ht
  exact (tb_ok (hin l0 h0 t0 h1)).2))
 have KB:=hid (fun (W:World) (hW:Below w.heap.size w W)=>build_calls (w:=W) (m:=m) (a:=a) (b:=b) (c:=c) (d:=d) (e:=e) (f:=f) (g:=g) hxs (Kd.C_below hC hW) hc0 hm hx hlen hin hord hg)
 have HX:=hid hx
 have H2:=hid h2
 have HMUL:=hid hmul
 have HBS:=hid hbase
 have HZE:=hid hzero
 clear hxs hC hc0 hm hx h2 hlen hin hord hg hQ hSS hmul hbase hzero
 go_enter Tryz.func51,Tryz.ntmps51
 go_upto_region 1 with (fail)
 obtain ⟨w1,hw1⟩ : ∃ w1,w1=w.alloc (.cells #[.int .i64 m,.int .i64 a,.int .i64 b,.int .i64 c,.int .i64 d,.int .i64 e,.int .i64 f,.int .i64 g] 24):=⟨_,rfl⟩
 rw [← hw1]
 obtain ⟨b3,hb3⟩ : ∃ b3,b3=w.heap.size:=⟨_,rfl⟩
 rw [← hb3]
 have HB1:=hid (show Below w.heap.size w w1 by rw [hw1];exact below_alloc (Below.refl _ _) _)
 have HO3:=hid (show w1.heap[b3]? = some (.cells #[.int .i64 m,.int .i64 a,.int .i64 b,.int .i64 c,.int .i64 d,.int .i64 e,.int .i64 f,.int .i64 g] 24 (0,0)) by rw [hw1,hb3];exact blk_new w _)
 clear hw1 hb3
 go_upto_region 2 with (first | ((with_reducible refine gate_dst (N:=8) rfl ?_);refine Kd.R_lit k3 (w0:=w1) w1.heap.size 64 ?hg (N:=8) ?hd (xs:=([]:List Q3)) (inner:=[]) (ok:=fun _=>True) (okp:=fun _=>True) ?hr ?hp (fun _ hk=>hk) trivial (Below.refl _ _) (Nat.le_refl _) (by simp) ?_;(case hd=>rfl);(case hg=>rfl);(case hr=>first | (go_simp;done) | (go_simp;rfl));(case hp=>exact (Reps.none _ _));intro v8 w2 ho hb hg_ hnew_;have HR2:=hid ho;have HB2:=hid hb;clear hg_ hnew_ ho hb))
 have HO2:=hid ((HB2.out.block _ (blk_lt HO3.out)).trans HO3.out)
 have HBW:=hid (below_step HB1.out HB2.out)
 have o0:=blk_cell HO2.out 0
 have o1:=blk_cell HO2.out 1
 have o2:=blk_cell HO2.out 2
 have o3:=blk_cell HO2.out 3
 have o4:=blk_cell HO2.out 4
 have o5:=blk_cell HO2.out 5
 have o6:=blk_cell HO2.out 6
 have o7:=blk_cell HO2.out 7
 go_wp2_with fail
 refine (KB.out w2 HBW.out).mono ?_
 rintro e2 w3 ⟨W,hW,lp,sb,ob,mb,rfl,hnr,hlp,hl1,hl2⟩
 obtain ⟨blk,cc,g2,c2,hPk⟩:=pks_of_new hnr (by have:=H2.out;have:=HXL.out;omega)
 have HB3:=hid (show Below w2.heap.size w2 w3 by
  obtain ⟨lv,cv,hs,cs,hq1,hq2,hq3,hq4⟩:=hnr
  exact hW.trans (hq1.bel.mono hW.size))
 have K61:=hid (pick61_calls (w:=w3) (blk_cell hlp 0) hPk (by have:=H2.out;have:=HXL.out;omega) (by have:=HX.out;have:=HXL.out;omega) HSZ.out HN0.out HMUL.out HBS.out HZE.out)
 rw [← HSS.out] at K61
 clear hW hnr hlp hl1 hl2 hPk o0 o1 o2 o3 o4 o5 o6 o7 KB
 simp only [ptr]
 go_wp2_with fail
 refine K61.out.mono ?_
 rintro e3 w4 ⟨va,qs,rfl,hA,hpk,hle,hb4⟩
 obtain ⟨nA,A,cA,hva⟩ : ∃ n A c,va=.slice A n c:=(by obtain ⟨A,c,e⟩:=Kd.R_slice hA;exact ⟨_,A,c,e⟩)
 subst hva
 have HA:=hid (show Kd.R k3 79 w4 w3.heap.size (fun k=>w3.heap.size≤k∧k<w4.heap.size) (.slice A nA cA) qs from Kd.R_mono (Kd.R_bound hA) (fun k hk=>⟨hk.2.1,hk.2.2.1⟩))
 have HNA:=hid (show nA=qs.length by obtain ⟨A2,c2,e2⟩:=Kd.R_slice hA;injection e2)
 have HPK:=hid hpk
 have HLEN:=hid hle
 have HB4:=hid (below_step (below_step HBW.out HB3.out) hb4)
 have HR4:=hid (show Kd.R k3 64 w4 w1.heap.size (fun k=>k<w3.heap.size∨w4.heap.size≤k) v8 [] from Kd.R_below (Kd.R_mono (Kd.R_bound (Kd.R_below HR2.out HB3.out)) (fun k hk=>.inl hk.2.2.1)) hb4)
 have HSZ2:=hid (show w1.heap.size≤w4.heap.size from Nat.le_trans HB2.out.size (Nat.le_trans HB3.out.size hb4.size))
 clear hA hpk hle hb4 K61 HR2
 obtain ⟨n,hn⟩ : ∃ n,n=qs.length:=⟨_,rfl⟩
 rw [← hn] at HLEN HNA
 obtain rfl:=HNA.out
 have HN:=hid hn
 clear hn
 go_wp2_with fail
 go_loopg [5,14] nA (fun kq v5 v14 wr=>∃ j:Nat,v14=.int .i64 (j:Int)∧Aside0 (j+kq=nA)∧Aside0 (Kd.R k3 64 wr w1.heap.size (fun k=>k<w3.heap.size∨w4.heap.size≤k) v5 (qs.take j)∧Below w.heap.size w wr∧Kd.R k3 79 wr w3.heap.size (fun k=>w3.heap.size≤k∧k<w4.heap.size) (.slice A nA cA) qs∧w4.heap.size≤wr.heap.size))
 case atStart=>exact ⟨0,rfl,⟨by omega⟩,⟨HR4.out,HB4.out,HA.out,Nat.le_refl _⟩⟩
 case round =>
  obtain ⟨j,rfl,HI,HQ2⟩:=hrel
  have HR:=hid HQ2.out.1
  have HB:=hid HQ2.out.2.1
  have HA2:=hid HQ2.out.2.2.1
  have HS2:=hid HQ2.out.2.2.2
  clear HQ2 HR4 HA HB4
  by_cases hj:j<nA
  ·have d1:decide ((j:Int)<(nA:Int))=true:=decide_eq_true (by omega)
   have dj:j<nA:=hj
   have HGK:=hid (show gk - 1<gk∧j+1+(gk - 1)=nA by have:=HI.out;omega)
   have HWR:=hid (show Value.int IntKind.i64 (wrap64 ((j:Int)+1))=Value.int IntKind.i64 ((j+1:Nat):Int) by rw [show wrap64 ((j:Int)+1)=((j+1:Nat):Int) by have:=HLEN.out;unfold wrap64;omega])
   have hjq:j<qs.length:=by have:=HN.out;omega
   have HTK:=hid (show qs.take (j+1)=qs.take j++[rd3 qs (j:Int)] by rw [List.take_succ_eq_append_getElem hjq];simp [rd3,hjq])
   have HLT:=hid (show ((qs.take j).length+1)*24≤140737488355328 by rw [List.length_take];have:=HLEN.out;omega)
   obtain ⟨ad,eA,x0,x1,x2⟩:=at3 (show Kd.C k3 wr A nA qs by have h:=(Kd.R_reads' HA2.out).2.2;rw [← HN.out] at h;exact h) (j:Int) (by omega) (by omega)
   subst eA
   generalize rd3 qs (j:Int)=q at x0 x1 x2 HTK
   obtain ⟨lv,s,t⟩:=q
   rw [show ((j:Int)).toNat=j from rfl] at x0 x1 x2
   simp only at x0 x1 x2
   have rsf:=run_storeF
   clear hj HI hjq
   go_upto_region 5 with (fail)
   obtain ⟨wa,hwa⟩ : ∃ wa,wa=wr.alloc (.cells #[.int .i64 lv,.float .f64 s,.float .f64 t] 79):=⟨_,rfl⟩
   rw [← hwa]
   obtain ⟨qb,hqb⟩ : ∃ b,b=wr.heap.size:=⟨_,rfl⟩
   rw [← hqb]
   have HBA:=hid (show Below wr.heap.size wr wa by rw [hwa];exact below_alloc (Below.refl _ _) _)
   have HX2:=hid (show wa.heap[qb]? = some (.cells #[.int .i64 lv,.float .f64 s,.float .f64 t] 79 (0,0)) by rw [hwa,hqb];exact blk_new wr _)
   have HBB:=hid (below_step HB.out HBA.out)
   have HAA:=hid (Kd.R_below HA2.out HBA.out)
   have HRA:=hid (Kd.R_below HR.out HBA.out)
   have HSA:=hid (show w1.heap.size≤wa.heap.size from Nat.le_trans HSZ2.out (Nat.le_trans HS2.out HBA.out.size))
   clear hwa hqb x0 x1 x2
   have x0:=blk_cell HX2.out 0
   have x1:=blk_cell HX2.out 1
   have x2:=blk_cell HX2.out 2
   go_wp2_with (first | ((with_reducible refine gate_builtin (b:=.append) (xs:=#[.tmp 18,.tmp 26]) rfl ?_);at_builtin;refine Kd.R_append k3 (w0:=wa) w1.heap.size rfl (.tmp 18) (.tmp 26) 60 64 (.agg #[.int .i64 0,.float .f64 0,.float .f64 0]) 24 rfl (by kernel_rfl) info64 rfl (by decide) (by omega) _ (qs.take j) ⟨lv,s,t⟩ [.int .i64 lv,.float .f64 s,.float .f64 t] (fun k=>k<w3.heap.size∨w4.heap.size≤k) (fun _=>False) rfl rfl ?aP (fun _ hk=>hk.elim) ?aF ?aO ?aB ?aS ?aL ?_;(case aP=>exact k3_mkM _ _ _ ⟨lv,s,t⟩);(case aB=>exact Below.refl _ _);(case aF=>exact (fun k hk=>.inr (Nat.le_trans HS2.out (Nat.le_trans HBA.out.size hk))));(case aO=>exact HRA.out);(case aS=>exact HSA.out);(case aL=>exact HLT.out);intro v7 w7 ho hb hg hat;have HR7:=hid ho;have HG7:=hid hg;clear ho hb hg hat))
   go_roundg (gk - 1)
   case measure=>exact HGK.out.1
   case rel =>
    refine ⟨j+1,HWR.out,⟨HGK.out.2⟩,⟨by rw [HTK.out];exact HR7.out,?_,?_,Nat.le_trans HS2.out (Nat.le_trans HBA.out.size HG7.out.size)⟩⟩
    ·exact HBB.out.grown HG7.out HBB.out.size (fun k hk=>Nat.le_trans HB1.out.size (Kd.R_base HRA.out k hk))
    ·refine Kd.R_step HAA.out (fun k hk hl=>HG7.out.block k (Nat.lt_of_lt_of_le hk.2 (Nat.le_trans HS2.out HBA.out.size)) (fun e=>?_))
     rcases HRA.out.1 k e.symm with h | h
     ·have:=hk.1;omega
     ·have:=hk.2;omega
  ·have d1:decide ((j:Int)<(nA:Int))=false:=decide_eq_false (by omega)
   have dn:decide (j<nA)=false:=decide_eq_false hj
   have HE:=hid (show ToldPost w (xs.length - 1) S (.returned u5) wr by
    have h:=HR.out
    rw [List.take_of_length_le (by have:=HN.out;omega)] at h
    obtain ⟨A,c,rfl⟩:=Kd.R_slice h
    have h3:=Kd.R_reads' h
    exact ⟨A,c,qs,rfl,h3.2.1,h3.2.2,HPK.out,by rw [← HN.out];exact HLEN.out,HB.out⟩)
   clear hj HI
   go_wp2_with fail
   rw [HQ.out]
   exact HE.out
end Go.Proofs.YtnineoajmgneiaaGreat.Pk
namespace Go.Proofs.YtnineoajmgneiaaGreat.Rg
open Lib (hid)
open Go.RowKit YtnineoajmgneiaaGreatW YtnineoajmgneiaaGreatW.PrintWords YtnineoajmgneiaaGreatW.PrintLast YtnineoajmgneiaaGreatW.PrintMore Fr L Ky Tm Lm It
/-- Two cells in line, set. -/
def put2 (arr:Array Value) (o:Nat) (u0 u1:Value):Array Value:=(arr.setIfInBounds o u0).setIfInBounds (o+1) u1
theorem set_same {arr:Array Value} {o:Nat} {u:Value} (h:arr[o]? = some u):arr.setIfInBounds o u=arr:=by
 apply Array.ext_getElem?
 intro i
 rw [Array.getElem?_setIfInBounds]
 split
 ·rename_i e
  subst e
  split
  ·exact h.symm
  ·rename_i hn
   exact absurd (Array.getElem?_eq_some_iff.1 h).1 hn
 ·rfl
theorem put2_far {arr:Array Value} {o:Nat} (u0 u1:Value):∀ i,i<o∨o+4≤i→(put2 arr o u0 u1)[i]? = arr[i]?:=by
 intro i h
 simp only [put2,Array.getElem?_setIfInBounds]
 rw [if_neg (by omega),if_neg (by omega)]
theorem put2_size (arr:Array Value) (o:Nat) (u0 u1:Value):(put2 arr o u0 u1).size=arr.size:=by simp [put2]
theorem put2_at {arr:Array Value} {o:Nat} (u0 u1:Value) {u2 u3:Value} (h2:arr[o+2]? = some u2) (h3:arr[o+3]? = some u3):∀ i u,[u0,u1,u2,u3][i]? = some u→(put2 arr o u0 u1)[o+i]? = some u:=by
 intro i u h
 have ho:o+3<arr.size:=(Array.getElem?_eq_some_iff.1 h3).1
 have hi:i<4:=(List.getElem?_eq_some_iff.1 h).1
 have:i=0∨i=1∨i=2∨i=3:=by omega
 rcases this with rfl | rfl | rfl | rfl<;>simp only [put2,Array.getElem?_setIfInBounds] at h ⊢ <;> simp at h<;>subst h
 ·simp;omega
 ·simp;omega
 ·rw [if_neg (by omega),if_neg (by omega)];exact h2
 ·rw [if_neg (by omega),if_neg (by omega)];exact h3
theorem ext_iv {r k:Rg} (h1:8≤r.lo.length) (h2:8≤r.hi.length) (k1:8≤k.lo.length) (hk:k.inf=false):extR r k=⟨if cmpK k.lo r.lo<0 then k.lo else r.lo,if 0<cmpK k.hi r.hi then k.hi else r.hi,r.inf⟩:=by
 have e1:emptyR k=false:=by unfold emptyR isE;rw [beq_eq_false_iff_ne.2 (show k.lo.length≠0 by omega)];rfl
 have e2:emptyR r=false:=by unfold emptyR isE;rw [beq_eq_false_iff_ne.2 (show r.lo.length≠0 by omega)];rfl
 unfold extR
 rw [e1,e2,hk]
 simp only [loE,hiE,Bool.false_eq_true,if_false,Bool.false_or]
 have a1:(if r.lo.length=0∨cmpK k.lo r.lo<0 then k.lo else r.lo)=if cmpK k.lo r.lo<0 then k.lo else r.lo:=by
  by_cases h:cmpK k.lo r.lo<0
  ·rw [if_pos (.inr h),if_pos h]
  ·rw [if_neg (by omega),if_neg h]
 have a2:(if r.hi.length=0∨0<cmpK k.hi r.hi then k.hi else r.hi)=if 0<cmpK k.hi r.hi then k.hi else r.hi:=by
  by_cases h:0<cmpK k.hi r.hi
  ·rw [if_pos (.inr h),if_pos h]
  ·rw [if_neg (by omega),if_neg h]
 rw [a1,a2]
theorem not_key {w:World} {g T a:Nat} {arr:Array Value} {x:List UInt8} (hg:w.heap[g]? = some (.cells arr T (0,0))) (hT:T≠5) (ha:w.heap[a]? = some (keyO x)):a≠g:=by
 rintro rfl
 rw [hg] at ha
 injection ha with ha
 injection ha with _ h _
 exact hT h
set_option maxRecDepth 100000 in
set_option maxHeartbeats 8000000 in
/-- A range between two keys, grown by another one. -/
theorem extI_calls {w:World} {ok:Nat→Prop} {g o T a b c d:Nat} {arr:Array Value} {r k:Rg} (hg:w.heap[g]? = some (.cells arr T (0,0))) (hT:T≠5) (hc:∀ i u,(rgC (some ⟨c,0,none⟩) (some ⟨d,0,none⟩) r)[i]? = some u→arr[o+i]? = some u)
  (ha:w.heap[a]? = some (keyO k.lo)) (oa:ok a) (hb:w.heap[b]? = some (keyO k.hi)) (ob:ok b) (l1:8≤k.lo.length∧k.lo.length≤100000100) (l2:8≤k.hi.length∧k.hi.length≤100000100) (hi:k.inf=false)
  (hc1:w.heap[c]? = some (keyO r.lo)) (oc:ok c) (hd1:w.heap[d]? = some (keyO r.hi)) (od:ok d) (l3:8≤r.lo.length∧r.lo.length≤100000100) (l4:8≤r.hi.length∧r.hi.length≤100000100) :
  Calls Tryz.prog 100 #[.pointer (some ⟨g,o,none⟩),.agg (rgC (some ⟨a,0,none⟩) (some ⟨b,0,none⟩) k).toArray] w (ExtPost w ok g o T arr (extR r k)):=by
 rw [ext_iv l3.1 l4.1 l1.1 hi]
 obtain ⟨lo,hi0,inf⟩:=k
 obtain ⟨rl,rh,ri⟩:=r
 simp only at ha hb l1 l2 hi hc1 hd1 l3 l4
 subst hi
 have d0:(((lo.length:Nat):Int) == 0)=false:=beq_eq_false_iff_ne.2 (by omega)
 have d1:(((hi0.length:Nat):Int) == 0)=false:=beq_eq_false_iff_ne.2 (by omega)
 have d2:(((rl.length:Nat):Int) == 0)=false:=beq_eq_false_iff_ne.2 (by omega)
 have d3:(((rh.length:Nat):Int) == 0)=false:=beq_eq_false_iff_ne.2 (by omega)
 have HG:=hid hg
 have HC:=hid hc
 have HA:=hid ha
 have HB:=hid hb
 have HC1:=hid hc1
 have HD1:=hid hd1
 have HAG:=hid (not_key hg hT ha)
 have HBG:=hid (not_key hg hT hb)
 have HCG:=hid (not_key hg hT hc1)
 have HDG:=hid (not_key hg hT hd1)
 have HE:=hid (fun W=>(isEmpty_calls (w:=W) (A:=some ⟨a,0,none⟩) (B:=some ⟨b,0,none⟩) (n:=lo.length) (c:=lo.length) (m:=hi0.length) (d:=hi0.length) (inf:=false) (s:=0)))
 rw [show isE lo.length hi0.length false=false by unfold isE;rw [beq_eq_false_iff_ne.2 (show lo.length≠0 by omega)];rfl] at HE
 have HE2:=hid (fun W=>(isEmpty_calls (w:=W) (A:=some ⟨c,0,none⟩) (B:=some ⟨d,0,none⟩) (n:=rl.length) (c:=rl.length) (m:=rh.length) (d:=rh.length) (inf:=ri) (s:=0)))
 rw [show isE rl.length rh.length ri=false by unfold isE;rw [beq_eq_false_iff_ne.2 (show rl.length≠0 by omega)];rfl] at HE2
 have HCC:=hid (show arr[o]? = some (.slice (some ⟨c,0,none⟩) rl.length rl.length)∧arr[o+1]? = some (.slice (some ⟨d,0,none⟩) rh.length rh.length)∧arr[o+2]? = some (.bool ri)∧arr[o+3]? = some (.int .i64 0) from ⟨hc 0 _ rfl,hc 1 _ rfl,hc 2 _ rfl,hc 3 _ rfl⟩)
 obtain ⟨z1,hz1⟩ : ∃ z,z=cmpK lo rl:=⟨_,rfl⟩
 obtain ⟨z2,hz2⟩ : ∃ z,z=cmpK hi0 rh:=⟨_,rfl⟩
 simp only [← hz1,← hz2]
 have HZ1:=hid hz1
 have HZ2:=hid hz2
 obtain ⟨X1,hX1⟩ : ∃ x,x=if z1<0 then lo else rl:=⟨_,rfl⟩
 obtain ⟨X2,hX2⟩ : ∃ x,x=if 0<z2 then hi0 else rh:=⟨_,rfl⟩
 rw [← hX1,← hX2]
 have HX1:=hid hX1
 have HX2:=hid hX2
 clear hX1 hX2
 clear hg ha hb hc hc1 hd1 hz1 hz2
 simp only [rgC]
 go_enter Tryz.func100,Tryz.ntmps100
 go_upto_region 1 with (fail)
 obtain ⟨w1,hw1⟩ : ∃ w1,w1=w.alloc (.cells #[.slice (some ⟨a,0,none⟩) lo.length lo.length,.slice (some ⟨b,0,none⟩) hi0.length hi0.length,.bool false,.int .i64 0] 126):=⟨_,rfl⟩
 rw [← hw1]
 obtain ⟨kb,hkb⟩ : ∃ b,b=w.heap.size:=⟨_,rfl⟩
 rw [← hkb]
 have HB1:=hid (show Below w.heap.size w w1 by rw [hw1];exact below_alloc (Below.refl _ _) _)
 have HX:=hid (show w1.heap[kb]? = some (.cells #[.slice (some ⟨a,0,none⟩) lo.length lo.length,.slice (some ⟨b,0,none⟩) hi0.length hi0.length,.bool false,.int .i64 0] 126 (0,0)) by rw [hw1,hkb];exact blk_new w _)
 have HKB:=hid (show kb≠g by have:=blk_lt HG.out;omega)
 clear hw1 hkb
 have m0:=blk_cell HX.out 0
 have m1:=blk_cell HX.out 1
 have m2:=blk_cell HX.out 2
 have m3:=blk_cell HX.out 3
 go_wp2_with fail
 clear m0 m1 m2 m3
 refine (HE.out _).mono ?_
 rintro e w2 ⟨rfl,hb2⟩
 have HB2:=hid (below_step HB1.out hb2)
 have HXB:=hid ((hb2.block _ (blk_lt HX.out)).trans HX.out)
 clear hb2
 have HG2:=hid ((HB2.out.block _ (blk_lt HG.out)).trans HG.out)
 have c0:w2.cell? ⟨g,o,none⟩=some (.slice (some ⟨c,0,none⟩) rl.length rl.length):=(blk_cell HG2.out o).trans HCC.out.1
 have c1:w2.cell? ⟨g,o+1,none⟩=some (.slice (some ⟨d,0,none⟩) rh.length rh.length):=(blk_cell HG2.out (o+1)).trans HCC.out.2.1
 have c2:w2.cell? ⟨g,o+2,none⟩=some (.bool ri):=(blk_cell HG2.out (o+2)).trans HCC.out.2.2.1
 have c3:w2.cell? ⟨g,o+3,none⟩=some (.int .i64 0):=(blk_cell HG2.out (o+3)).trans HCC.out.2.2.2
 go_wp2_with fail
 refine (HE2.out _).mono ?_
 rintro e w3 ⟨rfl,hb3⟩
 clear c0 c1 c2 c3
 have HB3:=hid (below_step HB2.out hb3)
 have HX3:=hid ((hb3.block _ (blk_lt HXB.out)).trans HXB.out)
 have HG3:=hid ((hb3.block _ (blk_lt HG2.out)).trans HG2.out)
 clear hb3
 have HA3:=hid ((HB3.out.block _ (blk_lt HA.out)).trans HA.out)
 have HBB3:=hid ((HB3.out.block _ (blk_lt HB.out)).trans HB.out)
 have HC3:=hid ((HB3.out.block _ (blk_lt HC1.out)).trans HC1.out)
 have HD3:=hid ((HB3.out.block _ (blk_lt HD1.out)).trans HD1.out)
 have m0:=blk_cell HX3.out 0
 have c0:w3.cell? ⟨g,o,none⟩=some (.slice (some ⟨c,0,none⟩) rl.length rl.length):=(blk_cell HG3.out o).trans HCC.out.1
 have f0:=blk_frozen HG3.out o
 have H0:=hid (fun k=>Calls.quiet_of (compareKeys_calls (w:=w3.drewN k) (x:=lo) (y:=rl) rfl rfl HA3.out HC3.out l1.1 l3.1 (by have:=l1.2;omega) (by have:=l3.2;omega)))
 rw [← HZ1.out] at H0
 by_cases gz:z1<0
 ·have f2:=decide_eq_true gz
  have HGz1:=hid gz
  clear gz
  go_wp2_with fail
  go_quiet ((go_at_call 112;with_reducible exact H0.out _))
  clear H0
  go_wp2_with fail
  obtain ⟨w4,hw4⟩ : ∃ w4,w4=(w3.drewN nq).setCell ⟨g,o,none⟩ (.slice (some ⟨a,0,none⟩) lo.length lo.length):=⟨_,rfl⟩
  rw [← hw4]
  have HG4:=hid (show w4.heap[g]? = some (.cells (arr.setIfInBounds o (.slice (some ⟨a,0,none⟩) lo.length lo.length)) T (0,0)) by
   rw [hw4]
   exact blk_set (w:=w3.drewN nq) HG3.out o _)
  have HF4:=hid (show ∀ q,q≠g→w4.heap[q]? = w3.heap[q]? by
   intro q hq
   rw [hw4]
   exact Below.heap_setCell (w3.drewN nq) _ _ q hq)
  have HS4:=hid (show Below 0 w w4 by rw [hw4];exact (pw_below_drewN (HB3.out.mono (Nat.zero_le _)) _).setCell (Nat.zero_le _) _)
  clear hw4 c0 f0 m0
  have HX4:=hid ((HF4.out kb HKB.out).trans HX3.out)
  have m1:=blk_cell HX4.out 1
  have m2:=blk_cell HX4.out 2
  have c1:w4.cell? ⟨g,o+1,none⟩=some (.slice (some ⟨d,0,none⟩) rh.length rh.length):=(blk_cell HG4.out (o+1)).trans (by rw [Array.getElem?_setIfInBounds,if_neg (by omega)];exact HCC.out.2.1)
  have f1:=blk_frozen HG4.out (o+1)
  have H1:=hid (fun k=>Calls.quiet_of (compareKeys_calls (w:=w4.drewN k) (x:=hi0) (y:=rh) rfl rfl ((HF4.out b HBG.out).trans HBB3.out) ((HF4.out d HDG.out).trans HD3.out) l2.1 l4.1 (by have:=l2.2;omega) (by have:=l4.2;omega)))
  rw [← HZ2.out] at H1
  by_cases gz:0<z2
  ·have f2:=decide_eq_true gz
   have HGz2:=hid gz
   clear gz
   go_wp2_with fail
   go_quiet ((go_at_call 112;with_reducible exact H1.out _))
   clear H1
   obtain ⟨w6,hw6⟩ : ∃ w6,w6=w4.drewN nq:=⟨_,rfl⟩
   rw [← hw6]
   have HG6:=hid (show w6.heap[g]? = some (.cells (arr.setIfInBounds o (.slice (some ⟨a,0,none⟩) lo.length lo.length)) T (0,0)) by rw [hw6];exact HG4.out)
   have HF6:=hid (show ∀ q,q≠g→w6.heap[q]? = w3.heap[q]? by rw [hw6];exact HF4.out)
   have HS6:=hid (show Below 0 w w6 by rw [hw6];exact pw_below_drewN HS4.out _)
   have m1:w6.cell? ⟨kb,1,none⟩=some (.slice (some ⟨b,0,none⟩) hi0.length hi0.length):=by rw [hw6];exact m1
   have m2:w6.cell? ⟨kb,2,none⟩=some (.bool false):=by rw [hw6];exact m2
   have f1:w6.frozen? ⟨g,o+1,none⟩=false:=by rw [hw6];exact f1
   have c1:w6.cell? ⟨g,o+1,none⟩=some (.slice (some ⟨d,0,none⟩) rh.length rh.length):=by rw [hw6];exact c1
   have n2:(w6.setCell ⟨g,o+1,none⟩ (.slice (some ⟨b,0,none⟩) hi0.length hi0.length)).cell? ⟨kb,2,none⟩=some (.bool false):=cell_far (p:=⟨g,o+1,none⟩) m2 HKB.out
   clear hw6
   go_wp2_with fail
   go_end0
   obtain ⟨w7,hw7⟩ : ∃ w7,w7=w6.setCell ⟨g,o+1,none⟩ (.slice (some ⟨b,0,none⟩) hi0.length hi0.length):=⟨_,rfl⟩
   rw [← hw7]
   have hg7:w7.heap[g]? = some (.cells (put2 arr o (.slice (some ⟨a,0,none⟩) lo.length lo.length) (.slice (some ⟨b,0,none⟩) hi0.length hi0.length)) T (0,0)):=by
    rw [hw7]
    exact blk_set HG6.out (o+1) _
   have hf7:∀ q,q≠g→w7.heap[q]? = w3.heap[q]?:=fun q hq=>by
    rw [hw7]
    exact (Below.heap_setCell _ _ _ q hq).trans (HF6.out q hq)
   have hs7:Below 0 w w7:=by rw [hw7];exact HS6.out.setCell (Nat.zero_le _) _
   have e1:X1=lo:=HX1.out.trans (if_pos (by have:=HGz1.out;omega))
   have e2:X2=hi0:=HX2.out.trans (if_pos (by have:=HGz2.out;omega))
   refine ⟨rfl,_,some ⟨a,0,none⟩,some ⟨b,0,none⟩,hg7,?_,put2_far _ _,put2_size _ _ _ _,.inr ⟨a,rfl,?_,oa⟩,.inr ⟨b,rfl,?_,ob⟩,?_,fun q hq hne=>?_⟩
   ·rw [e1,e2]
    exact put2_at _ _ HCC.out.2.2.1 HCC.out.2.2.2
   ·rw [hf7 _ HAG.out];simp only [e1];exact HA3.out
   ·rw [hf7 _ HBG.out];simp only [e2];exact HBB3.out
   ·exact hs7
   ·exact (hf7 q hne).trans (HB3.out.block q hq)
  ·have f2:=decide_eq_false gz
   have HGz2:=hid gz
   clear gz
   go_wp2_with fail
   go_quiet ((go_at_call 112;with_reducible exact H1.out _))
   clear H1
   obtain ⟨w6,hw6⟩ : ∃ w6,w6=w4.drewN nq:=⟨_,rfl⟩
   rw [← hw6]
   have HG6:=hid (show w6.heap[g]? = some (.cells (arr.setIfInBounds o (.slice (some ⟨a,0,none⟩) lo.length lo.length)) T (0,0)) by rw [hw6];exact HG4.out)
   have HF6:=hid (show ∀ q,q≠g→w6.heap[q]? = w3.heap[q]? by rw [hw6];exact HF4.out)
   have HS6:=hid (show Below 0 w w6 by rw [hw6];exact pw_below_drewN HS4.out _)
   have m1:w6.cell? ⟨kb,1,none⟩=some (.slice (some ⟨b,0,none⟩) hi0.length hi0.length):=by rw [hw6];exact m1
   have m2:w6.cell? ⟨kb,2,none⟩=some (.bool false):=by rw [hw6];exact m2
   have f1:w6.frozen? ⟨g,o+1,none⟩=false:=by rw [hw6];exact f1
   have c1:w6.cell? ⟨g,o+1,none⟩=some (.slice (some ⟨d,0,none⟩) rh.length rh.length):=by rw [hw6];exact c1
   have n2:(w6.setCell ⟨g,o+1,none⟩ (.slice (some ⟨b,0,none⟩) hi0.length hi0.length)).cell? ⟨kb,2,none⟩=some (.bool false):=cell_far (p:=⟨g,o+1,none⟩) m2 HKB.out
   clear hw6
   go_wp2_with fail
   go_end0
   obtain ⟨w7,hw7⟩ : ∃ w7,w7=w6:=⟨_,rfl⟩
   rw [← hw7]
   have hg7:w7.heap[g]? = some (.cells (put2 arr o (.slice (some ⟨a,0,none⟩) lo.length lo.length) (.slice (some ⟨d,0,none⟩) rh.length rh.length)) T (0,0)):=by
    rw [hw7]
    unfold put2;rw [set_same (o:=o+1)];exact HG6.out;rw [Array.getElem?_setIfInBounds,if_neg (by omega)];exact HCC.out.2.1
   have hf7:∀ q,q≠g→w7.heap[q]? = w3.heap[q]?:=fun q hq=>by
    rw [hw7]
    exact HF6.out q hq
   have hs7:Below 0 w w7:=by rw [hw7];exact HS6.out
   have e1:X1=lo:=HX1.out.trans (if_pos (by have:=HGz1.out;omega))
   have e2:X2=rh:=HX2.out.trans (if_neg (by have:=HGz2.out;omega))
   refine ⟨rfl,_,some ⟨a,0,none⟩,some ⟨d,0,none⟩,hg7,?_,put2_far _ _,put2_size _ _ _ _,.inr ⟨a,rfl,?_,oa⟩,.inr ⟨d,rfl,?_,od⟩,?_,fun q hq hne=>?_⟩
   ·rw [e1,e2]
    exact put2_at _ _ HCC.out.2.2.1 HCC.out.2.2.2
   ·rw [hf7 _ HAG.out];simp only [e1];exact HA3.out
   ·rw [hf7 _ HDG.out];simp only [e2];exact HD3.out
   ·exact hs7
   ·exact (hf7 q hne).trans (HB3.out.block q hq)
 ·have f2:=decide_eq_false gz
  have HGz1:=hid gz
  clear gz
  go_wp2_with fail
  go_quiet ((go_at_call 112;with_reducible exact H0.out _))
  clear H0
  go_wp2_with fail
  obtain ⟨w4,hw4⟩ : ∃ w4,w4=w3.drewN nq:=⟨_,rfl⟩
  rw [← hw4]
  have HG4:=hid (show w4.heap[g]? = some (.cells (arr.setIfInBounds o (.slice (some ⟨c,0,none⟩) rl.length rl.length)) T (0,0)) by
   rw [hw4]
   rw [set_same HCC.out.1];exact HG3.out)
  have HF4:=hid (show ∀ q,q≠g→w4.heap[q]? = w3.heap[q]? by
   intro q hq
   rw [hw4]
   rfl)
  have HS4:=hid (show Below 0 w w4 by rw [hw4];exact pw_below_drewN (HB3.out.mono (Nat.zero_le _)) _)
  clear hw4 c0 f0 m0
  have HX4:=hid ((HF4.out kb HKB.out).trans HX3.out)
  have m1:=blk_cell HX4.out 1
  have m2:=blk_cell HX4.out 2
  have c1:w4.cell? ⟨g,o+1,none⟩=some (.slice (some ⟨d,0,none⟩) rh.length rh.length):=(blk_cell HG4.out (o+1)).trans (by rw [Array.getElem?_setIfInBounds,if_neg (by omega)];exact HCC.out.2.1)
  have f1:=blk_frozen HG4.out (o+1)
  have H1:=hid (fun k=>Calls.quiet_of (compareKeys_calls (w:=w4.drewN k) (x:=hi0) (y:=rh) rfl rfl ((HF4.out b HBG.out).trans HBB3.out) ((HF4.out d HDG.out).trans HD3.out) l2.1 l4.1 (by have:=l2.2;omega) (by have:=l4.2;omega)))
  rw [← HZ2.out] at H1
  by_cases gz:0<z2
  ·have f2:=decide_eq_true gz
   have HGz2:=hid gz
   clear gz
   go_wp2_with fail
   go_quiet ((go_at_call 112;with_reducible exact H1.out _))
   clear H1
   obtain ⟨w6,hw6⟩ : ∃ w6,w6=w4.drewN nq:=⟨_,rfl⟩
   rw [← hw6]
   have HG6:=hid (show w6.heap[g]? = some (.cells (arr.setIfInBounds o (.slice (some ⟨c,0,none⟩) rl.length rl.length)) T (0,0)) by rw [hw6];exact HG4.out)
   have HF6:=hid (show ∀ q,q≠g→w6.heap[q]? = w3.heap[q]? by rw [hw6];exact HF4.out)
   have HS6:=hid (show Below 0 w w6 by rw [hw6];exact pw_below_drewN HS4.out _)
   have m1:w6.cell? ⟨kb,1,none⟩=some (.slice (some ⟨b,0,none⟩) hi0.length hi0.length):=by rw [hw6];exact m1
   have m2:w6.cell? ⟨kb,2,none⟩=some (.bool false):=by rw [hw6];exact m2
   have f1:w6.frozen? ⟨g,o+1,none⟩=false:=by rw [hw6];exact f1
   have c1:w6.cell? ⟨g,o+1,none⟩=some (.slice (some ⟨d,0,none⟩) rh.length rh.length):=by rw [hw6];exact c1
   have n2:(w6.setCell ⟨g,o+1,none⟩ (.slice (some ⟨b,0,none⟩) hi0.length hi0.length)).cell? ⟨kb,2,none⟩=some (.bool false):=cell_far (p:=⟨g,o+1,none⟩) m2 HKB.out
   clear hw6
   go_wp2_with fail
   go_end0
   obtain ⟨w7,hw7⟩ : ∃ w7,w7=w6.setCell ⟨g,o+1,none⟩ (.slice (some ⟨b,0,none⟩) hi0.length hi0.length):=⟨_,rfl⟩
   rw [← hw7]
   have hg7:w7.heap[g]? = some (.cells (put2 arr o (.slice (some ⟨c,0,none⟩) rl.length rl.length) (.slice (some ⟨b,0,none⟩) hi0.length hi0.length)) T (0,0)):=by
    rw [hw7]
    exact blk_set HG6.out (o+1) _
   have hf7:∀ q,q≠g→w7.heap[q]? = w3.heap[q]?:=fun q hq=>by
    rw [hw7]
    exact (Below.heap_setCell _ _ _ q hq).trans (HF6.out q hq)
   have hs7:Below 0 w w7:=by rw [hw7];exact HS6.out.setCell (Nat.zero_le _) _
   have e1:X1=rl:=HX1.out.trans (if_neg (by have:=HGz1.out;omega))
   have e2:X2=hi0:=HX2.out.trans (if_pos (by have:=HGz2.out;omega))
   refine ⟨rfl,_,some ⟨c,0,none⟩,some ⟨b,0,none⟩,hg7,?_,put2_far _ _,put2_size _ _ _ _,.inr ⟨c,rfl,?_,oc⟩,.inr ⟨b,rfl,?_,ob⟩,?_,fun q hq hne=>?_⟩
   ·rw [e1,e2]
    exact put2_at _ _ HCC.out.2.2.1 HCC.out.2.2.2
   ·rw [hf7 _ HCG.out];simp only [e1];exact HC3.out
   ·rw [hf7 _ HBG.out];simp only [e2];exact HBB3.out
   ·exact hs7
   ·exact (hf7 q hne).trans (HB3.out.block q hq)
  ·have f2:=decide_eq_false gz
   have HGz2:=hid gz
   clear gz
   go_wp2_with fail
   go_quiet ((go_at_call 112;with_reducible exact H1.out _))
   clear H1
   obtain ⟨w6,hw6⟩ : ∃ w6,w6=w4.drewN nq:=⟨_,rfl⟩
   rw [← hw6]
   have HG6:=hid (show w6.heap[g]? = some (.cells (arr.setIfInBounds o (.slice (some ⟨c,0,none⟩) rl.length rl.length)) T (0,0)) by rw [hw6];exact HG4.out)
   have HF6:=hid (show ∀ q,q≠g→w6.heap[q]? = w3.heap[q]? by rw [hw6];exact HF4.out)
   have HS6:=hid (show Below 0 w w6 by rw [hw6];exact pw_below_drewN HS4.out _)
   have m1:w6.cell? ⟨kb,1,none⟩=some (.slice (some ⟨b,0,none⟩) hi0.length hi0.length):=by rw [hw6];exact m1
   have m2:w6.cell? ⟨kb,2,none⟩=some (.bool false):=by rw [hw6];exact m2
   have f1:w6.frozen? ⟨g,o+1,none⟩=false:=by rw [hw6];exact f1
   have c1:w6.cell? ⟨g,o+1,none⟩=some (.slice (some ⟨d,0,none⟩) rh.length rh.length):=by rw [hw6];exact c1
   have n2:(w6.setCell ⟨g,o+1,none⟩ (.slice (some ⟨b,0,none⟩) hi0.length hi0.length)).cell? ⟨kb,2,none⟩=some (.bool false):=cell_far (p:=⟨g,o+1,none⟩) m2 HKB.out
   clear hw6
   go_wp2_with fail
   go_end0
   obtain ⟨w7,hw7⟩ : ∃ w7,w7=w6:=⟨_,rfl⟩
   rw [← hw7]
   have hg7:w7.heap[g]? = some (.cells (put2 arr o (.slice (some ⟨c,0,none⟩) rl.length rl.length) (.slice (some ⟨d,0,none⟩) rh.length rh.length)) T (0,0)):=by
    rw [hw7]
    unfold put2;rw [set_same (o:=o+1)];exact HG6.out;rw [Array.getElem?_setIfInBounds,if_neg (by omega)];exact HCC.out.2.1
   have hf7:∀ q,q≠g→w7.heap[q]? = w3.heap[q]?:=fun q hq=>by
    rw [hw7]
    exact HF6.out q hq
   have hs7:Below 0 w w7:=by rw [hw7];exact HS6.out
   have e1:X1=rl:=HX1.out.trans (if_neg (by have:=HGz1.out;omega))
   have e2:X2=rh:=HX2.out.trans (if_neg (by have:=HGz2.out;omega))
   refine ⟨rfl,_,some ⟨c,0,none⟩,some ⟨d,0,none⟩,hg7,?_,put2_far _ _,put2_size _ _ _ _,.inr ⟨c,rfl,?_,oc⟩,.inr ⟨d,rfl,?_,od⟩,?_,fun q hq hne=>?_⟩
   ·rw [e1,e2]
    exact put2_at _ _ HCC.out.2.2.1 HCC.out.2.2.2
   ·rw [hf7 _ HCG.out];simp only [e1];exact HC3.out
   ·rw [hf7 _ HDG.out];simp only [e2];exact HD3.out
   ·exact hs7
   ·exact (hf7 q hne).trans (HB3.out.block q hq)
theorem rg_empty {r:Rg} (h:r.lo=[]∧r.hi=[]) (hi:r.inf=false):r=rE:=by
 obtain ⟨a,b,c⟩:=r
 simp only at h hi
 obtain ⟨rfl,rfl⟩:=h
 subst hi
 rfl
theorem ext_rE {k:Rg} (k1:8≤k.lo.length) (hk:k.inf=false):extR rE k=k:=by
 have e1:emptyR k=false:=by unfold emptyR isE;rw [beq_eq_false_iff_ne.2 (show k.lo.length≠0 by omega)];rfl
 unfold extR
 rw [e1]
 obtain ⟨a,b,c⟩:=k
 simp only at hk k1
 subst hk
 show (⟨loE _ _,hiE _ _,_⟩ : Rg)=_
 simp [loE,hiE,emptyR,isE,rE]
/-- A range grown by a range between two keys. -/
theorem ext_calls {w:World} {ok:Nat→Prop} {g o T a b:Nat} {A0 B0:Option Addr} {arr:Array Value} {r k:Rg} (hg:w.heap[g]? = some (.cells arr T (0,0))) (hT:T≠5) (hc:∀ i u,(rgC A0 B0 r)[i]? = some u→arr[o+i]? = some u)
  (ha:w.heap[a]? = some (keyO k.lo)) (oa:ok a) (hb:w.heap[b]? = some (keyO k.hi)) (ob:ok b) (l1:8≤k.lo.length∧k.lo.length≤100000100) (l2:8≤k.hi.length∧k.hi.length≤100000100) (hi:k.inf=false)
  (h1:KB w ok A0 r.lo) (h2:KB w ok B0 r.hi) (h3:RgOk r) (h4:r.inf=false) :
  Calls Tryz.prog 100 #[.pointer (some ⟨g,o,none⟩),.agg (rgC (some ⟨a,0,none⟩) (some ⟨b,0,none⟩) k).toArray] w (ExtPost w ok g o T arr (extR r k)):=by
 rcases h3 with h3 | ⟨h3,h5⟩
 ·obtain rfl:=rg_empty h3 h4
  rw [ext_rE l1.1 hi]
  exact extE_calls hg hT hc ha oa hb ob l1 l2 hi
 ·rcases h1 with h1 | ⟨c,rfl,h1,oc⟩
  ·rw [h1.1] at h3;simp at h3
  ·rcases h2 with h2 | ⟨d,rfl,h2,od⟩
   ·rw [h2.1] at h5;simp at h5
   ·exact extI_calls hg hT hc ha oa hb ob l1 l2 hi h1 oc h2 od h3 h5
end Go.Proofs.YtnineoajmgneiaaGreat.Rg
namespace Go.Proofs.YtnineoajmgneiaaGreat.Rg
open Lib (hid)
open Go.RowKit YtnineoajmgneiaaGreatW YtnineoajmgneiaaGreatW.PrintWords YtnineoajmgneiaaGreatW.PrintLast YtnineoajmgneiaaGreatW.PrintMore Fr L Ky Tm Lm It
abbrev KT (w:World) (A:Option Addr) (x:List UInt8):Prop:=KB w (fun _=>True) A x
theorem KB.key {w:World} {ok:Nat→Prop} {A:Option Addr} {x:List UInt8} (h:KB w ok A x) (hx:0<x.length):∃ b,A=some ⟨b,0,none⟩∧w.heap[b]? = some (keyO x):=by
 rcases h with h | ⟨b,e,h,_⟩
 ·rw [h.1] at hx;simp at hx
 ·exact ⟨b,e,h⟩
theorem ok_iv {r:Rg} (h:RgOk r) (he:emptyR r=false) (hi:r.inf=false):(8≤r.lo.length∧r.lo.length≤100000100)∧8≤r.hi.length∧r.hi.length≤100000100:=by
 rcases h with ⟨h1,h2⟩ | h
 ·simp [emptyR,isE,h1,h2,hi] at he
 ·exact h
theorem ovR_calls {w:World} {r d:Rg} {A B A2 B2:Option Addr} (h1:KT w A r.lo) (h2:KT w B r.hi) (h3:KT w A2 d.lo) (h4:KT w B2 d.hi) (hr:RgOk r) (hd:RgOk d) :
  Calls Tryz.prog 119 #[.agg (rgC A B r).toArray,.agg (rgC A2 B2 d).toArray] w fun e w'=>e=.returned (.bool (ovR r d))∧Below w.heap.size w w':=by
 have key:∀ {W:World} {x y:List UInt8} {A B:Option Addr},Below w.heap.size w W→KT w A x→KT w B y→8≤x.length→8≤y.length→x.length≤100000100→y.length≤100000100→Calls Tryz.prog 112 #[.slice A x.length x.length,.slice B y.length y.length] W fun e w'=>e=.returned (.int .i64 (cmpK x y))∧∃ q,w'=W.drewN q:=by
  intro W x y A B hb ha hb2 l1 l2 l3 l4
  obtain ⟨a,rfl,k1⟩:=ha.key (by omega)
  obtain ⟨b,rfl,k2⟩:=hb2.key (by omega)
  exact compareKeys_calls rfl rfl ((hb.block _ (blk_lt k1)).trans k1) ((hb.block _ (blk_lt k2)).trans k2) l1 l2 (by omega) (by omega)
 unfold rgC
 refine ov_calls (e1:=emptyR r) (e2:=emptyR d) rfl rfl (fun a1 a2 a3 a4 W hb=>?_) (fun a1 a2 a3 a4 W hb=>?_)
 ·have lr:=ok_iv hr a1 a3
  have ld:=ok_iv hd a2 a4
  exact key hb h1 h4 lr.1.1 ld.2.1 lr.1.2 ld.2.2
 ·have lr:=ok_iv hr a1 a3
  have ld:=ok_iv hd a2 a4
  exact key hb h2 h3 lr.2.1 ld.1.1 lr.2.2 ld.1.2
def rAt (rs:List Rg) (i:Nat):Rg:=rs.getD i rE
/-- A row of ranges that is read. -/
def RRow (w:World) (A:Option Addr) (rs:List Rg):Prop:=∀ j,j<rs.length→∃ g A1 B1,A=some ⟨g,0,none⟩∧(∀ i u,(rgC A1 B1 (rAt rs j))[i]? = some u→w.cell? ⟨g,j*4+i,none⟩=some u)∧KT w A1 (rAt rs j).lo∧KT w B1 (rAt rs j).hi
theorem KB.below {w w1:World} {ok:Nat→Prop} {A:Option Addr} {x:List UInt8} (h:KB w ok A x) (hb:Below w.heap.size w w1):KB w1 ok A x:=h.move (fun b _ hl=>hb.block b hl)
theorem RRow.below {w w1:World} {A:Option Addr} {rs:List Rg} (h:RRow w A rs) (hb:Below w.heap.size w w1):RRow w1 A rs:=fun j hj=>by
 obtain ⟨g,A1,B1,e,h1,h2,h3⟩:=h j hj
 exact ⟨g,A1,B1,e,fun i u hu=>(hb.cell (World.block_lt_of_cell? w _ (h1 i u hu))).trans (h1 i u hu),h2.below hb,h3.below hb⟩
theorem rrow_of_R {w:World} {base c:Nat} {ok:Nat→Prop} {A:Option Addr} {n:Nat} {rs:List Rg} (h:kR.R 126 w base ok (.slice A n c) rs):RRow w A rs:=fun j hj=>by
 have hn:n=rs.length:=(Kd.R_reads' h).1
 subst hn
 obtain ⟨ad,hA,-⟩ : ∃ ad,A=some ad∧True:=by
  obtain ⟨g,cap,e,_⟩:=Kd.R_form h (by omega)
  injection e with e
  exact ⟨_,e,trivial⟩
 subst hA
 obtain ⟨g,rfl⟩:=Kd.R_head h
 obtain ⟨cs,_,hM,hc⟩:=Kd.R_getA h rE (j:Int) (by omega) (by omega)
 obtain ⟨A1,B1,e,h1,h2⟩:=hM.1
 rw [Int.toNat_natCast] at e h1 h2 hc
 refine ⟨g,A1,B1,rfl,fun i u hu=>?_,h1.mono (fun _ _ _ _=>trivial),h2.mono (fun _ _ _ _=>trivial)⟩
 have:=hc i u (by rw [e];exact hu)
 rwa [add_off,Nat.zero_add] at this
theorem rrow_cells {w:World} {g k:Nat} {A B:Option Addr} {r:Rg} (h:∀ i u,(rgC A B r)[i]? = some u→w.cell? ⟨g,k+i,none⟩=some u) :
  w.cell? ⟨g,k,none⟩=some (.slice A r.lo.length r.lo.length)∧w.cell? ⟨g,k+1,none⟩=some (.slice B r.hi.length r.hi.length)∧w.cell? ⟨g,k+2,none⟩=some (.bool r.inf)∧w.cell? ⟨g,k+3,none⟩=some (.int .i64 0):=⟨h 0 _ rfl,h 1 _ rfl,h 2 _ rfl,h 3 _ rfl⟩
theorem rAt_mem {rs:List Rg} {j:Nat} (h:j<rs.length):rAt rs j∈rs:=by simp [rAt,h]
set_option maxRecDepth 100000 in
set_option maxHeartbeats 4000000 in
theorem lovl_calls {w:World} {c cap:Nat} {A A2 B2:Option Addr} {x:Value} {rs:List Rg} {d:Rg} (hc:w.heap[c]? = some (.cells #[.slice A rs.length cap,x] 144 (0,0))) (h:RRow w A rs) (hn:rs.length≤2000000) (hok:∀ r∈rs,RgOk r) (h3:KT w A2 d.lo) (h4:KT w B2 d.hi) (hd:RgOk d) :
  Calls Tryz.prog 128 #[.pointer (some ⟨c,0,none⟩),.agg (rgC A2 B2 d).toArray] w fun e w'=>e=.returned (.bool (rs.any fun r=>ovR r d))∧Below w.heap.size w w':=by
 have H0:=hid h
 have HOK:=hid (show ∀ j,j<rs.length→RgOk (rAt rs j) from fun j hj=>hok _ (rAt_mem hj))
 have H3:=hid h3
 have H4:=hid h4
 have HN:=hid hn
 have HC:=hid hc
 clear h hok h3 h4 hn hc
 obtain ⟨q0,hq0⟩ : ∃ q,q=rs.any fun r=>ovR r d:=⟨_,rfl⟩
 rw [← hq0]
 have HQ0:=hid hq0
 clear hq0
 simp only [rgC]
 go_enter Tryz.func128,Tryz.ntmps128
 go_upto_region 1 with (fail)
 obtain ⟨w1,hw1⟩ : ∃ w1,w1=w.alloc (.cells #[.slice A2 d.lo.length d.lo.length,.slice B2 d.hi.length d.hi.length,.bool d.inf,.int .i64 0] 126):=⟨_,rfl⟩
 rw [← hw1]
 obtain ⟨kb,hkb⟩ : ∃ b,b=w.heap.size:=⟨_,rfl⟩
 rw [← hkb]
 have HB1:=hid (show Below w.heap.size w w1 by rw [hw1];exact below_alloc (Below.refl _ _) _)
 have HX:=hid (show w1.heap[kb]? = some (.cells #[.slice A2 d.lo.length d.lo.length,.slice B2 d.hi.length d.hi.length,.bool d.inf,.int .i64 0] 126 (0,0)) by rw [hw1,hkb];exact blk_new w _)
 clear hw1 hkb
 have c0:w1.cell? ⟨c,0,none⟩=some (.slice A rs.length cap):=blk_cell ((HB1.out.block _ (blk_lt HC.out)).trans HC.out) 0
 go_wp2_with fail
 go_loopg [4,12] rs.length (fun kq v4 v12 wr=>∃ i:Nat,v4=.bool false∧v12=.int .i64 (i:Int)∧Aside0 (i+kq=rs.length∧Below w1.heap.size w1 wr∧((rs.take i).any fun r=>ovR r d)=false))
 case atStart=>exact ⟨0,rfl,rfl,⟨by omega,Below.refl _ _,by simp⟩⟩
 case round =>
  obtain ⟨i,rfl,rfl,HQ⟩:=hrel
  clear c0
  have HB2:=hid HQ.out.2.1
  have HANY:=hid HQ.out.2.2
  have HI:=hid HQ.out.1
  clear HQ
  have hb:=hid (below_step HB1.out HB2.out)
  by_cases hj:i<rs.length
  ·have d1:decide ((i:Int)<(rs.length:Int))=true:=decide_eq_true (by omega)
   have s3:IntKind.i64.wrap ((i:Int)+1)=((i+1:Nat):Int):=by rw [IntWalk.i64_in _ (by have:=HN.out;omega)];omega
   have HGK:=hid (show gk - 1<gk∧i+1+(gk - 1)=rs.length by have:=HI.out;omega)
   obtain ⟨g,A1,B1,hA,hcs,hk1,hk2⟩:=H0.out.below hb.out i hj
   subst hA
   obtain ⟨k0,k1,k2,k3⟩:=rrow_cells hcs
   have HK1:=hid hk1
   have HK2:=hid hk2
   have HRO:=hid (HOK.out i hj)
   have HTK:=hid (show (rs.take (i+1)).any (fun r=>ovR r d)=ovR (rAt rs i) d by
    have e:rs.take (i+1)=rs.take i++[rAt rs i]:=by rw [List.take_succ_eq_append_getElem hj];simp [rAt,hj]
    rw [e,List.any_append,HANY.out];simp)
   have HAN:=hid (show ovR (rAt rs i) d=true→(rs.any fun r=>ovR r d)=true from fun h=>List.any_eq_true.2 ⟨_,rAt_mem hj,h⟩)
   clear hcs hk1 hk2
   generalize rAt rs i=r at *
   go_upto_region 4 with (fail)
   obtain ⟨w2,hw2⟩ : ∃ w2,w2=wr.alloc (.cells #[.slice A1 r.lo.length r.lo.length,.slice B1 r.hi.length r.hi.length,.bool r.inf,.int .i64 0] 126):=⟨_,rfl⟩
   rw [← hw2]
   obtain ⟨nb,hnb⟩ : ∃ b,b=wr.heap.size:=⟨_,rfl⟩
   rw [← hnb]
   have HB3:=hid (show Below wr.heap.size wr w2 by rw [hw2];exact below_alloc (Below.refl _ _) _)
   have HY:=hid (show w2.heap[nb]? = some (.cells #[.slice A1 r.lo.length r.lo.length,.slice B1 r.hi.length r.hi.length,.bool r.inf,.int .i64 0] 126 (0,0)) by rw [hw2,hnb];exact blk_new wr _)
   clear hw2 hnb k0 k1 k2 k3
   have HX2:=hid ((HB3.out.block _ (blk_lt ((HB2.out.block _ (blk_lt HX.out)).trans HX.out))).trans ((HB2.out.block _ (blk_lt HX.out)).trans HX.out))
   have m0:=blk_cell HX2.out 0
   have m1:=blk_cell HX2.out 1
   have m2:=blk_cell HX2.out 2
   have m3:=blk_cell HX2.out 3
   have n0:=blk_cell HY.out 0
   have n1:=blk_cell HY.out 1
   have n2:=blk_cell HY.out 2
   have n3:=blk_cell HY.out 3
   have hb3:=hid (below_step hb.out HB3.out)
   have K:=hid (ovR_calls (w:=w2) (HK1.out.below HB3.out) (HK2.out.below HB3.out) (H3.out.below hb3.out) (H4.out.below hb3.out) HRO.out hd)
   simp only [rgC] at K
   generalize ovR r d=q at *
   go_wp2_with fail
   refine K.out.mono ?_
   rintro e w3 ⟨rfl,hb4⟩
   have HB4:=hid (below_step hb3.out hb4)
   have HB5:=hid (below_step (below_step HB2.out HB3.out) hb4)
   clear hb4 m0 m1 m2 m3 n0 n1 n2 n3
   cases q with
   | true =>
    have hq:=hid (HQ0.out.trans (HAN.out rfl))
    go_wp2_with fail
    go_ret
    exact ⟨by rw [hq.out];rfl,HB4.out⟩
   | false =>
    go_wp2_with fail
    go_roundg (gk - 1)
    case measure=>exact HGK.out.1
    case rel=>exact ⟨i+1,rfl,rfl,⟨HGK.out.2,HB5.out,HTK.out⟩⟩
  ·have d1:decide ((i:Int)<(rs.length:Int))=false:=decide_eq_false (by omega)
   have HE:=hid (show (rs.any fun r=>ovR r d)=false by have h:=HANY.out;rwa [List.take_of_length_le (by omega)] at h)
   have HE2:=hid (HQ0.out.trans HE.out)
   go_wp2_with fail
   go_ret
   exact ⟨by rw [HE2.out];rfl,hb.out⟩
/-- The same from the plan's own states, by a level's number. -/
theorem ovl_calls {w:World} {sb g m cc i c cap:Nat} {A A2 B2:Option Addr} {x:Value} {rs:List Rg} {d:Rg} (h0:w.cell? ⟨sb,2,none⟩=some (.slice (some ⟨g,0,none⟩) m cc)) (hi:i<m) (h1:w.cell? ⟨g,i,none⟩=some (ptr c)) (hc:w.heap[c]? = some (.cells #[.slice A rs.length cap,x] 144 (0,0))) (h:RRow w A rs) (hn:rs.length≤2000000) (hok:∀ r∈rs,RgOk r) (h3:KT w A2 d.lo) (h4:KT w B2 d.hi) (hd:RgOk d) :
  Calls Tryz.prog 96 #[.pointer (some ⟨sb,2,none⟩),.int .i64 (i:Int),.agg (rgC A2 B2 d).toArray] w fun e w'=>e=.returned (.bool (rs.any fun r=>ovR r d))∧Below w.heap.size w w':=by
 simp only [ptr] at h1
 have K:=hid (fun (W:World) (hb:Below w.heap.size w W)=>lovl_calls (w:=W) ((hb.block _ (blk_lt hc)).trans hc) (h.below hb) hn hok (h3.below hb) (h4.below hb) hd)
 clear hc h hn hok h3 h4 hd
 generalize (rs.any fun r=>ovR r d)=q at *
 simp only [rgC] at K ⊢
 go_enter Tryz.func96,Tryz.ntmps96
 go_upto_region 1 with (fail)
 obtain ⟨w1,hw1⟩ : ∃ w1,w1=w.alloc (.cells #[.slice A2 d.lo.length d.lo.length,.slice B2 d.hi.length d.hi.length,.bool d.inf,.int .i64 0] 126):=⟨_,rfl⟩
 rw [← hw1]
 obtain ⟨kb,hkb⟩ : ∃ b,b=w.heap.size:=⟨_,rfl⟩
 rw [← hkb]
 have HB1:=hid (show Below w.heap.size w w1 by rw [hw1];exact below_alloc (Below.refl _ _) _)
 have HX:=hid (show w1.heap[kb]? = some (.cells #[.slice A2 d.lo.length d.lo.length,.slice B2 d.hi.length d.hi.length,.bool d.inf,.int .i64 0] 126 (0,0)) by rw [hw1,hkb];exact blk_new w _)
 clear hw1 hkb
 have h0':=(HB1.out.cell (World.block_lt_of_cell? w _ h0)).trans h0
 have h1':=(HB1.out.cell (World.block_lt_of_cell? w _ h1)).trans h1
 clear h0 h1
 have m0:=blk_cell HX.out 0
 have m1:=blk_cell HX.out 1
 have m2:=blk_cell HX.out 2
 have m3:=blk_cell HX.out 3
 have K1:=hid (K.out w1 HB1.out)
 go_wp2_with fail
 refine K1.out.mono ?_
 rintro e w3 ⟨rfl,hb4⟩
 have HB4:=hid (below_step HB1.out hb4)
 go_wp2_with fail
 go_ret
 exact ⟨rfl,HB4.out⟩
end Go.Proofs.YtnineoajmgneiaaGreat.Rg
namespace Go.Proofs.YtnineoajmgneiaaGreat.Rg
open Lib (hid)
open Go.Shelf Go.RowKit Go.Lib Go.Sort YtnineoajmgneiaaGreatW YtnineoajmgneiaaGreatW.PrintWords YtnineoajmgneiaaGreatW.PrintLast YtnineoajmgneiaaGreatW.PrintMore Fr L Ky Tm Lm It
theorem q_of {f:FuncId} {args:Array Value} {W:World} {v:Value} (h:Calls Tryz.prog f args W fun e w'=>e=.returned v∧W=w'):Calls Tryz.prog f args W fun e w'=>e=.returned v∧∃ q,w'=W.drewN q:=h.mono fun e w' h=>⟨h.1,0,h.2.symm⟩
set_option maxHeartbeats 2000000 in
theorem clo1_calls {W:World} {kb sx hp blk n c i p a b:Nat} {x y:List UInt8} (h0:W.cell? ⟨kb,0,none⟩=some (.slice (some ⟨a,0,none⟩) x.length x.length)) (h1:W.cell? ⟨sx,0,none⟩=some (ptr hp)) (h2:W.cell? ⟨hp,0,none⟩=some (.slice (some ⟨blk,0,none⟩) n c)) (hi:i<n) (h3:W.cell? ⟨blk,i,none⟩=some (ptr p))
  (h4:W.cell? ⟨p,2,none⟩=some (.slice (some ⟨b,0,none⟩) y.length y.length)) (ha:W.heap[a]? = some (keyO x)) (hb:W.heap[b]? = some (keyO y)) (l1:8≤x.length∧x.length≤100000100) (l2:8≤y.length∧y.length≤100000100) :
  Calls Tryz.prog 129 (#[.int .i64 (i:Int)] ++ #[.pointer (some ⟨kb,0,none⟩),.pointer (some ⟨sx,0,none⟩)]) W fun e w'=>e=.returned (.bool (decide (cmpK x y≤0)))∧∃ q,w'=W.drewN q:=by
 simp only [ptr] at h1 h3
 have HB:=hid (fun k=>Calls.quiet_of (q_of (biggest_calls (w:=W.drewN k) (p:=p) h4)))
 have HC:=hid (fun k=>Calls.quiet_of (compareKeys_calls (w:=W.drewN k) rfl rfl ha hb l1.1 l2.1 (by have:=l1.2;omega) (by have:=l2.2;omega)))
 generalize cmpK x y=z at *
 clear h4 ha hb
 go_enter Tryz.func129,Tryz.ntmps129
 go_wp2
 go_quiet ((first | (go_at_call 103;with_reducible exact HB.out _) | (go_at_call 112;with_reducible exact HC.out _)))
 go_wp2
 go_ret
 exact ⟨rfl,nq,rfl⟩
set_option maxHeartbeats 2000000 in
theorem clo2_calls {W:World} {kb sx hp blk n c i p a b:Nat} {x y:List UInt8} (h0:W.cell? ⟨kb,1,none⟩=some (.slice (some ⟨a,0,none⟩) x.length x.length)) (h1:W.cell? ⟨sx,0,none⟩=some (ptr hp)) (h2:W.cell? ⟨hp,0,none⟩=some (.slice (some ⟨blk,0,none⟩) n c)) (hi:i<n) (h3:W.cell? ⟨blk,i,none⟩=some (ptr p))
  (h4:W.cell? ⟨p,1,none⟩=some (.slice (some ⟨b,0,none⟩) y.length y.length)) (ha:W.heap[a]? = some (keyO x)) (hb:W.heap[b]? = some (keyO y)) (l1:8≤x.length∧x.length≤100000100) (l2:8≤y.length∧y.length≤100000100) :
  Calls Tryz.prog 130 (#[.int .i64 (i:Int)] ++ #[.pointer (some ⟨kb,0,none⟩),.pointer (some ⟨sx,0,none⟩)]) W fun e w'=>e=.returned (.bool (decide (cmpK x y<0)))∧∃ q,w'=W.drewN q:=by
 simp only [ptr] at h1 h3
 have HB:=hid (fun k=>Calls.quiet_of (q_of (smallest_calls (w:=W.drewN k) (p:=p) h4)))
 have HC:=hid (fun k=>Calls.quiet_of (compareKeys_calls (w:=W.drewN k) rfl rfl ha hb l1.1 l2.1 (by have:=l1.2;omega) (by have:=l2.2;omega)))
 generalize cmpK x y=z at *
 clear h4 ha hb
 go_enter Tryz.func130,Tryz.ntmps130
 go_wp2
 go_quiet ((first | (go_at_call 113;with_reducible exact HB.out _) | (go_at_call 112;with_reducible exact HC.out _)))
 go_wp2
 go_ret
 exact ⟨rfl,nq,rfl⟩
/-- How many tables of a level lie ahead of a range, and how many begin no later than its end. -/
def ltN (ts:List Tb) (r:Rg):Nat:=(List.range ts.length).countP fun i => !decide (cmpK r.lo (Ls.tAt ts i).big≤0)
def rtN (ts:List Tb) (r:Rg):Nat:=(List.range ts.length).countP fun i => !decide (cmpK r.hi (Ls.tAt ts i).small<0)
/-- What a search asks: once met, met from there on. -/
def Mono (ts:List Tb) (r:Rg):Prop:=(∀ a b,a≤b→b<ts.length→decide (cmpK r.lo (Ls.tAt ts a).big≤0)=true→decide (cmpK r.lo (Ls.tAt ts b).big≤0)=true)∧∀ a b,a≤b→b<ts.length→decide (cmpK r.hi (Ls.tAt ts a).small<0)=true→decide (cmpK r.hi (Ls.tAt ts b).small<0)=true
theorem below_grow {w:World} {m:Nat} {os:Array Obj}:Below w.heap.size w (grow (w.drewN m) os):=below_grown_sl _ _ _ _ (Nat.le_refl _)
set_option maxRecDepth 100000 in
set_option maxHeartbeats 4000000 in
theorem overTabs_calls {w:World} {hp c a b:Nat} {A:Option Addr} {ts:List Tb} {r:Rg} (h2:w.cell? ⟨hp,0,none⟩=some (.slice A ts.length c)) (ht:TRow w A ts) (hn:ts.length≤200000) (hk:∀ t∈ts,KLen t)
  (ha:w.heap[a]? = some (keyO r.lo)) (hb:w.heap[b]? = some (keyO r.hi)) (l1:8≤r.lo.length∧r.lo.length≤100000100) (l2:8≤r.hi.length∧r.hi.length≤100000100) (hm:Mono ts r) :
  Calls Tryz.prog 97 #[.pointer (some ⟨hp,0,none⟩),.agg #[],.agg (rgC (some ⟨a,0,none⟩) (some ⟨b,0,none⟩) r).toArray] w fun e w'=>e=.returned (.tuple #[.int .i64 (ltN ts r:Int),.int .i64 (rtN ts r:Int)])∧Below w.heap.size w w':=by
 simp only [rgC]
 have d0:(((r.lo.length:Nat):Int) == 0)=false:=beq_eq_false_iff_ne.2 (by omega)
 have d1:(((r.hi.length:Nat):Int) == 0)=false:=beq_eq_false_iff_ne.2 (by omega)
 have HT:=hid ht
 have HM:=hid hm
 have HA:=hid ha
 have HB:=hid hb
 have HK:=hid (show ∀ j,j<ts.length→KLen (Ls.tAt ts j) from fun j hj=>hk _ (It.tAt_mem hj))
 clear ht hm ha hb hk
 go_enter Tryz.func97,Tryz.ntmps97
 go_upto_region 1 with (fail)
 obtain ⟨w0,hw0⟩ : ∃ w1,w1=(w.alloc (.cells #[.pointer (some ⟨hp,0,none⟩)] 115)).alloc (.cells #[] 160):=⟨_,rfl⟩
 rw [← hw0]
 obtain ⟨w1,hw1⟩ : ∃ w1,w1=w0.alloc (.cells #[.slice (some ⟨a,0,none⟩) r.lo.length r.lo.length,.slice (some ⟨b,0,none⟩) r.hi.length r.hi.length,.bool r.inf,.int .i64 0] 126):=⟨_,rfl⟩
 rw [← hw1]
 obtain ⟨sx,hsx⟩ : ∃ g,g=w.heap.size:=⟨_,rfl⟩
 obtain ⟨kb,hkb⟩ : ∃ g,g=sx+1+1:=⟨_,rfl⟩
 rw [← hsx,← hkb]
 have s1:w0.heap.size=kb:=by rw [hw0,Nw.szA,Nw.szA];omega
 have HB0:=hid (show Below w.heap.size w w0 by rw [hw0];exact below_alloc (below_alloc (Below.refl _ _) _) _)
 have X0:=hid (show w0.heap[sx]? = some (.cells #[.pointer (some ⟨hp,0,none⟩)] 115 (0,0)) by rw [hw0,hsx];exact up1 (blk_new w _))
 have HB1:=hid (show Below w0.heap.size w0 w1 by rw [hw1];exact below_alloc (Below.refl _ _) _)
 have X1:=hid (show w1.heap[kb]? = some (.cells #[.slice (some ⟨a,0,none⟩) r.lo.length r.lo.length,.slice (some ⟨b,0,none⟩) r.hi.length r.hi.length,.bool r.inf,.int .i64 0] 126 (0,0)) by rw [hw1,← s1];exact blk_new w0 _)
 have X2:=hid ((HB1.out.block _ (blk_lt X0.out)).trans X0.out)
 have HW:=hid (below_step HB0.out HB1.out)
 clear hw0 hw1 hsx hkb s1
 have A1:=hid ((HW.out.block _ (blk_lt HA.out)).trans HA.out)
 have B1:=hid ((HW.out.block _ (blk_lt HB.out)).trans HB.out)
 have T1:=hid (HT.out.below HW.out)
 have h2':w1.cell? ⟨hp,0,none⟩=some (.slice A ts.length c):=(HW.out.cell (World.block_lt_of_cell? w _ h2)).trans h2
 have C2:=hid h2'
 clear h2 X0
 have KS1:∀ (W:World),(∀ k,k<w1.heap.size→W.heap[k]? = w1.heap[k]?)→∀ i,i<ts.length→Calls Tryz.prog 129 (#[.int .i64 (i:Int)] ++ #[.pointer (some ⟨kb,0,none⟩),.pointer (some ⟨sx,0,none⟩)]) W fun e w'=>e=.returned (.bool (decide (cmpK r.lo (Ls.tAt ts i).big≤0)))∧∃ q,w'=W.drewN q:=by
  intro W hW i hi
  obtain ⟨g,p,e1,c1,t1⟩:=T1.out i hi
  subst e1
  obtain ⟨b1,b2,k1,k2,k3,k4⟩:=tab_keys t1
  have mv:∀ {ad:Addr} {v:Value},w1.cell? ad=some v→W.cell? ad=some v:=fun {ad v} h=>by
   have e2:=hW _ (World.block_lt_of_cell? w1 _ h)
   simpa [World.cell?,e2] using h
  have mb:∀ {k:Nat} {ob:Obj},w1.heap[k]? = some ob→W.heap[k]? = some ob:=fun {k ob} h=>(hW k (blk_lt h)).trans h
  exact clo1_calls (mv (blk_cell X1.out 0)) (mv (blk_cell X2.out 0)) (mv C2.out) hi (mv c1) (mv k2) (mb A1.out) (mb k4) l1 ⟨(HK.out i hi).2.1,by have:=(HK.out i hi).2.2;omega⟩
 have KS2:∀ (W:World),(∀ k,k<w1.heap.size→W.heap[k]? = w1.heap[k]?)→∀ i,i<ts.length→Calls Tryz.prog 130 (#[.int .i64 (i:Int)] ++ #[.pointer (some ⟨kb,0,none⟩),.pointer (some ⟨sx,0,none⟩)]) W fun e w'=>e=.returned (.bool (decide (cmpK r.hi (Ls.tAt ts i).small<0)))∧∃ q,w'=W.drewN q:=by
  intro W hW i hi
  obtain ⟨g,p,e1,c1,t1⟩:=T1.out i hi
  subst e1
  obtain ⟨b1,b2,k1,k2,k3,k4⟩:=tab_keys t1
  have mv:∀ {ad:Addr} {v:Value},w1.cell? ad=some v→W.cell? ad=some v:=fun {ad v} h=>by
   have e2:=hW _ (World.block_lt_of_cell? w1 _ h)
   simpa [World.cell?,e2] using h
  have mb:∀ {k:Nat} {ob:Obj},w1.heap[k]? = some ob→W.heap[k]? = some ob:=fun {k ob} h=>(hW k (blk_lt h)).trans h
  exact clo2_calls (mv (blk_cell X1.out 1)) (mv (blk_cell X2.out 0)) (mv C2.out) hi (mv c1) (mv k1) (mb B1.out) (mb k3) l2 ⟨(HK.out i hi).1.1,by have:=(HK.out i hi).1.2;omega⟩
 have S1:=hid (Any.sort_Search Tryz.laysSearch 129 #[.pointer (some ⟨kb,0,none⟩),.pointer (some ⟨sx,0,none⟩)] ts.length (fun i=>decide (cmpK r.lo (Ls.tAt ts i).big≤0)) w1 (enters_of Tryz.func129 (by kernel_rfl) rfl) (by omega)
  (fun m os i hi=>(KS1 _ (fun k hk=>Sr.grow_blk (w1.drewN m) os k hk) i hi).mono fun e w' ⟨he,q,hw⟩=>⟨he,q,#[],by rw [hw,grow_empty]⟩) HM.out.1)
 have S2:=hid (fun (W:World) (hW:∀ k,k<w1.heap.size→W.heap[k]? = w1.heap[k]?) (hs:w1.heap.size≤W.heap.size)=>Any.sort_Search Tryz.laysSearch 130 #[.pointer (some ⟨kb,0,none⟩),.pointer (some ⟨sx,0,none⟩)] ts.length (fun i=>decide (cmpK r.hi (Ls.tAt ts i).small<0)) W (enters_of Tryz.func130 (by kernel_rfl) rfl) (by omega)
  (fun m os i hi=>(KS2 _ (fun k hk=>(Sr.grow_blk (W.drewN m) os k (show k<(W.drewN m).heap.size from Nat.lt_of_lt_of_le hk hs)).trans (hW k hk)) i hi).mono fun e w' ⟨he,q,hw⟩=>⟨he,q,#[],by rw [hw,grow_empty]⟩) HM.out.2)
 clear KS1 KS2
 have m0:=blk_cell X1.out 0
 have m1:=blk_cell X1.out 1
 have n0:=blk_cell X2.out 0
 go_wp2_with fail
 refine Calls.mono S1.out ?_
 rintro e w2 ⟨rfl,q,os,hw2⟩
 have E2:=hid (show ∀ k,k<w1.heap.size→w2.heap[k]? = w1.heap[k]? from fun k hk=>by rw [hw2];exact Sr.grow_blk (w1.drewN q) os k hk)
 have Z2:=hid (show w1.heap.size≤w2.heap.size by rw [hw2];simp [grow])
 have W2:=hid (show Below w.heap.size w w2 by rw [hw2];exact below_step HW.out below_grow)
 clear hw2 m0 m1
 have n0':w2.cell? ⟨sx,0,none⟩=some (.pointer (some ⟨hp,0,none⟩)):=blk_cell ((E2.out sx (blk_lt X2.out)).trans X2.out) 0
 have h2'':w2.cell? ⟨hp,0,none⟩=some (.slice A ts.length c):=by
  have e2:=E2.out hp (World.block_lt_of_cell? w1 _ C2.out)
  have h:=C2.out
  simpa [World.cell?,e2] using h
 clear n0 h2'
 go_wp2_with fail
 refine Calls.mono (S2.out w2 E2.out Z2.out) ?_
 rintro e w3 ⟨rfl,q,os,hw3⟩
 have W3:=hid (show Below w.heap.size w w3 by rw [hw3];exact below_step W2.out below_grow)
 clear hw3 n0' h2''
 go_wp2_with fail
 go_ret2
 exact ⟨rfl,W3.out⟩
end Go.Proofs.YtnineoajmgneiaaGreat.Rg
namespace Go.Proofs.YtnineoajmgneiaaGreat.Rg
open Go.RowKit YtnineoajmgneiaaGreatW YtnineoajmgneiaaGreatW.PrintWords YtnineoajmgneiaaGreatW.PrintLast YtnineoajmgneiaaGreatW.PrintMore Fr L Ky Tm Lm It
theorem app_none {P:Program} {W:World} (t ty e:TypeId) {i:TypeInfo} (ht:P.underlying t=some (.slice e)) (hi:P.info? e=some i) (g n cap c:Nat) (hc:n≤cap) :
  (Builtin.append_ #[t,t] ty #[.slice (some ⟨g,0,none⟩) n cap,.slice none 0 c]).run P W=.ok (.slice (some ⟨g,0,none⟩) n cap) W:=by
 simp [Builtin.append_,run_underlying ht,sizeOf,typeInfo,hi,Builtin.lenOf,Builtin.firstCells,hc,storeCells]
/-- append(v, qs...), v a row of pointers of one's own that holds something: v itself reads as before. -/
theorem app_run {W:World} {base m c:Nat} {v:Value} {ps qs:List Nat} {A:Option Addr} (ty:TypeId) (HO:ptrK.R 140 W base (fun _=>True) v ps) (hp:0<ps.length) (HR:ptrK.C W A m qs) (hl:ps.length+qs.length≤1000000000) (hbase:base≤W.heap.size) :
  ∃ v1 w1,(Builtin.append_ #[124,124] ty #[v,.slice A m c]).run Tryz.prog W=.ok v1 w1∧ptrK.R 140 w1 base (fun _=>True) v1 (ps++qs)∧W.grownBy w1 v.ownBlock∧ptrK.R 140 w1 base (fun _=>True) v ps∧(v1.ownBlock=v.ownBlock∨v1.ownBlock=some W.heap.size):=by
 have ho:=Kd.own_of_R (enc:=ptr) (h1:=fun _=>rfl) HO
 have hm:qs.length=m:=HR.1
 obtain ⟨i0,hi,hzz⟩:=Option.map_eq_some_iff.1 info140
 simp only [Prod.mk.injEq] at hzz
 obtain ⟨hz0,hz1,hz2⟩:=hzz
 rcases ho.2 with ⟨hv,h0⟩ | ⟨g,cap,cur,hv,hlo,hb,hc1,hc2,hc3,hc4⟩
 ·omega
 ·cases A with
  | none =>
   have h0:m=0:=by
    rcases Nat.eq_zero_or_pos m with h0 | h0
    ·exact h0
    ·obtain ⟨ad,h,_⟩:=HR.2.2 h0
     cases h
   subst h0
   have hq:qs=[]:=List.eq_nil_of_length_eq_zero hm
   rw [hq]
   refine ⟨v,W,?_,by rw [List.append_nil];exact HO,World.grownBy.refl W _,HO,.inl rfl⟩
   rw [hv]
   exact app_none (P:=Tryz.prog) 124 ty 140 Tryz.underlying124 hi g ps.length cap c hc1
  | some ad =>
   have hnc:∀ j u,(encs ptr qs)[j]? = some u→W.cell? (ad.add j)=some u:=by
    intro j u hj
    have hjl:j<qs.length:=by have:=(List.getElem?_eq_some_iff.1 hj).1;simpa [encs] using this
    obtain ⟨ad2,e,hc⟩:=(Kd.reads_of_C (d:=0) HR).at_ j (by omega) (by omega)
    have e2:ad=ad2:=Option.some.inj e
    rw [← e2] at hc
    rw [Int.toNat_natCast] at hc
    rw [hc]
    simp only [encs,List.getElem?_map] at hj
    simp only [rdOf,Int.toNat_natCast]
    rw [List.getElem?_eq_getElem hjl] at hj
    simp at hj
    simp [hjl,hj]
   have hone:∀ u∈encs ptr qs,u.oneCell'=true:=by
    intro u hu
    simp only [encs,List.mem_map] at hu
    obtain ⟨q,_,rfl⟩:=hu
    rfl
   have hlen:(encs ptr qs).length=m:=by simp [encs,hm]
   obtain ⟨v1,w1,hr,h2,hg,_,hat⟩:=run_append_own_at (P:=Tryz.prog) W base 124 ty 140 i0 (.pointer none) 1 8 Tryz.underlying124 hi hz0 hz1 hz2 rfl (by omega) v ps.length _ ho ad m c (encs ptr qs) (by rw [hlen];omega) hnc hone (by simp only [maxLen];omega) (by omega) hbase
   have hR1:ptrK.R 140 w1 base (fun _=>True) v1 (ps++qs):=by
    refine Kd.R_of_own ⟨by simp [encs],?_⟩ (fun _ _=>trivial)
    have h3:=h2.2
    rw [hm.symm] at h3
    simpa [encs] using h3
   refine ⟨v1,w1,hr,hR1,hg,?_,hat⟩
   by_cases hroom:ps.length+m≤cap
   ·have hex:=run_append_room_cells (P:=Tryz.prog) W 124 ty 140 i0 Tryz.underlying124 hi g 0 ps.length cap ad m c (encs ptr qs) (by rw [hlen,hz1];omega) hnc hone hroom
     (by intro j hj;rw [hz1,blk_cell hb];simp;omega) (by intro j hj;exact blk_frozen hb _)
    rw [← hv,hr] at hex
    injection hex with e1 e2
    rw [e1] at hR1
    have ht:=Kd.R_take hR1 (m:=ps.length) (by simp)
    rw [List.take_left'] at ht
    ·rw [hv];exact ht
    ·rfl
   ·have holds:∀ j u,(encs ptr ps)[j]? = some u→W.cell? ((⟨g,0,none⟩ : Addr).add j)=some u:=ho.cells (g:=g) (by rw [hv];rfl)
    have hex:=run_append_grow (P:=Tryz.prog) W 124 ty 140 i0 (.pointer none) Tryz.underlying124 hi hz0 ⟨g,0,none⟩ ps.length cap (encs ptr ps) (by rw [hz1];simp [encs]) holds ad m c (encs ptr qs) (by rw [hlen,hz1];omega) hnc (by omega) (by omega) (growslice_fits (by omega) (by rw [hz2];omega))
    rw [← hv,hr] at hex
    injection hex with e1 e2
    rw [e2]
    exact Kd.R_below HO (below_alloc (below_drew (Below.refl _ _)) _)
end Go.Proofs.YtnineoajmgneiaaGreat.Rg
namespace Go.Proofs.YtnineoajmgneiaaGreat.Rg
open Go.RowKit YtnineoajmgneiaaGreatW YtnineoajmgneiaaGreatW.PrintWords YtnineoajmgneiaaGreatW.PrintLast YtnineoajmgneiaaGreatW.PrintMore Fr L Ky Tm Lm It
def T1:Nat→Prop:=fun _=>True
/-- A row's blocks: its own one, and keys. -/
theorem R_narrow {w:World} {b:Nat} {v:Value} {xs:List Rg} (h:kR.R 126 w b (fun _=>True) v xs):kR.R 126 w b (fun k=>v.ownBlock=some k∨∃ cs,w.heap[k]? = some (Obj.cells cs 5 (0,0))) v xs:=by
  obtain ⟨h0,inner,ho,hr⟩:=h
  refine ⟨fun k hk=>.inl hk,inner,ho,hr.imp_ (fun _ _ hp=>kR.M_mono (fun k hk=>?_) (kR.M_bound hp))⟩
  obtain ⟨⟨_,h2⟩,_,_,q,hq,cells,hc⟩:=hk
  have hq5:q=5:=List.mem_singleton.1 hq
  subst hq5
  exact ⟨.inr ⟨cells,hc⟩,h2⟩
theorem R_frame {w w1:World} {b:Nat} {v:Value} {xs:List Rg} (h:kR.R 126 w b (fun _=>True) v xs) (h1:∀ k,k<w.heap.size→v.ownBlock=some k→w1.heap[k]? = w.heap[k]?) (h2:∀ (k:Nat) (cs:Array Value),w.heap[k]? = some (Obj.cells cs 5 (0,0))→w1.heap[k]? = w.heap[k]?):kR.R 126 w1 b (fun _=>True) v xs:=
  Kd.R_mono (Kd.R_step (R_narrow h) (fun k hk hl=>hk.elim (fun e=>h1 k hl e) (fun ⟨cs,hc⟩=>h2 k cs hc))) (fun _ _=>trivial)
def rgAt (rgs:List (List Rg)) (i:Nat):List Rg:=rgs.getD i []
def vAt (vs:List Value) (i:Nat):Value:=vs.getD i (.slice none 0 0)
def cAt (cs:List Nat) (i:Nat):Nat:=cs.getD i 0
/-- The levels' blocks of running ranges. -/
structure Dyn (w:World) (n0:Nat) (cs:List Nat) (vs:List Value) (rgs:List (List Rg)):Prop where
  lv:vs.length=cs.length
  lr:rgs.length=cs.length
  blk:∀ i,i<cs.length→∃ d,w.heap[cAt cs i]? = some (Obj.cells #[vAt vs i,.int .i64 d] 144 (0,0))
  row:∀ i,i<cs.length→kR.R 126 w n0 (fun _=>True) (vAt vs i) (rgAt rgs i)
  ap:∀ i j,i<cs.length→j<cs.length→i≠j→∀ k,(vAt vs i).ownBlock=some k→(vAt vs j).ownBlock≠some k
  nd:∀ i j,i<cs.length→j<cs.length→i≠j→cAt cs i≠cAt cs j
/-- What holds still: the blocks of the types 144, 126 and 5. -/
def K3 (w w1:World):Prop:=∀ (b:Nat) (cs:Array Value) (t:Nat),w.heap[b]? = some (Obj.cells cs t (0,0))→t∈[144,126,5]→w1.heap[b]? = w.heap[b]?
theorem own_cell {w:World} {b:Nat} {v:Value} {xs:List Rg} (h:kR.R 126 w b (fun _=>True) v xs) {k:Nat} (hk:v.ownBlock=some k):∃ cs,w.heap[k]? = some (Obj.cells cs 126 (0,0)):=Kd.R_typed h k hk
theorem Dyn.move {w w1:World} {n0:Nat} {cs:List Nat} {vs:List Value} {rgs:List (List Rg)} (h:Dyn w n0 cs vs rgs) (hk:K3 w w1):Dyn w1 n0 cs vs rgs:=by
  refine ⟨h.lv,h.lr,fun i hi=>?_,fun i hi=>?_,h.ap,h.nd⟩
  · obtain ⟨d,hd⟩:=h.blk i hi
    exact ⟨d,(hk _ _ _ hd (by decide)).trans hd⟩
  · refine R_frame (h.row i hi) (fun k _ e=>?_) (fun k cs hc=>hk _ _ _ hc (by decide))
    obtain ⟨cs,hc⟩:=own_cell (h.row i hi) e
    exact hk _ _ _ hc (by decide)
theorem k3_below {w w1:World} (hb:Below w.heap.size w w1):K3 w w1:=fun b cs t h _=>hb.block b (blk_lt h)
theorem getD_set_same {α:Type} (l:List α) (i:Nat) (x d:α) (hi:i<l.length):(l.set i x).getD i d=x:=by simp [hi]
theorem getD_set_other {α:Type} (l:List α) (i j:Nat) (x d:α) (hne:i≠j):(l.set i x).getD j d=l.getD j d:=by
  simp only [List.getD_eq_getElem?_getD,List.getElem?_set_ne hne]
/-- A range is appended to a level's row, and the row stored. -/
theorem Dyn.push {w w1:World} {n0 i:Nat} {cs:List Nat} {vs:List Value} {rgs:List (List Rg)} {v1:Value} {r:Rg} (h:Dyn w n0 cs vs rgs) (hi:i<cs.length) (hr:kR.R 126 w1 n0 (fun _=>True) v1 (rgAt rgs i++[r])) (hg:w.grownBy w1 (vAt vs i).ownBlock) (hat:v1.ownBlock=(vAt vs i).ownBlock∨∃ b,v1.ownBlock=some b∧w.heap.size≤b) :
    Dyn (w1.setCell ⟨cAt cs i,0,none⟩ v1) n0 cs (vs.set i v1) (rgs.set i (rgAt rgs i++[r])):=by
  have hiv:i<vs.length:=by rw [h.lv];exact hi
  have hir:i<rgs.length:=by rw [h.lr];exact hi
  have v_same:vAt (vs.set i v1) i=v1:=getD_set_same _ _ _ _ hiv
  have v_oth:∀ j,i≠j→vAt (vs.set i v1) j=vAt vs j:=fun j hj=>getD_set_other _ _ _ _ _ hj
  have g_same:rgAt (rgs.set i (rgAt rgs i++[r])) i=rgAt rgs i++[r]:=getD_set_same _ _ _ _ hir
  have g_oth:∀ j,i≠j→rgAt (rgs.set i (rgAt rgs i++[r])) j=rgAt rgs j:=fun j hj=>getD_set_other _ _ _ _ _ hj
  obtain ⟨d,hd⟩:=h.blk i hi
  have c_own:∀ j,j<cs.length→∀ k,(vAt vs i).ownBlock=some k→cAt cs j≠k:=by
    intro j hj k hk e
    obtain ⟨cs',hc⟩:=own_cell (h.row i hi) hk
    obtain ⟨d',hd'⟩:=h.blk j hj
    rw [e,hc] at hd'
    injection hd' with hd'
    injection hd' with _ e _
    exact absurd e (by decide)
  have w1_blk:∀ j,j<cs.length→w1.heap[cAt cs j]? = w.heap[cAt cs j]?:=fun j hj=>by
    obtain ⟨d',hd'⟩:=h.blk j hj
    exact hg.block _ (blk_lt hd') (fun e=>c_own j hj _ e.symm rfl)
  have hd1:=(w1_blk i hi).trans hd
  have w1_5:∀ (k:Nat) (cs':Array Value),w.heap[k]? = some (Obj.cells cs' 5 (0,0))→w1.heap[k]? = w.heap[k]?:=fun k cs' hc=>by
    refine hg.block _ (blk_lt hc) (fun e=>?_)
    obtain ⟨cs2,hc2⟩:=own_cell (h.row i hi) e.symm
    rw [hc] at hc2
    injection hc2 with hc2
    injection hc2 with _ e _
    exact absurd e (by decide)
  refine ⟨by rw [List.length_set];exact h.lv,by rw [List.length_set];exact h.lr,fun j hj=>?_,fun j hj=>?_,fun a b ha hb hne k hk=>?_,h.nd⟩
  · by_cases e:i=j
    · subst e
      rw [v_same]
      have:=blk_set hd1 0 v1
      exact ⟨d,by simpa using this⟩
    · rw [v_oth j e]
      obtain ⟨d',hd'⟩:=h.blk j hj
      refine ⟨d',?_⟩
      rw [Below.heap_setCell w1 ⟨cAt cs i,0,none⟩ v1 (cAt cs j) (fun q=>h.nd i j hi hj e q.symm)]
      exact (w1_blk j hj).trans hd'
  · by_cases e:i=j
    · subst e
      rw [v_same,g_same]
      exact Kd.R_set hr hd1 (by intro q hq;rcases List.mem_cons.1 hq with rfl | hq
                                · decide
                                · have:q∈[5]:=hq
                                  rw [List.mem_singleton.1 this];decide) 0 v1
    · rw [v_oth j e,g_oth j e]
      have hrow:=h.row j hj
      refine R_frame hrow (fun k hl hk=>?_) (fun k cs' hc=>?_)
      · have hne:k≠cAt cs i:=fun q=>by
          obtain ⟨cs',hc⟩:=own_cell hrow hk
          rw [q,hd] at hc
          injection hc with hc
          injection hc with _ e _
          exact absurd e (by decide)
        rw [Below.heap_setCell w1 ⟨cAt cs i,0,none⟩ v1 k hne]
        exact hg.block k hl (fun q=>h.ap i j hi hj e k q.symm hk)
      · have hne:k≠cAt cs i:=fun q=>by
          rw [q,hd] at hc
          injection hc with hc
          injection hc with _ e _
          exact absurd e (by decide)
        rw [Below.heap_setCell w1 ⟨cAt cs i,0,none⟩ v1 k hne]
        exact w1_5 k cs' hc
  · by_cases ea:i=a
    · subst ea
      rw [v_same] at hk
      rw [v_oth b hne]
      rcases hat with hat | ⟨g,hg1,hg2⟩
      · rw [hat] at hk
        exact h.ap i b ha hb hne k hk
      · rw [hg1] at hk
        injection hk with hk
        intro q
        have:=Kd.R_lt (h.row b hb) k q
        omega
    · rw [v_oth a ea] at hk
      by_cases eb:i=b
      · subst eb
        rw [v_same]
        rcases hat with hat | ⟨g,hg1,hg2⟩
        · rw [hat]
          exact h.ap a i ha hb hne k hk
        · rw [hg1]
          intro q
          injection q with q
          have:=Kd.R_lt (h.row a ha) k hk
          omega
      · rw [v_oth b eb]
        exact h.ap a b ha hb hne k hk
/-- A level's other number is stored. -/
theorem Dyn.size {w:World} {n0 i:Nat} {cs:List Nat} {vs:List Value} {rgs:List (List Rg)} (h:Dyn w n0 cs vs rgs) (hi:i<cs.length) (x:Int):Dyn (w.setCell ⟨cAt cs i,1,none⟩ (.int .i64 x)) n0 cs vs rgs:=by
  obtain ⟨d,hd⟩:=h.blk i hi
  have far:∀ (k:Nat) (cs':Array Value) (t:Nat),w.heap[k]? = some (Obj.cells cs' t (0,0))→t≠144→(w.setCell ⟨cAt cs i,1,none⟩ (.int .i64 x)).heap[k]? = w.heap[k]?:=fun k cs' t hc ht=>by
    refine Below.heap_setCell w ⟨cAt cs i,1,none⟩ _ k (fun q=>?_)
    have q:k=cAt cs i:=q
    rw [q,hd] at hc
    injection hc with hc
    injection hc with _ e _
    exact ht e.symm
  refine ⟨h.lv,h.lr,fun j hj=>?_,fun j hj=>?_,h.ap,h.nd⟩
  · by_cases e:i=j
    · subst e
      have:=blk_set hd 1 (.int .i64 x)
      exact ⟨x,by simpa using this⟩
    · obtain ⟨d',hd'⟩:=h.blk j hj
      exact ⟨d',(Below.heap_setCell w ⟨cAt cs i,1,none⟩ _ (cAt cs j) (fun q=>h.nd i j hi hj e q.symm)).trans hd'⟩
  · refine R_frame (h.row j hj) (fun k hl hk=>?_) (fun k cs' hc=>far k _ _ hc (by decide))
    obtain ⟨cs',hc⟩:=own_cell (h.row j hj) hk
    exact far k _ _ hc (by decide)
/-! ### the running tables -/
def MapAt (w:World) (mb:Nat) (ks:List Int):Prop:=∃ es ck,w.heap[mb]? = some (.map (rawM .u64 es) ck)∧es.map (·.1)=ks∧∀ x∈es,x.2.1=.agg #[]
def putR (ks:List Int) (k:Int):List Int:=if k∈ks then ks else ks++[k]
theorem look_mem {k:Int}:∀ {es:List Ent},(lookE k es).isSome=decide (k∈es.map (·.1))
  | []=>rfl
  | x :: t=>by
    simp only [lookE,List.map_cons,List.mem_cons]
    by_cases e:x.1=k
    · subst e;simp
    · have ih:=look_mem (k:=k) (es:=t)
      rw [if_neg e,ih]
      simp [show ¬ k=x.1 from fun q=>e q.symm]
theorem look_val {k:Int} {es:List Ent} (h:∀ x∈es,x.2.1=.agg #[]) {v:Value} (hv:lookE k es=some v):v=.agg #[]:=by
  induction es with
  | nil=>cases hv
  | cons x t ih =>
    simp only [lookE] at hv
    split at hv
    · injection hv with hv
      rw [← hv]
      exact h x List.mem_cons_self
    · exact ih (fun y hy=>h y (List.mem_cons_of_mem _ hy)) hv
theorem put_keys (k:Int) (v:Value):∀ es:List Ent,(putE k v es).map (·.1)=es.map (·.1)
  | []=>rfl
  | x :: t=>by
    simp only [putE]
    split
    · rfl
    · simp only [List.map_cons,put_keys k v t]
theorem put_vals {k:Int} {v:Value} (hv:v=.agg #[]):∀ {es:List Ent},(∀ x∈es,x.2.1=.agg #[])→∀ x∈putE k v es,x.2.1=.agg #[]
  | [],_,x,hx=>by simp [putE] at hx
  | y :: t,h,x,hx=>by
    simp only [putE] at hx
    split at hx
    · rcases List.mem_cons.1 hx with rfl | hx
      · exact hv
      · exact h x (List.mem_cons_of_mem _ hx)
    · rcases List.mem_cons.1 hx with rfl | hx
      · exact h x List.mem_cons_self
      · exact put_vals hv (fun z hz=>h z (List.mem_cons_of_mem _ hz)) x hx
theorem stored_keys (k:Int) (ck:Nat) (es:List Ent):(storedE k (.agg #[]) ck es).map (·.1)=putR (es.map (·.1)) k:=by
  unfold storedE putR
  have:=look_mem (k:=k) (es:=es)
  rw [this]
  by_cases h:k∈es.map (·.1)
  · simp only [h,decide_true,if_true,put_keys]
  · simp only [h,decide_false,if_false,Bool.false_eq_true,List.map_append,List.map_cons,List.map_nil]
theorem stored_vals (k:Int) (ck:Nat) {es:List Ent} (h:∀ x∈es,x.2.1=.agg #[]):∀ x∈storedE k (.agg #[]) ck es,x.2.1=.agg #[]:=by
  intro x hx
  unfold storedE at hx
  split at hx
  · exact put_vals rfl h x hx
  · rcases List.mem_append.1 hx with hx | hx
    · exact h x hx
    · rw [List.mem_singleton.1 hx]
theorem MapAt.store {w:World} {mb ck:Nat} {es:List Ent} (k:Int) (hm:w.heap[mb]? = some (.map (rawM .u64 es) ck)) (hv:∀ x∈es,x.2.1=.agg #[]):MapAt (setO w mb (.map (rawM .u64 (storedE k (.agg #[]) ck es)) (clockE k ck es))) mb (putR (es.map (·.1)) k):=
  ⟨_,_,setO_same hm,stored_keys k ck es,stored_vals k ck hv⟩
/-! ### all of it -/
/-- What lies in the blocks that stay. -/
class Ghost where
  g:Nat→Option Obj
variable [Ghost]
structure Cor (w:World) (S:Nat→Prop) (n0 sb ob mb:Nat) (lv cv:Value) (hs:List Hd) (cs:List Nat) (o:Lm.Op) (rgs:List (List Rg)) (run:List Int):Prop where
  st:Lm.Stat w S sb ob mb lv cv hs cs o
  nb:n0≤w.heap.size
  lt:∀ b,S b→b<n0
  nm:¬ S mb
  ml:mb<n0
  nc:∀ i,i<cs.length→¬ S (cAt cs i)∧cAt cs i<n0
  dy:∃ vs,Dyn w n0 cs vs rgs
  mp:MapAt w mb run
  ke:∀ b,S b→w.heap[b]? = Ghost.g b
theorem Cor.move {w w1:World} {S:Nat→Prop} {n0 sb ob mb:Nat} {lv cv:Value} {hs:List Hd} {cs:List Nat} {o:Lm.Op} {rgs:List (List Rg)} {run:List Int} (h:Cor w S n0 sb ob mb lv cv hs cs o rgs run) (h1:∀ b,S b→w1.heap[b]? = w.heap[b]?) (h2:K3 w w1) (h3:w1.heap[mb]? = w.heap[mb]?) (h4:w.heap.size≤w1.heap.size):Cor w1 S n0 sb ob mb lv cv hs cs o rgs run:=by
  obtain ⟨vs,hv⟩:=h.dy
  obtain ⟨es,ck,m1,m2,m3⟩:=h.mp
  exact ⟨h.st.move h1,Nat.le_trans h.nb h4,h.lt,h.nm,h.ml,h.nc,⟨vs,hv.move h2⟩,⟨es,ck,h3.trans m1,m2,m3⟩,fun b hb=>(h1 b hb).trans (h.ke b hb)⟩
theorem Cor.below {w w1:World} {S:Nat→Prop} {n0 sb ob mb:Nat} {lv cv:Value} {hs:List Hd} {cs:List Nat} {o:Lm.Op} {rgs:List (List Rg)} {run:List Int} (h:Cor w S n0 sb ob mb lv cv hs cs o rgs run) (hb:Below w.heap.size w w1):Cor w1 S n0 sb ob mb lv cv hs cs o rgs run:=
  h.move (fun b hb2=>hb.block b (Nat.lt_of_lt_of_le (h.lt b hb2) h.nb)) (k3_below hb) (hb.block _ (Nat.lt_of_lt_of_le h.ml h.nb)) hb.size
/-- Another block, of another type and made behind the levels, was written. -/
theorem Cor.far {w w1:World} {S:Nat→Prop} {n0 sb ob mb:Nat} {lv cv:Value} {hs:List Hd} {cs:List Nat} {o:Lm.Op} {rgs:List (List Rg)} {run:List Int} (h:Cor w S n0 sb ob mb lv cv hs cs o rgs run) {g t:Nat} {arr:Array Value} (hg:w.heap[g]? = some (Obj.cells arr t (0,0))) (ht:t∉[144,126,5]) (hS:¬ S g) (hsz:w.heap.size≤w1.heap.size) (hk:∀ b,b<w.heap.size→b≠g→w1.heap[b]? = w.heap[b]?):Cor w1 S n0 sb ob mb lv cv hs cs o rgs run:=by
  refine h.move (fun b hb=>hk b (Nat.lt_of_lt_of_le (h.lt b hb) h.nb) (fun e=>hS (e ▸ hb))) (fun b cs2 t2 hb ht2=>hk b (blk_lt hb) (fun e=>?_)) (hk _ (Nat.lt_of_lt_of_le h.ml h.nb) (fun e=>?_)) hsz
  · subst e
    rw [hg] at hb
    injection hb with hb
    injection hb with _ e _
    subst e
    exact ht ht2
  · obtain ⟨es,ck,m1,_⟩:=h.mp
    rw [e,hg] at m1
    injection m1 with m1
    cases m1
end Go.Proofs.YtnineoajmgneiaaGreat.Rg
