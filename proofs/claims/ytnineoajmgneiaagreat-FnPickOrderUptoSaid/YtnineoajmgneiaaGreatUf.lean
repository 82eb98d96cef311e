/- FnPickOrder: the walk. -/
import Derived.Test.YtnineoajmgneiaaGreatZi
namespace Go.Proofs.YtnineoajmgneiaaGreat.fnPickOrder
open Go.RowKit YtnineoajmgneiaaGreatW YtnineoajmgneiaaGreatW.PrintWords YtnineoajmgneiaaGreatW.PrintLast YtnineoajmgneiaaGreatW.PrintMore Fr L Ky Tm Lm It Tg Tp Tl Lk Lo
set_option linter.unusedVariables false
set_option linter.unusedSimpArgs false
theorem score_lt {ls : List (List S68)} {m a b c d e f g : Int} (h : LvOk ls m a b c d e f g) (hts : ∀ l ∈ ls, ∀ t ∈ l, t.f1.size ≤ 2000000 ∧ t.f3.size ≤ 2000000) {i : Nat} (hi : i < ls.length) : Pk.score ((ls.map (·.map tbOf)).getD 0 []).length ⟨m, a, b, c, d, e, f, g⟩ ((ls.map (·.map tbOf)).map total) i < Pk.INF := by
 have h0 : ((ls.map (·.map tbOf)).getD 0 []).length ≤ 1000000 := by
  rw [List.getD_eq_getElem?_getD, List.getElem?_map]
  cases h0 : ls[0]? with
  | none => simp
  | some l =>
   have := (ok_mem h (List.mem_of_getElem? h0)).1
   simp only [Option.map_some, Option.getD_some, List.length_map]
   omega
 have hf := (Pk.score_facts (n0 := ((ls.map (·.map tbOf)).getD 0 []).length) (o := ⟨m, a, b, c, d, e, f, g⟩) (sz := (ls.map (·.map tbOf)).map total) (by have := h.opt.d; exact ⟨this.1, by show d ≤ _; omega⟩) h.opt.a.1 (sizes_ok (fun x hx => by
  obtain ⟨x0, hx0, rfl⟩ := List.mem_map.1 hx
  refine ⟨by rw [List.length_map]; have := (ok_mem h hx0).1; omega, fun t ht => ?_⟩
  obtain ⟨t0, h0, rfl⟩ := List.mem_map.1 ht
  exact (Bd.tb_ok (ok_in h hts x0 hx0 t0 h0)).2)) h0 (by have := h.opt.c; exact ⟨this.1, by show c ≤ _; omega⟩) (i := i) (by rw [List.length_map, List.length_map]; exact hi))
 exact hf.1
theorem lt_ord {x y : Nat} (hx : x ≤ 9218868437227405312) (hy : y ≤ 9218868437227405312) : (FloatKind.f64.format.order x y == some .lt) = decide (x < y) := by
 have g0 : FloatKind.f64.format.order x y = some (compare x y) := Fl.order_words hx hy
 rw [g0]
 rcases Nat.lt_trichotomy x y with h | h | h
 ·rw [Nat.compare_eq_lt.2 h, decide_eq_true (by omega)]; rfl
 ·rw [Nat.compare_eq_eq.2 h, decide_eq_false (by omega)]; rfl
 ·rw [Nat.compare_eq_gt.2 h, decide_eq_false (by omega)]; rfl
theorem ad_far {w : World} {A : Option Addr} {n b0 : Nat} {qs : List Pk.Q3} (h : Kd.C Pk.k3 w A n qs) (h0 : w.heap[b0]? = some (.cells #[] 3 (0, 0))) (ad : Addr) (e : A = some ad) (hn : 0 < n) : ¬ (ad.block = b0 ∨ w.heap.size ≤ ad.block) := by
 subst e
 have h1 := Kd.C_lt h hn (by decide)
 rintro (e | e)
 ·refine Kd.C_not_empty h hn (by decide) ?_
  unfold World.cell?
  rw [e, h0]
  simp
 ·omega
theorem order_facts {n : Nat} {S : Nat → Nat} {qs : List Pk.Q3} (h : Pk.Picked n S qs) {k : Nat} (hk : k < qs.length) : (0 ≤ (Pk.rd3 qs (k : Int)).lv ∧ (Pk.rd3 qs (k : Int)).lv < n) ∧ Pk.ONE ≤ (Pk.rd3 qs (k : Int)).s ∧ (Pk.rd3 qs (k : Int)).s = S (Pk.rd3 qs (k : Int)).lv.toNat ∧ (Pk.rd3 qs (k : Int)).a ≤ Pk.INF ∧ (Pk.rd3 qs (k : Int)).lv ∉ (qs.take k).map (·.lv) ∧ ∀ j, j < k → (Pk.rd3 qs (k : Int)).a ≤ (Pk.rd3 qs (j : Int)).a ∧ (Pk.rd3 qs (j : Int)).a ≤ Pk.INF := by
 have e : ∀ (i : Nat) (hi : i < qs.length), Pk.rd3 qs (i : Int) = qs[i] := fun i hi => by simp [Pk.rd3, hi]
 have hm : qs[k] ∈ qs := List.getElem_mem hk
 have hlv : qs[k].lv ∈ ((List.range n).filter (fun i => decide (Pk.ONE ≤ S i))).map (fun (i : Nat) => (i : Int)) := h.perm.mem_iff.1 (List.mem_map.2 ⟨_, hm, rfl⟩)
 obtain ⟨i, hi, ei⟩ := List.mem_map.1 hlv
 obtain ⟨h2, h3⟩ := List.mem_filter.1 hi
 have h2 := List.mem_range.1 h2
 have h3 := of_decide_eq_true h3
 have hs := h.sc _ hm
 have hnd : (qs.map (·.lv)).Nodup := h.perm.nodup_iff.2 (by
  refine List.Pairwise.map _ (fun a b hab e => hab (by omega)) (List.Pairwise.filter _ List.nodup_range))
 rw [e k hk]
 refine ⟨by omega, by rw [hs.1, ← ei]; exact h3, hs.1, hs.2, ?_, ?_⟩
 ·intro hx
  obtain ⟨q, hq, eq⟩ := List.mem_map.1 hx
  obtain ⟨p, hp, ep⟩ := List.mem_iff_getElem.1 hq
  have hp2 : p < k := by rw [List.length_take] at hp; omega
  rw [List.getElem_take] at ep
  have h4 := List.pairwise_iff_getElem.1 hnd p k (by rw [List.length_map]; omega) (by rw [List.length_map]; exact hk) hp2
  apply h4
  rw [List.getElem_map, List.getElem_map, ep]
  exact eq
 ·intro j hj
  rw [e j (by omega)]
  exact ⟨List.pairwise_iff_getElem.1 h.ord j k (by omega) hk hj, (h.sc _ (List.getElem_mem _)).2⟩
set_option maxRecDepth 100000 in
set_option maxHeartbeats 8000000 in
theorem calls {w : World} {A0 : Option Addr} {c0 : Nat} {ls : List (List S68)} {m a b c d e f g : Int} (hC : Kd.C (Kd.slice 68 k68) w A0 ls.length ls) (hc0 : ls.length ≤ c0) (hl0 : ls.length ≤ 2000000) (hl1 : ∀ l ∈ ls,l.length ≤ 2000000) (hts : ∀ l ∈ ls,∀ t ∈ l,t.f1.size ≤ 2000000 ∧ t.f3.size ≤ 2000000) :
  Calls Tryz.prog 19 #[.slice A0 ls.length c0,.agg #[.int .i64 m,.int .i64 a,.int .i64 b,.int .i64 c,.int .i64 d,.int .i64 e,.int .i64 f,.int .i64 g]] w fun en w' => en = .returned (.bool true) ∧ Below w.heap.size w w' := by
 obtain ⟨Q,hQ⟩ : ∃ Q : Ending → World → Prop,Q = fun en w' => en = .returned (.bool true) ∧ Below w.heap.size w w' := ⟨_,rfl⟩
 rw [← hQ]
 have HQ := Lib.hid hQ
 have HC := Lib.hid hC
 have HC0 := Lib.hid hc0
 have HTS := Lib.hid hts
 have K22 := Lib.hid (fun W (hW : Below w.heap.size w W) => laws_zzFits6.calls (ls.length + 2000002) A0 c0 ls true W (Kd.C_below hC hW) hc0 (fits6 hl0 hl1 hts))
 have K23 := Lib.hid (fun W (hW : Below w.heap.size w W) => ok_calls (w := W) (m := m) (a := a) (b := b) (c := c) (d := d) (e := e) (f := f) (g := g) (Kd.C_below hC hW) hc0 (by omega) hts)
 have K24 := Lib.hid (fun W => Lw.work_calls (w := W))
 clear hQ hC hc0 hts hl0 hl1
 go_enter Tryz.func19,Tryz.ntmps19
 go_upto_region 1 with (fail)
 obtain ⟨w1,hw1⟩ : ∃ w1,w1 = w.alloc (.cells #[.int .i64 m,.int .i64 a,.int .i64 b,.int .i64 c,.int .i64 d,.int .i64 e,.int .i64 f,.int .i64 g] 24) := ⟨_,rfl⟩
 rw [← hw1]
 obtain ⟨b3,hb3⟩ : ∃ b3,b3 = w.heap.size := ⟨_,rfl⟩
 rw [← hb3]
 have HB1 := Lib.hid (show Below w.heap.size w w1 by rw [hw1]; exact below_alloc (Below.refl _ _) _)
 have HO1 := Lib.hid (show w1.heap[b3]? = some (.cells #[.int .i64 m,.int .i64 a,.int .i64 b,.int .i64 c,.int .i64 d,.int .i64 e,.int .i64 f,.int .i64 g] 24 (0,0)) by rw [hw1,hb3]; exact blk_new w _)
 clear hw1 hb3
 go_wp2_with fail
 refine (K22.out w1 HB1.out).mono ?_
 rintro en w2 ⟨rfl,hb2⟩
 have HB2 := Lib.hid (below_step HB1.out hb2)
 have HO2 := Lib.hid ((hb2.block _ (blk_lt HO1.out)).trans HO1.out)
 clear hb2 K22
 have o0 := blk_cell HO2.out 0
 have o1 := blk_cell HO2.out 1
 have o2 := blk_cell HO2.out 2
 have o3 := blk_cell HO2.out 3
 have o4 := blk_cell HO2.out 4
 have o5 := blk_cell HO2.out 5
 have o6 := blk_cell HO2.out 6
 have o7 := blk_cell HO2.out 7
 go_wp2_with fail
 refine (K23.out w2 HB2.out).mono ?_
 rintro en w3 ⟨r,rfl,hok,hb3⟩
 have HB3 := Lib.hid (below_step HB2.out hb3)
 have HO3 := Lib.hid ((hb3.block _ (blk_lt HO2.out)).trans HO2.out)
 have HOK := Lib.hid hok
 clear hok hb3 K23 o0 o1 o2 o3 o4 o5 o6 o7
 cases r
 ·skip
  go_wp2_with fail
  refine (K24.out w3).mono ?_
  rintro en w4 ⟨rfl,hb4⟩
  have HB4 := Lib.hid (below_step HB3.out hb4)
  clear hb4
  go_wp2_with fail
  rw [HQ.out]
  exact ⟨rfl,HB4.out⟩
 have HLV := Lib.hid (HOK.out rfl)
 have o0 := blk_cell HO3.out 0
 have o1 := blk_cell HO3.out 1
 have o2 := blk_cell HO3.out 2
 have o3 := blk_cell HO3.out 3
 have o4 := blk_cell HO3.out 4
 have o5 := blk_cell HO3.out 5
 have o6 := blk_cell HO3.out 6
 have o7 := blk_cell HO3.out 7
 have K51 := Lib.hid (fun W (hW : Below w.heap.size w W) => pick_ok (w := W) (Kd.C_below HC.out hW) HC0.out HLV.out HTS.out)
 go_upto_region 6 with (fail)
 obtain ⟨w4,hw4⟩ : ∃ w4,w4 = w3.alloc (.cells #[] 3) := ⟨_,rfl⟩
 rw [← hw4]
 obtain ⟨b0,hb0⟩ : ∃ b,b = w3.heap.size := ⟨_,rfl⟩
 rw [← hb0]
 have HB4 := Lib.hid (show Below w3.heap.size w3 w4 by rw [hw4]; exact below_alloc (Below.refl _ _) _)
 have HE4 := Lib.hid (show w4.heap[b0]? = some (.cells #[] 3 (0,0)) by rw [hw4,hb0]; exact blk_new w3 _)
 have HR4 := Lib.hid (show Kd.R (Kd.int .i64) 3 w4 w3.heap.size (fun k => k = b0) (.slice (some ⟨b0,0,none⟩) 0 0) [] by
  refine ⟨fun k hk => ?_,[],?_,Reps.none _ _⟩
  ·injection hk with hk; exact hk.symm
  ·have h2 := World.ownsRow_lit (base := w3.heap.size) (e := 3) (size := 1) w3 #[] 0 (Nat.le_refl _) (by decide) (by simp)
   rw [hw4,hb0]
   exact h2)
 clear hw4 hb0
 have HO4 := Lib.hid ((HB4.out.block _ (blk_lt HO3.out)).trans HO3.out)
 have HBW := Lib.hid (below_step HB3.out HB4.out)
 clear o0 o1 o2 o3 o4 o5 o6 o7
 have o0 := blk_cell HO4.out 0
 have o1 := blk_cell HO4.out 1
 have o2 := blk_cell HO4.out 2
 have o3 := blk_cell HO4.out 3
 have o4 := blk_cell HO4.out 4
 have o5 := blk_cell HO4.out 5
 have o6 := blk_cell HO4.out 6
 have o7 := blk_cell HO4.out 7
 go_wp2_with fail
 refine (K51.out w4 HBW.out).mono ?_
 rintro en w5 ⟨A,cA,qs,rfl,hcA,hA,hpk,hle,hb5⟩
 rw [List.length_map] at hpk
 have HA := Lib.hid hA
 have HPK := Lib.hid hpk
 have HLE := Lib.hid hle
 have HR5 := Lib.hid (show Kd.R (Kd.int .i64) 3 w5 w3.heap.size (fun k => k = b0 ∨ w5.heap.size ≤ k) (.slice (some ⟨b0,0,none⟩) 0 0) [] from Kd.R_mono (Kd.R_below HR4.out hb5) (fun k hk => .inl hk))
 have HB5 := Lib.hid (below_step HB4.out hb5)
 have HE5 := Lib.hid ((hb5.block _ (blk_lt HE4.out)).trans HE4.out)
 have HFAR := Lib.hid (ad_far hA HE5.out)
 have h2 := ok_len HLV.out
 have HLL := Lib.hid h2
 clear hcA hA hpk hle hb5 K51 h2 HR4 o0 o1 o2 o3 o4 o5 o6 o7
 have HSI := Lib.hid (fun i hi => score_lt HLV.out HTS.out (i:=i) hi)
 generalize Pk.score ((ls.map (·.map tbOf)).getD 0 []).length ⟨m,a,b,c,d,e,f,g⟩ ((ls.map (·.map tbOf)).map total) = S at HPK HSI
 obtain ⟨n,hn⟩ : ∃ n,n = qs.length := ⟨_,rfl⟩
 rw [← hn] at HA HLE HFAR ⊢
 have HN := Lib.hid hn
 clear hn
 go_wp2_with fail
 go_loopg [5,23] n (fun kq v5 v23 wr => ∃ k : Nat,v23 = .int .i64 (k : Int) ∧ Aside0 (k + kq = n) ∧ Aside0 (Kd.R (Kd.int .i64) 3 wr w3.heap.size (fun k => k = b0 ∨ w5.heap.size ≤ k) v5 ((qs.take k).map (·.lv)) ∧ Below w3.heap.size w3 wr ∧ Kd.C Pk.k3 wr A n qs ∧ w5.heap.size ≤ wr.heap.size))
 case atStart => exact ⟨0,rfl,⟨by omega⟩,⟨HR5.out,HB5.out,HA.out,Nat.le_refl _⟩⟩
 obtain ⟨k,rfl,HI,HQ2⟩ := hrel
 have HR := Lib.hid HQ2.out.1
 have HB := Lib.hid HQ2.out.2.1
 have HC3 := Lib.hid HQ2.out.2.2.1
 have HSZ := Lib.hid HQ2.out.2.2.2
 clear HQ2 HR5 HB5 HA HE5 HE4
 by_cases hk : k < n
 rotate_left
 ·have d1 : decide ((k : Int) < (n : Int)) = false := decide_eq_false (by omega)
  have dn : decide (k < n) = false := decide_eq_false hk
  have HBR := Lib.hid (below_step HB3.out HB.out)
  clear hk HI
  go_wp2_with fail
  refine (K24.out wr).mono ?_
  rintro en w7 ⟨rfl,hb7⟩
  have HB7 := Lib.hid (below_step HBR.out hb7)
  clear hb7
  go_wp2_with fail
  rw [HQ.out]
  exact ⟨rfl,HB7.out⟩
 have d1 : decide ((k : Int) < (n : Int)) = true := decide_eq_true (by omega)
 have dk : k < n := hk
 have HGK := Lib.hid (show gk - 1 < gk ∧ k + 1 + (gk - 1) = n by have := HI.out; omega)
 have HWR := Lib.hid (show Value.int IntKind.i64 (wrap64 ((k : Int) + 1)) = Value.int IntKind.i64 ((k + 1 : Nat) : Int) by rw [show wrap64 ((k : Int) + 1) = ((k + 1 : Nat) : Int) by have := HLE.out; unfold wrap64; omega])
 have hkq : k < qs.length := by have := HN.out; omega
 have HOF := Lib.hid (order_facts HPK.out hkq)
 have HTK := Lib.hid (show (qs.take (k + 1)).map (·.lv) = (qs.take k).map (·.lv) ++ [(Pk.rd3 qs (k : Int)).lv] by rw [List.take_succ_eq_append_getElem hkq,List.map_append]; simp [Pk.rd3,hkq])
 have HSL := Lib.hid (show (((qs.take k).map (·.lv)).length + 1) * 8 ≤ 140737488355328 ∧ ((qs.take k).map (·.lv)).length ≤ 1000000 by rw [List.length_map,List.length_take]; have := HLE.out; omega)
 obtain ⟨ad,eA,x0,x1,x2⟩ := Pk.at3 HC3.out (k : Int) (by omega) (by omega)
 rw [show ((k : Int)).toNat = k from rfl] at x0 x1 x2
 obtain ⟨seen,hseen⟩ : ∃ s,s = (qs.take k).map (·.lv) := ⟨_,rfl⟩
 have HOF2 := Lib.hid HOF.out.2.2.2.2.2
 have HOF1 := Lib.hid (show _ ∧ _ ∧ _ ∧ _ ∧ _ from ⟨HOF.out.1,HOF.out.2.1,HOF.out.2.2.1,HOF.out.2.2.2.1,HOF.out.2.2.2.2.1⟩)
 clear HOF
 rw [← hseen] at HTK HSL HR HOF1
 have HSE := Lib.hid hseen
 obtain ⟨A5,c5,rfl⟩ := Kd.R_slice HR.out
 obtain ⟨-,l5,hC5⟩ := Kd.R_reads' HR.out
 have HC5 := Lib.hid hC5
 have HL5 := Lib.hid l5
 obtain ⟨q,hq⟩ : ∃ q,q = Pk.rd3 qs (k : Int) := ⟨_,rfl⟩
 rw [← hq] at x0 x1 x2 HTK HOF1 HOF2
 have rsf := Pk.run_storeF
 have s3 : wrap64 ((ls.length : Int) - 2) = (ls.length : Int) - 2 := by have := HLL.out; unfold wrap64; omega
 have s4 : IntKind.i64.wrap ((ls.length : Int) - 2) = (ls.length : Int) - 2 := IntWalk.i64_in _ (by have := HLL.out; omega)
 have e1 : (FloatKind.f64.format.order q.s 4607182418800017408 == some .lt) = false := by rw [lt_ord (by rw [HOF1.out.2.2.1]; exact Nat.le_of_lt (HSI.out _ (by have := HOF1.out.1; have := HLL.out; omega))) (by decide)]; exact decide_eq_false (by have h1 : 4607182418800017408 ≤ q.s := HOF1.out.2.1; omega)
 have HRR := Lib.hid (show (spec_Within.f q.lv 0 ((ls.length : Int) - 2) = some true) by
  have h1 := HOF1.out.1
  unfold spec_Within.f
  rw [if_pos (by omega),decide_eq_true (by omega)])
 have HHS := Lib.hid (show spec_Has.f (seen.length + 1) seen q.lv = some false by rw [has_spec HSL.out.2,decide_eq_false HOF1.out.2.2.2.2])
 have HKD := Lib.hid (show (qs.take (k + 1)).map (·.lv) = seen ++ [q.lv] from HTK.out)
 clear hk HI hkq hC5 l5 hseen hq HTK
 by_cases h0 : k = 0
 ·have z1 : decide ((k : Int) > 0) = false := decide_eq_false (by omega)
  have z2 : decide (0 < (k : Int)) = false := decide_eq_false (by omega)
  have z3 : decide (0 < k) = false := decide_eq_false (by omega)
  clear h0
  subst eA
  go_upto_region 10 with (fail)
  obtain ⟨wa,hwa⟩ : ∃ wa,wa = wr.alloc (.cells #[.int .i64 q.lv,.float .f64 q.s,.float .f64 q.a] 64) := ⟨_,rfl⟩
  rw [← hwa]
  obtain ⟨tb,htb⟩ : ∃ b,b = wr.heap.size := ⟨_,rfl⟩
  rw [← htb]
  have HB1a := Lib.hid (show Below wr.heap.size wr wa by rw [hwa]; exact below_alloc (Below.refl _ _) _)
  have HX2 := Lib.hid (show wa.heap[tb]? = some (.cells #[.int .i64 q.lv,.float .f64 q.s,.float .f64 q.a] 64 (0,0)) by rw [hwa,htb]; exact blk_new wr _)
  have HBA := Lib.hid (below_step HB.out HB1a.out)
  have HRA := Lib.hid (Kd.R_below HR.out HB1a.out)
  have HCA := Lib.hid (Kd.C_below HC5.out HB1a.out)
  have HC3A := Lib.hid (Kd.C_below HC3.out HB1a.out)
  clear hwa htb x0 x1 x2
  have x0 := blk_cell HX2.out 0
  have x1 := blk_cell HX2.out 1
  have x2 := blk_cell HX2.out 2
  refine start_ (n := 33) (S := fun w' => w'.cell? ⟨tb,0,none⟩ = some (.int .i64 q.lv) ∧ w'.cell? ⟨tb,1,none⟩ = some (.float .f64 q.s) ∧ w'.cell? ⟨tb,2,none⟩ = some (.float .f64 q.a)) (ds := []) #[false,false,false,false,false,false,false,false,false,false,false,false,false,false,false,false,false,false,false,false,false,false,false,false,false,false,false,false,false,false,false,false,false] (by kernel_rfl) rfl rfl ⟨x0,x1,x2⟩ (fun hHeld => ?_)
  refine pure_ (i:=0) (N:=some 28) (v:=?_) (a':=?_) #[true,false,false,false,false,false,false,false,false,false,false,false,false,false,false,false,false,false,false,false,false,false,false,false,false,false,false,false,false,false,false,false,false] rfl rfl (by kernel_rfl) (fun _ _ _ h => h) (Or.inl ⟨by rfl,?_⟩) ?_ ?_
  rotate_left
  ·intro w'
   go_simp
   with_reducible rfl
  rotate_left
  ·simp only [Act.put,List.setIfInBounds_toArray,List.set_cons_zero,List.set_cons_succ,i64_w]
   rfl
  refine pure_ (i:=2) (N:=some 30) (v:=?_) (a':=?_) #[true,false,true,false,false,false,false,false,false,false,false,false,false,false,false,false,false,false,false,false,false,false,false,false,false,false,false,false,false,false,false,false,false] rfl rfl (by kernel_rfl) (fun _ _ _ h => h) (Or.inl ⟨by rfl,?_⟩) ?_ ?_
  rotate_left
  ·intro w'
   go_simp
   with_reducible rfl
  rotate_left
  ·simp only [Act.put,List.setIfInBounds_toArray,List.set_cons_zero,List.set_cons_succ,i64_w]
   rfl
  refine pure_ (i:=3) (N:=some 31) (v:=?_) (a':=?_) #[true,false,true,true,false,false,false,false,false,false,false,false,false,false,false,false,false,false,false,false,false,false,false,false,false,false,false,false,false,false,false,false,false] rfl rfl (by kernel_rfl) (fun _ _ _ h => h) (Or.inl ⟨by rfl,?_⟩) ?_ ?_
  rotate_left
  ·intro w'
   go_simp
   with_reducible rfl
  rotate_left
  ·simp only [Act.put,List.setIfInBounds_toArray,List.set_cons_zero,List.set_cons_succ,i64_w]
   rfl
  refine pure_ (i:=4) (N:=some 32) (v:=?_) (a':=?_) #[true,false,true,true,true,false,false,false,false,false,false,false,false,false,false,false,false,false,false,false,false,false,false,false,false,false,false,false,false,false,false,false,false] rfl rfl (by kernel_rfl) (fun _ _ _ h => h) (Or.inl ⟨by rfl,?_⟩) ?_ ?_
  rotate_left
  ·intro w'
   go_simp
   with_reducible rfl
  rotate_left
  ·simp only [Act.put,List.setIfInBounds_toArray,List.set_cons_zero,List.set_cons_succ,i64_w]
   rfl
  refine take_ (i:=1) (N:=some 29) (v:=?_) (a':=?_) #[true,true,true,true,true,false,false,false,false,false,false,false,false,false,false,false,false,false,false,false,false,false,false,false,false,false,false,false,false,false,false,false,false] rfl rfl (by kernel_rfl) (fun _ _ _ h => h) (Or.inl ⟨by rfl,?_⟩) hHeld ?_ ?_
  rotate_left
  ·rintro w' ⟨s0,s1,s2⟩
   go_simp
   with_reducible rfl
  rotate_left
  ·simp only [Act.put,List.setIfInBounds_toArray,List.set_cons_zero,List.set_cons_succ,i64_w]
   rfl
  refine one_ (i:=5) (N:=some 33) #[true,true,true,true,true,true,false,false,false,false,false,false,false,false,false,false,false,false,false,false,false,false,false,false,false,false,false,false,false,false,false,false,false] rfl rfl (by kernel_rfl) (by decide) (fun K hK => ?_)
  refine goes_ Tryz.func46 (by kernel_rfl) rfl #[.int .i64 q.lv,.int .i64 0,.int .i64 ((ls.length : Int) - 2)] (by rfl) rfl rfl (by simp only [List.map_toArray,List.map_cons,List.map_nil]; rfl) ?_
  with_reducible refine ((spec_Within.calls q.lv 0 ((ls.length : Int) - 2) true wa.drew HRR.out)).mono ?_
  rintro en w8 ⟨rfl,hd8⟩
  refine ⟨_,rfl,?_⟩
  have HBD := Lib.hid (show Below wa.heap.size wa w8 from below_step (below_drew (Below.refl _ _)) hd8.below)
  refine hK.out _ _ ⟨(HBD.out.cell (World.block_lt_of_cell? wa _ x0)).trans x0,(HBD.out.cell (World.block_lt_of_cell? wa _ x1)).trans x1,(HBD.out.cell (World.block_lt_of_cell? wa _ x2)).trans x2⟩ (fun hHeld => ?_)
  clear hK K
  refine norm_ (a':=?_) ?_ ?_
  rotate_left
  ·show Act.put _ (some 33) _ = _
   simp only [Act.put,List.setIfInBounds_toArray,List.set_cons_zero,List.set_cons_succ,i64_w]
   rfl
  refine pure_ (i:=6) (N:=some 34) (v:=?_) (a':=?_) #[true,true,true,true,true,true,true,false,false,false,false,false,false,false,false,false,false,false,false,false,false,false,false,false,false,false,false,false,false,false,false,false,false] rfl rfl (by kernel_rfl) (fun _ _ _ h => h) (Or.inl ⟨by rfl,?_⟩) ?_ ?_
  rotate_left
  ·intro w'
   go_simp
   with_reducible rfl
  rotate_left
  ·simp only [Act.put,List.setIfInBounds_toArray,List.set_cons_zero,List.set_cons_succ,i64_w]
   rfl
  refine pure_ (i:=7) (N:=some 35) (v:=?_) (a':=?_) #[true,true,true,true,true,true,true,true,false,false,false,false,false,false,false,false,false,false,false,false,false,false,false,false,false,false,false,false,false,false,false,false,false] rfl rfl (by kernel_rfl) (fun _ _ _ h => h) (Or.inl ⟨by rfl,?_⟩) ?_ ?_
  rotate_left
  ·intro w'
   go_simp
   with_reducible rfl
  rotate_left
  ·simp only [Act.put,List.setIfInBounds_toArray,List.set_cons_zero,List.set_cons_succ,i64_w]
   rfl
  refine pure_ (i:=8) (N:=some 36) (v:=?_) (a':=?_) #[true,true,true,true,true,true,true,true,true,false,false,false,false,false,false,false,false,false,false,false,false,false,false,false,false,false,false,false,false,false,false,false,false] rfl rfl (by kernel_rfl) (fun _ _ _ h => h) (Or.inl ⟨by rfl,?_⟩) ?_ ?_
  rotate_left
  ·intro w'
   go_simp
   with_reducible rfl
  rotate_left
  ·simp only [Act.put,List.setIfInBounds_toArray,List.set_cons_zero,List.set_cons_succ,i64_w]
   rfl
  refine pure_ (i:=9) (N:=some 37) (v:=?_) (a':=?_) #[true,true,true,true,true,true,true,true,true,true,false,false,false,false,false,false,false,false,false,false,false,false,false,false,false,false,false,false,false,false,false,false,false] rfl rfl (by kernel_rfl) (fun _ _ _ h => h) (Or.inl ⟨by rfl,?_⟩) ?_ ?_
  rotate_left
  ·intro w'
   go_simp
   with_reducible rfl
  rotate_left
  ·simp only [Act.put,List.setIfInBounds_toArray,List.set_cons_zero,List.set_cons_succ,i64_w]
   rfl
  refine take_ (i:=10) (N:=some 38) (v:=?_) (a':=?_) #[true,true,true,true,true,true,true,true,true,true,true,false,false,false,false,false,false,false,false,false,false,false,false,false,false,false,false,false,false,false,false,false,false] rfl rfl (by kernel_rfl) (fun _ _ _ h => h) (Or.inl ⟨by rfl,?_⟩) hHeld ?_ ?_
  rotate_left
  ·rintro w' ⟨s0,s1,s2⟩
   go_simp
   with_reducible rfl
  rotate_left
  ·simp only [Act.put,List.setIfInBounds_toArray,List.set_cons_zero,List.set_cons_succ,i64_w]
   rfl
  refine one_ (i:=11) (N:=some 39) #[true,true,true,true,true,true,true,true,true,true,true,true,false,false,false,false,false,false,false,false,false,false,false,false,false,false,false,false,false,false,false,false,false] rfl rfl (by kernel_rfl) (by decide) (fun K hK => ?_)
  refine goes_ Tryz.func52 (by kernel_rfl) rfl #[.slice A5 seen.length c5,.int .i64 q.lv] (by rfl) rfl rfl (by simp only [List.map_toArray,List.map_cons,List.map_nil]; rfl) ?_
  with_reducible refine ((spec_Has.calls (seen.length + 1) A5 c5 seen q.lv false w8 (Kd.C_below HCA.out HBD.out) HL5.out HHS.out)).mono ?_
  rintro en w9 ⟨rfl,hd9⟩
  refine ⟨_,rfl,?_⟩
  have HBE := Lib.hid (show Below wa.heap.size wa w9 from below_step HBD.out hd9.below)
  refine hK.out _ _ ⟨(HBE.out.cell (World.block_lt_of_cell? wa _ x0)).trans x0,(HBE.out.cell (World.block_lt_of_cell? wa _ x1)).trans x1,(HBE.out.cell (World.block_lt_of_cell? wa _ x2)).trans x2⟩ (fun hHeld => ?_)
  clear hK K
  refine norm_ (a':=?_) ?_ ?_
  rotate_left
  ·show Act.put _ (some 39) _ = _
   simp only [Act.put,List.setIfInBounds_toArray,List.set_cons_zero,List.set_cons_succ,i64_w]
   rfl
  refine pure_ (i:=12) (N:=some 40) (v:=?_) (a':=?_) #[true,true,true,true,true,true,true,true,true,true,true,true,true,false,false,false,false,false,false,false,false,false,false,false,false,false,false,false,false,false,false,false,false] rfl rfl (by kernel_rfl) (fun _ _ _ h => h) (Or.inl ⟨by rfl,?_⟩) ?_ ?_
  rotate_left
  ·intro w'
   go_simp
   with_reducible rfl
  rotate_left
  ·simp only [Act.put,List.setIfInBounds_toArray,List.set_cons_zero,List.set_cons_succ,i64_w]
   rfl
  refine pure_ (i:=13) (N:=some 41) (v:=?_) (a':=?_) #[true,true,true,true,true,true,true,true,true,true,true,true,true,true,false,false,false,false,false,false,false,false,false,false,false,false,false,false,false,false,false,false,false] rfl rfl (by kernel_rfl) (fun _ _ _ h => h) (Or.inl ⟨by rfl,?_⟩) ?_ ?_
  rotate_left
  ·intro w'
   go_simp
   with_reducible rfl
  rotate_left
  ·simp only [Act.put,List.setIfInBounds_toArray,List.set_cons_zero,List.set_cons_succ,i64_w]
   rfl
  refine pure_ (i:=14) (N:=some 42) (v:=?_) (a':=?_) #[true,true,true,true,true,true,true,true,true,true,true,true,true,true,true,false,false,false,false,false,false,false,false,false,false,false,false,false,false,false,false,false,false] rfl rfl (by kernel_rfl) (fun _ _ _ h => h) (Or.inl ⟨by rfl,?_⟩) ?_ ?_
  rotate_left
  ·intro w'
   go_simp
   with_reducible rfl
  rotate_left
  ·simp only [Act.put,List.setIfInBounds_toArray,List.set_cons_zero,List.set_cons_succ,i64_w]
   rfl
  refine take_ (i:=15) (N:=some 43) (v:=?_) (a':=?_) #[true,true,true,true,true,true,true,true,true,true,true,true,true,true,true,true,false,false,false,false,false,false,false,false,false,false,false,false,false,false,false,false,false] rfl rfl (by kernel_rfl) (fun _ _ _ h => h) (Or.inl ⟨by rfl,?_⟩) hHeld ?_ ?_
  rotate_left
  ·rintro w' ⟨s0,s1,s2⟩
   go_simp
   with_reducible rfl
  rotate_left
  ·simp only [Act.put,List.setIfInBounds_toArray,List.set_cons_zero,List.set_cons_succ,i64_w]
   rfl
  refine pure_ (i:=16) (N:=some 44) (v:=?_) (a':=?_) #[true,true,true,true,true,true,true,true,true,true,true,true,true,true,true,true,true,false,false,false,false,false,false,false,false,false,false,false,false,false,false,false,false] rfl rfl (by kernel_rfl) (fun _ _ _ h => h) (Or.inl ⟨by rfl,?_⟩) ?_ ?_
  rotate_left
  ·intro w'
   go_simp
   with_reducible rfl
  rotate_left
  ·simp only [Act.put,List.setIfInBounds_toArray,List.set_cons_zero,List.set_cons_succ,i64_w]
   rfl
  refine pure_ (i:=17) (N:=some 45) (v:=?_) (a':=?_) #[true,true,true,true,true,true,true,true,true,true,true,true,true,true,true,true,true,true,false,false,false,false,false,false,false,false,false,false,false,false,false,false,false] rfl rfl (by kernel_rfl) (fun _ _ _ h => h) (Or.inl ⟨by rfl,?_⟩) ?_ ?_
  rotate_left
  ·intro w'
   go_simp
   with_reducible rfl
  rotate_left
  ·simp only [Act.put,List.setIfInBounds_toArray,List.set_cons_zero,List.set_cons_succ,i64_w]
   rfl
  refine pure_ (i:=18) (N:=some 46) (v:=?_) (a':=?_) #[true,true,true,true,true,true,true,true,true,true,true,true,true,true,true,true,true,true,true,false,false,false,false,false,false,false,false,false,false,false,false,false,false] rfl rfl (by kernel_rfl) (fun _ _ _ h => h) (Or.inl ⟨by rfl,?_⟩) ?_ ?_
  rotate_left
  ·intro w'
   go_simp
   with_reducible rfl
  rotate_left
  ·simp only [Act.put,List.setIfInBounds_toArray,List.set_cons_zero,List.set_cons_succ,i64_w]
   rfl
  refine pure_ (i:=19) (N:=some 47) (v:=?_) (a':=?_) #[true,true,true,true,true,true,true,true,true,true,true,true,true,true,true,true,true,true,true,true,false,false,false,false,false,false,false,false,false,false,false,false,false] rfl rfl (by kernel_rfl) (fun _ _ _ h => h) (Or.inl ⟨by rfl,?_⟩) ?_ ?_
  rotate_left
  ·intro w'
   go_simp
   with_reducible rfl
  rotate_left
  ·simp only [Act.put,List.setIfInBounds_toArray,List.set_cons_zero,List.set_cons_succ,i64_w]
   rfl
  refine pure_ (i:=20) (N:=some 48) (v:=?_) (a':=?_) #[true,true,true,true,true,true,true,true,true,true,true,true,true,true,true,true,true,true,true,true,true,false,false,false,false,false,false,false,false,false,false,false,false] rfl rfl (by kernel_rfl) (fun _ _ _ h => h) (Or.inl ⟨by rfl,?_⟩) ?_ ?_
  rotate_left
  ·intro w'
   go_simp
   with_reducible rfl
  rotate_left
  ·simp only [Act.put,List.setIfInBounds_toArray,List.set_cons_zero,List.set_cons_succ,i64_w]
   rfl
  refine pure_ (i:=21) (N:=some 49) (v:=?_) (a':=?_) #[true,true,true,true,true,true,true,true,true,true,true,true,true,true,true,true,true,true,true,true,true,true,false,false,false,false,false,false,false,false,false,false,false] rfl rfl (by kernel_rfl) (fun _ _ _ h => h) (Or.inl ⟨by rfl,?_⟩) ?_ ?_
  rotate_left
  ·intro w'
   go_simp
   with_reducible rfl
  rotate_left
  ·simp only [Act.put,List.setIfInBounds_toArray,List.set_cons_zero,List.set_cons_succ,i64_w]
   rfl
  refine pure_ (i:=22) (N:=some 50) (v := undef) (a':=?_) #[true,true,true,true,true,true,true,true,true,true,true,true,true,true,true,true,true,true,true,true,true,true,true,false,false,false,false,false,false,false,false,false,false] rfl rfl (by kernel_rfl) (fun _ _ _ h => h) (Or.inr ⟨by rfl,rfl⟩) ?_ ?_
  rotate_left
  ·simp only [Act.put,List.setIfInBounds_toArray,List.set_cons_zero,List.set_cons_succ,i64_w]
   rfl
  refine pure_ (i:=23) (N:=some 51) (v := undef) (a':=?_) #[true,true,true,true,true,true,true,true,true,true,true,true,true,true,true,true,true,true,true,true,true,true,true,true,false,false,false,false,false,false,false,false,false] rfl rfl (by kernel_rfl) (fun _ _ _ h => h) (Or.inr ⟨by rfl,rfl⟩) ?_ ?_
  rotate_left
  ·simp only [Act.put,List.setIfInBounds_toArray,List.set_cons_zero,List.set_cons_succ,i64_w]
   rfl
  refine pure_ (i:=24) (N:=some 52) (v := undef) (a':=?_) #[true,true,true,true,true,true,true,true,true,true,true,true,true,true,true,true,true,true,true,true,true,true,true,true,true,false,false,false,false,false,false,false,false] rfl rfl (by kernel_rfl) (fun _ _ _ h => h) (Or.inr ⟨by rfl,rfl⟩) ?_ ?_
  rotate_left
  ·simp only [Act.put,List.setIfInBounds_toArray,List.set_cons_zero,List.set_cons_succ,i64_w]
   rfl
  refine pure_ (i:=25) (N:=some 53) (v := undef) (a':=?_) #[true,true,true,true,true,true,true,true,true,true,true,true,true,true,true,true,true,true,true,true,true,true,true,true,true,true,false,false,false,false,false,false,false] rfl rfl (by kernel_rfl) (fun _ _ _ h => h) (Or.inr ⟨by rfl,rfl⟩) ?_ ?_
  rotate_left
  ·simp only [Act.put,List.setIfInBounds_toArray,List.set_cons_zero,List.set_cons_succ,i64_w]
   rfl
  refine pure_ (i:=26) (N:=some 54) (v := undef) (a':=?_) #[true,true,true,true,true,true,true,true,true,true,true,true,true,true,true,true,true,true,true,true,true,true,true,true,true,true,true,false,false,false,false,false,false] rfl rfl (by kernel_rfl) (fun _ _ _ h => h) (Or.inr ⟨by rfl,rfl⟩) ?_ ?_
  rotate_left
  ·simp only [Act.put,List.setIfInBounds_toArray,List.set_cons_zero,List.set_cons_succ,i64_w]
   rfl
  refine pure_ (i:=27) (N:=some 55) (v := undef) (a':=?_) #[true,true,true,true,true,true,true,true,true,true,true,true,true,true,true,true,true,true,true,true,true,true,true,true,true,true,true,true,false,false,false,false,false] rfl rfl (by kernel_rfl) (fun _ _ _ h => h) (Or.inr ⟨by rfl,rfl⟩) ?_ ?_
  rotate_left
  ·simp only [Act.put,List.setIfInBounds_toArray,List.set_cons_zero,List.set_cons_succ,i64_w]
   rfl
  refine pure_ (i:=28) (N:=some 56) (v := undef) (a':=?_) #[true,true,true,true,true,true,true,true,true,true,true,true,true,true,true,true,true,true,true,true,true,true,true,true,true,true,true,true,true,false,false,false,false] rfl rfl (by kernel_rfl) (fun _ _ _ h => h) (Or.inr ⟨by rfl,rfl⟩) ?_ ?_
  rotate_left
  ·simp only [Act.put,List.setIfInBounds_toArray,List.set_cons_zero,List.set_cons_succ,i64_w]
   rfl
  refine pure_ (i:=29) (N:=some 57) (v := undef) (a':=?_) #[true,true,true,true,true,true,true,true,true,true,true,true,true,true,true,true,true,true,true,true,true,true,true,true,true,true,true,true,true,true,false,false,false] rfl rfl (by kernel_rfl) (fun _ _ _ h => h) (Or.inr ⟨by rfl,rfl⟩) ?_ ?_
  rotate_left
  ·simp only [Act.put,List.setIfInBounds_toArray,List.set_cons_zero,List.set_cons_succ,i64_w]
   rfl
  refine pure_ (i:=30) (N:=some 58) (v := undef) (a':=?_) #[true,true,true,true,true,true,true,true,true,true,true,true,true,true,true,true,true,true,true,true,true,true,true,true,true,true,true,true,true,true,true,false,false] rfl rfl (by kernel_rfl) (fun _ _ _ h => h) (Or.inr ⟨by rfl,rfl⟩) ?_ ?_
  rotate_left
  ·simp only [Act.put,List.setIfInBounds_toArray,List.set_cons_zero,List.set_cons_succ,i64_w]
   rfl
  refine pure_ (i:=31) (N:=some 59) (v:=?_) (a':=?_) #[true,true,true,true,true,true,true,true,true,true,true,true,true,true,true,true,true,true,true,true,true,true,true,true,true,true,true,true,true,true,true,true,false] rfl rfl (by kernel_rfl) (fun _ _ _ h => h) (Or.inl ⟨by rfl,?_⟩) ?_ ?_
  rotate_left
  ·intro w'
   go_simp
   with_reducible rfl
  rotate_left
  ·simp only [Act.put,List.setIfInBounds_toArray,List.set_cons_zero,List.set_cons_succ,i64_w]
   rfl
  refine pure_ (i:=32) (N:=some 60) (v:=?_) (a':=?_) #[true,true,true,true,true,true,true,true,true,true,true,true,true,true,true,true,true,true,true,true,true,true,true,true,true,true,true,true,true,true,true,true,true] rfl rfl (by kernel_rfl) (fun _ _ _ h => h) (Or.inl ⟨by rfl,?_⟩) ?_ ?_
  rotate_left
  ·intro w'
   go_simp
   with_reducible rfl
  rotate_left
  ·simp only [Act.put,List.setIfInBounds_toArray,List.set_cons_zero,List.set_cons_succ,i64_w]
   rfl
  refine done_ (by kernel_rfl) ?_
  have HRE := Lib.hid (Kd.R_below HRA.out HBE.out)
  have HC3E := Lib.hid (Kd.C_below HC3A.out HBE.out)
  have HBF := Lib.hid (below_step HBA.out HBE.out)
  have HSF := Lib.hid (show w5.heap.size ≤ w9.heap.size from Nat.le_trans HSZ.out (Nat.le_trans HB1a.out.size HBE.out.size))
  have HXE := Lib.hid ((HBE.out.block _ (blk_lt HX2.out)).trans HX2.out)
  clear hHeld HRA HBA HC3A HCA x0 x1 x2
  have x0 := blk_cell HXE.out 0
  go_wp2_with (first | ((with_reducible refine gate_builtin (b := .append) (xs := #[.tmp 61,.tmp 64]) rfl ?_); at_builtin; refine Kd.R_append (Kd.int .i64) (w0 := w3) w3.heap.size rfl (.tmp 61) (.tmp 64) 28 3 (.int .i64 0) 8 rfl (by kernel_rfl) info3 rfl (by decide) (by omega) _ seen q.lv [.int .i64 q.lv] (fun k => k = b0 ∨ w5.heap.size ≤ k) (fun _ => False) rfl rfl ?aP (fun _ hk => hk.elim) ?aF ?aO ?aB ?aS ?aL ?_; (case aP => exact rfl); (case aB => exact HBF.out); (case aF => exact (fun k hk => .inr (Nat.le_trans HSF.out hk))); (case aO => exact HRE.out); (case aS => exact below_size HBF.out); (case aL => exact HSL.out.1); intro v7 w7 ho hb hg hat; have HR7 := Lib.hid ho; have HB7 := Lib.hid hb; have HG7 := Lib.hid hg; clear ho hb hg hat))
  go_roundg (gk - 1)
  case measure => exact HGK.out.1
  case rel =>
   refine ⟨k + 1,HWR.out,⟨HGK.out.2⟩,⟨by rw [HKD.out]; exact HR7.out,HB7.out,?_,Nat.le_trans HSF.out HG7.out.size⟩⟩
   refine Kd.C_foot_neS (S := fun k => k = b0 ∨ w5.heap.size ≤ k) (fun h => h) HC3E.out ?_ w7 ⟨HG7.out.size,fun i hi hn => HG7.out.block i hi (fun e => hn (HRE.out.1 i e.symm))⟩
   intro ad3 e3 hn3
   exact HFAR.out ad3 e3 hn3
 obtain ⟨j,hj⟩ : ∃ j,k = j + 1 := ⟨k - 1,by omega⟩
 have z1 : decide ((k : Int) > 0) = true := decide_eq_true (by omega)
 have z2 : decide (0 < (k : Int)) = true := decide_eq_true (by omega)
 have z3 : decide (0 < k) = true := decide_eq_true (by omega)
 have z4 : wrap64 ((k : Int) - 1) = (j : Int) := by have := HLE.out; unfold wrap64; omega
 have z5 : IntKind.i64.wrap ((k : Int) - 1) = (j : Int) := by rw [IntWalk.i64_in _ (by have := HLE.out; omega)]; omega
 have dj : j < n := by omega
 obtain ⟨ad2,eA2,y0,y1,y2⟩ := Pk.at3 HC3.out (j : Int) (by omega) (by omega)
 rw [show ((j : Int)).toNat = j from rfl] at y0 y1 y2
 have hq2 := HOF2.out j (by omega)
 generalize (Pk.rd3 qs (j : Int)).a = qa at y2 hq2
 have e2 : (FloatKind.f64.format.order qa q.a == some .lt) = false := by rw [lt_ord hq2.2 HOF1.out.2.2.2.1]; exact decide_eq_false (by omega)
 subst eA
 injection eA2 with eA2
 subst eA2
 clear h0 hj hq2 y0 y1
 go_upto_region 10 with (fail)
 obtain ⟨wa,hwa⟩ : ∃ wa,wa = wr.alloc (.cells #[.int .i64 q.lv,.float .f64 q.s,.float .f64 q.a] 64) := ⟨_,rfl⟩
 rw [← hwa]
 obtain ⟨tb,htb⟩ : ∃ b,b = wr.heap.size := ⟨_,rfl⟩
 rw [← htb]
 have HB1a := Lib.hid (show Below wr.heap.size wr wa by rw [hwa]; exact below_alloc (Below.refl _ _) _)
 have HX2 := Lib.hid (show wa.heap[tb]? = some (.cells #[.int .i64 q.lv,.float .f64 q.s,.float .f64 q.a] 64 (0,0)) by rw [hwa,htb]; exact blk_new wr _)
 have HBA := Lib.hid (below_step HB.out HB1a.out)
 have HRA := Lib.hid (Kd.R_below HR.out HB1a.out)
 have HCA := Lib.hid (Kd.C_below HC5.out HB1a.out)
 have HC3A := Lib.hid (Kd.C_below HC3.out HB1a.out)
 have y2 := (HB1a.out.cell (World.block_lt_of_cell? wr _ y2)).trans y2
 clear hwa htb x0 x1 x2
 have x0 := blk_cell HX2.out 0
 have x1 := blk_cell HX2.out 1
 have x2 := blk_cell HX2.out 2
 refine start_ (n := 33) (S := fun w' => w'.cell? ⟨tb,0,none⟩ = some (.int .i64 q.lv) ∧ w'.cell? ⟨tb,1,none⟩ = some (.float .f64 q.s) ∧ w'.cell? ⟨tb,2,none⟩ = some (.float .f64 q.a) ∧ w'.cell? ⟨(ad.add (j * 3)).block,(ad.add (j * 3)).off + 2,none⟩ = some (.float .f64 qa)) (ds := []) #[false,false,false,false,false,false,false,false,false,false,false,false,false,false,false,false,false,false,false,false,false,false,false,false,false,false,false,false,false,false,false,false,false] (by kernel_rfl) rfl rfl ⟨x0,x1,x2,y2⟩ (fun hHeld => ?_)
 refine pure_ (i:=0) (N:=some 28) (v:=?_) (a':=?_) #[true,false,false,false,false,false,false,false,false,false,false,false,false,false,false,false,false,false,false,false,false,false,false,false,false,false,false,false,false,false,false,false,false] rfl rfl (by kernel_rfl) (fun _ _ _ h => h) (Or.inl ⟨by rfl,?_⟩) ?_ ?_
 rotate_left
 ·intro w'
  go_simp
  with_reducible rfl
 rotate_left
 ·simp only [Act.put,List.setIfInBounds_toArray,List.set_cons_zero,List.set_cons_succ,i64_w]
  rfl
 refine pure_ (i:=2) (N:=some 30) (v:=?_) (a':=?_) #[true,false,true,false,false,false,false,false,false,false,false,false,false,false,false,false,false,false,false,false,false,false,false,false,false,false,false,false,false,false,false,false,false] rfl rfl (by kernel_rfl) (fun _ _ _ h => h) (Or.inl ⟨by rfl,?_⟩) ?_ ?_
 rotate_left
 ·intro w'
  go_simp
  with_reducible rfl
 rotate_left
 ·simp only [Act.put,List.setIfInBounds_toArray,List.set_cons_zero,List.set_cons_succ,i64_w]
  rfl
 refine pure_ (i:=3) (N:=some 31) (v:=?_) (a':=?_) #[true,false,true,true,false,false,false,false,false,false,false,false,false,false,false,false,false,false,false,false,false,false,false,false,false,false,false,false,false,false,false,false,false] rfl rfl (by kernel_rfl) (fun _ _ _ h => h) (Or.inl ⟨by rfl,?_⟩) ?_ ?_
 rotate_left
 ·intro w'
  go_simp
  with_reducible rfl
 rotate_left
 ·simp only [Act.put,List.setIfInBounds_toArray,List.set_cons_zero,List.set_cons_succ,i64_w]
  rfl
 refine pure_ (i:=4) (N:=some 32) (v:=?_) (a':=?_) #[true,false,true,true,true,false,false,false,false,false,false,false,false,false,false,false,false,false,false,false,false,false,false,false,false,false,false,false,false,false,false,false,false] rfl rfl (by kernel_rfl) (fun _ _ _ h => h) (Or.inl ⟨by rfl,?_⟩) ?_ ?_
 rotate_left
 ·intro w'
  go_simp
  with_reducible rfl
 rotate_left
 ·simp only [Act.put,List.setIfInBounds_toArray,List.set_cons_zero,List.set_cons_succ,i64_w]
  rfl
 refine take_ (i:=1) (N:=some 29) (v:=?_) (a':=?_) #[true,true,true,true,true,false,false,false,false,false,false,false,false,false,false,false,false,false,false,false,false,false,false,false,false,false,false,false,false,false,false,false,false] rfl rfl (by kernel_rfl) (fun _ _ _ h => h) (Or.inl ⟨by rfl,?_⟩) hHeld ?_ ?_
 rotate_left
 ·rintro w' ⟨s0,s1,s2,s3⟩
  go_simp
  with_reducible rfl
 rotate_left
 ·simp only [Act.put,List.setIfInBounds_toArray,List.set_cons_zero,List.set_cons_succ,i64_w]
  rfl
 refine one_ (i:=5) (N:=some 33) #[true,true,true,true,true,true,false,false,false,false,false,false,false,false,false,false,false,false,false,false,false,false,false,false,false,false,false,false,false,false,false,false,false] rfl rfl (by kernel_rfl) (by decide) (fun K hK => ?_)
 refine goes_ Tryz.func46 (by kernel_rfl) rfl #[.int .i64 q.lv,.int .i64 0,.int .i64 ((ls.length : Int) - 2)] (by rfl) rfl rfl (by simp only [List.map_toArray,List.map_cons,List.map_nil]; rfl) ?_
 with_reducible refine ((spec_Within.calls q.lv 0 ((ls.length : Int) - 2) true wa.drew HRR.out)).mono ?_
 rintro en w8 ⟨rfl,hd8⟩
 refine ⟨_,rfl,?_⟩
 have HBD := Lib.hid (show Below wa.heap.size wa w8 from below_step (below_drew (Below.refl _ _)) hd8.below)
 refine hK.out _ _ ⟨(HBD.out.cell (World.block_lt_of_cell? wa _ x0)).trans x0,(HBD.out.cell (World.block_lt_of_cell? wa _ x1)).trans x1,(HBD.out.cell (World.block_lt_of_cell? wa _ x2)).trans x2,(HBD.out.cell (World.block_lt_of_cell? wa _ y2)).trans y2⟩ (fun hHeld => ?_)
 clear hK K
 refine norm_ (a':=?_) ?_ ?_
 rotate_left
 ·show Act.put _ (some 33) _ = _
  simp only [Act.put,List.setIfInBounds_toArray,List.set_cons_zero,List.set_cons_succ,i64_w]
  rfl
 refine pure_ (i:=6) (N:=some 34) (v:=?_) (a':=?_) #[true,true,true,true,true,true,true,false,false,false,false,false,false,false,false,false,false,false,false,false,false,false,false,false,false,false,false,false,false,false,false,false,false] rfl rfl (by kernel_rfl) (fun _ _ _ h => h) (Or.inl ⟨by rfl,?_⟩) ?_ ?_
 rotate_left
 ·intro w'
  go_simp
  with_reducible rfl
 rotate_left
 ·simp only [Act.put,List.setIfInBounds_toArray,List.set_cons_zero,List.set_cons_succ,i64_w]
  rfl
 refine pure_ (i:=7) (N:=some 35) (v:=?_) (a':=?_) #[true,true,true,true,true,true,true,true,false,false,false,false,false,false,false,false,false,false,false,false,false,false,false,false,false,false,false,false,false,false,false,false,false] rfl rfl (by kernel_rfl) (fun _ _ _ h => h) (Or.inl ⟨by rfl,?_⟩) ?_ ?_
 rotate_left
 ·intro w'
  go_simp
  with_reducible rfl
 rotate_left
 ·simp only [Act.put,List.setIfInBounds_toArray,List.set_cons_zero,List.set_cons_succ,i64_w]
  rfl
 refine pure_ (i:=8) (N:=some 36) (v:=?_) (a':=?_) #[true,true,true,true,true,true,true,true,true,false,false,false,false,false,false,false,false,false,false,false,false,false,false,false,false,false,false,false,false,false,false,false,false] rfl rfl (by kernel_rfl) (fun _ _ _ h => h) (Or.inl ⟨by rfl,?_⟩) ?_ ?_
 rotate_left
 ·intro w'
  go_simp
  with_reducible rfl
 rotate_left
 ·simp only [Act.put,List.setIfInBounds_toArray,List.set_cons_zero,List.set_cons_succ,i64_w]
  rfl
 refine pure_ (i:=9) (N:=some 37) (v:=?_) (a':=?_) #[true,true,true,true,true,true,true,true,true,true,false,false,false,false,false,false,false,false,false,false,false,false,false,false,false,false,false,false,false,false,false,false,false] rfl rfl (by kernel_rfl) (fun _ _ _ h => h) (Or.inl ⟨by rfl,?_⟩) ?_ ?_
 rotate_left
 ·intro w'
  go_simp
  with_reducible rfl
 rotate_left
 ·simp only [Act.put,List.setIfInBounds_toArray,List.set_cons_zero,List.set_cons_succ,i64_w]
  rfl
 refine take_ (i:=10) (N:=some 38) (v:=?_) (a':=?_) #[true,true,true,true,true,true,true,true,true,true,true,false,false,false,false,false,false,false,false,false,false,false,false,false,false,false,false,false,false,false,false,false,false] rfl rfl (by kernel_rfl) (fun _ _ _ h => h) (Or.inl ⟨by rfl,?_⟩) hHeld ?_ ?_
 rotate_left
 ·rintro w' ⟨s0,s1,s2,s3⟩
  go_simp
  with_reducible rfl
 rotate_left
 ·simp only [Act.put,List.setIfInBounds_toArray,List.set_cons_zero,List.set_cons_succ,i64_w]
  rfl
 refine one_ (i:=11) (N:=some 39) #[true,true,true,true,true,true,true,true,true,true,true,true,false,false,false,false,false,false,false,false,false,false,false,false,false,false,false,false,false,false,false,false,false] rfl rfl (by kernel_rfl) (by decide) (fun K hK => ?_)
 refine goes_ Tryz.func52 (by kernel_rfl) rfl #[.slice A5 seen.length c5,.int .i64 q.lv] (by rfl) rfl rfl (by simp only [List.map_toArray,List.map_cons,List.map_nil]; rfl) ?_
 with_reducible refine ((spec_Has.calls (seen.length + 1) A5 c5 seen q.lv false w8 (Kd.C_below HCA.out HBD.out) HL5.out HHS.out)).mono ?_
 rintro en w9 ⟨rfl,hd9⟩
 refine ⟨_,rfl,?_⟩
 have HBE := Lib.hid (show Below wa.heap.size wa w9 from below_step HBD.out hd9.below)
 refine hK.out _ _ ⟨(HBE.out.cell (World.block_lt_of_cell? wa _ x0)).trans x0,(HBE.out.cell (World.block_lt_of_cell? wa _ x1)).trans x1,(HBE.out.cell (World.block_lt_of_cell? wa _ x2)).trans x2,(HBE.out.cell (World.block_lt_of_cell? wa _ y2)).trans y2⟩ (fun hHeld => ?_)
 clear hK K
 refine norm_ (a':=?_) ?_ ?_
 rotate_left
 ·show Act.put _ (some 39) _ = _
  simp only [Act.put,List.setIfInBounds_toArray,List.set_cons_zero,List.set_cons_succ,i64_w]
  rfl
 refine pure_ (i:=12) (N:=some 40) (v:=?_) (a':=?_) #[true,true,true,true,true,true,true,true,true,true,true,true,true,false,false,false,false,false,false,false,false,false,false,false,false,false,false,false,false,false,false,false,false] rfl rfl (by kernel_rfl) (fun _ _ _ h => h) (Or.inl ⟨by rfl,?_⟩) ?_ ?_
 rotate_left
 ·intro w'
  go_simp
  with_reducible rfl
 rotate_left
 ·simp only [Act.put,List.setIfInBounds_toArray,List.set_cons_zero,List.set_cons_succ,i64_w]
  rfl
 refine pure_ (i:=13) (N:=some 41) (v:=?_) (a':=?_) #[true,true,true,true,true,true,true,true,true,true,true,true,true,true,false,false,false,false,false,false,false,false,false,false,false,false,false,false,false,false,false,false,false] rfl rfl (by kernel_rfl) (fun _ _ _ h => h) (Or.inl ⟨by rfl,?_⟩) ?_ ?_
 rotate_left
 ·intro w'
  go_simp
  with_reducible rfl
 rotate_left
 ·simp only [Act.put,List.setIfInBounds_toArray,List.set_cons_zero,List.set_cons_succ,i64_w]
  rfl
 refine pure_ (i:=14) (N:=some 42) (v:=?_) (a':=?_) #[true,true,true,true,true,true,true,true,true,true,true,true,true,true,true,false,false,false,false,false,false,false,false,false,false,false,false,false,false,false,false,false,false] rfl rfl (by kernel_rfl) (fun _ _ _ h => h) (Or.inl ⟨by rfl,?_⟩) ?_ ?_
 rotate_left
 ·intro w'
  go_simp
  with_reducible rfl
 rotate_left
 ·simp only [Act.put,List.setIfInBounds_toArray,List.set_cons_zero,List.set_cons_succ,i64_w]
  rfl
 refine take_ (i:=15) (N:=some 43) (v:=?_) (a':=?_) #[true,true,true,true,true,true,true,true,true,true,true,true,true,true,true,true,false,false,false,false,false,false,false,false,false,false,false,false,false,false,false,false,false] rfl rfl (by kernel_rfl) (fun _ _ _ h => h) (Or.inl ⟨by rfl,?_⟩) hHeld ?_ ?_
 rotate_left
 ·rintro w' ⟨s0,s1,s2,s3⟩
  go_simp
  with_reducible rfl
 rotate_left
 ·simp only [Act.put,List.setIfInBounds_toArray,List.set_cons_zero,List.set_cons_succ,i64_w]
  rfl
 refine pure_ (i:=16) (N:=some 44) (v:=?_) (a':=?_) #[true,true,true,true,true,true,true,true,true,true,true,true,true,true,true,true,true,false,false,false,false,false,false,false,false,false,false,false,false,false,false,false,false] rfl rfl (by kernel_rfl) (fun _ _ _ h => h) (Or.inl ⟨by rfl,?_⟩) ?_ ?_
 rotate_left
 ·intro w'
  go_simp
  with_reducible rfl
 rotate_left
 ·simp only [Act.put,List.setIfInBounds_toArray,List.set_cons_zero,List.set_cons_succ,i64_w]
  rfl
 refine pure_ (i:=17) (N:=some 45) (v:=?_) (a':=?_) #[true,true,true,true,true,true,true,true,true,true,true,true,true,true,true,true,true,true,false,false,false,false,false,false,false,false,false,false,false,false,false,false,false] rfl rfl (by kernel_rfl) (fun _ _ _ h => h) (Or.inl ⟨by rfl,?_⟩) ?_ ?_
 rotate_left
 ·intro w'
  go_simp
  with_reducible rfl
 rotate_left
 ·simp only [Act.put,List.setIfInBounds_toArray,List.set_cons_zero,List.set_cons_succ,i64_w]
  rfl
 refine pure_ (i:=18) (N:=some 46) (v:=?_) (a':=?_) #[true,true,true,true,true,true,true,true,true,true,true,true,true,true,true,true,true,true,true,false,false,false,false,false,false,false,false,false,false,false,false,false,false] rfl rfl (by kernel_rfl) (fun _ _ _ h => h) (Or.inl ⟨by rfl,?_⟩) ?_ ?_
 rotate_left
 ·intro w'
  go_simp
  with_reducible rfl
 rotate_left
 ·simp only [Act.put,List.setIfInBounds_toArray,List.set_cons_zero,List.set_cons_succ,i64_w]
  rfl
 refine pure_ (i:=19) (N:=some 47) (v:=?_) (a':=?_) #[true,true,true,true,true,true,true,true,true,true,true,true,true,true,true,true,true,true,true,true,false,false,false,false,false,false,false,false,false,false,false,false,false] rfl rfl (by kernel_rfl) (fun _ _ _ h => h) (Or.inl ⟨by rfl,?_⟩) ?_ ?_
 rotate_left
 ·intro w'
  go_simp
  with_reducible rfl
 rotate_left
 ·simp only [Act.put,List.setIfInBounds_toArray,List.set_cons_zero,List.set_cons_succ,i64_w]
  rfl
 refine pure_ (i:=20) (N:=some 48) (v:=?_) (a':=?_) #[true,true,true,true,true,true,true,true,true,true,true,true,true,true,true,true,true,true,true,true,true,false,false,false,false,false,false,false,false,false,false,false,false] rfl rfl (by kernel_rfl) (fun _ _ _ h => h) (Or.inl ⟨by rfl,?_⟩) ?_ ?_
 rotate_left
 ·intro w'
  go_simp
  with_reducible rfl
 rotate_left
 ·simp only [Act.put,List.setIfInBounds_toArray,List.set_cons_zero,List.set_cons_succ,i64_w]
  rfl
 refine pure_ (i:=21) (N:=some 49) (v:=?_) (a':=?_) #[true,true,true,true,true,true,true,true,true,true,true,true,true,true,true,true,true,true,true,true,true,true,false,false,false,false,false,false,false,false,false,false,false] rfl rfl (by kernel_rfl) (fun _ _ _ h => h) (Or.inl ⟨by rfl,?_⟩) ?_ ?_
 rotate_left
 ·intro w'
  go_simp
  with_reducible rfl
 rotate_left
 ·simp only [Act.put,List.setIfInBounds_toArray,List.set_cons_zero,List.set_cons_succ,i64_w]
  rfl
 refine pure_ (i:=22) (N:=some 50) (v:=?_) (a':=?_) #[true,true,true,true,true,true,true,true,true,true,true,true,true,true,true,true,true,true,true,true,true,true,true,false,false,false,false,false,false,false,false,false,false] rfl rfl (by kernel_rfl) (fun _ _ _ h => h) (Or.inl ⟨by rfl,?_⟩) ?_ ?_
 rotate_left
 ·intro w'
  go_simp
  with_reducible rfl
 rotate_left
 ·simp only [Act.put,List.setIfInBounds_toArray,List.set_cons_zero,List.set_cons_succ,i64_w]
  rfl
 refine pure_ (i:=23) (N:=some 51) (v:=?_) (a':=?_) #[true,true,true,true,true,true,true,true,true,true,true,true,true,true,true,true,true,true,true,true,true,true,true,true,false,false,false,false,false,false,false,false,false] rfl rfl (by kernel_rfl) (fun _ _ _ h => h) (Or.inl ⟨by rfl,?_⟩) ?_ ?_
 rotate_left
 ·intro w'
  go_simp
  with_reducible rfl
 rotate_left
 ·simp only [Act.put,List.setIfInBounds_toArray,List.set_cons_zero,List.set_cons_succ,i64_w]
  rfl
 refine pure_ (i:=24) (N:=some 52) (v:=?_) (a':=?_) #[true,true,true,true,true,true,true,true,true,true,true,true,true,true,true,true,true,true,true,true,true,true,true,true,true,false,false,false,false,false,false,false,false] rfl rfl (by kernel_rfl) (fun _ _ _ h => h) (Or.inl ⟨by rfl,?_⟩) ?_ ?_
 rotate_left
 ·intro w'
  go_simp
  with_reducible rfl
 rotate_left
 ·simp only [Act.put,List.setIfInBounds_toArray,List.set_cons_zero,List.set_cons_succ,i64_w]
  rfl
 refine pure_ (i:=25) (N:=some 53) (v:=?_) (a':=?_) #[true,true,true,true,true,true,true,true,true,true,true,true,true,true,true,true,true,true,true,true,true,true,true,true,true,true,false,false,false,false,false,false,false] rfl rfl (by kernel_rfl) (fun _ _ _ h => h) (Or.inl ⟨by rfl,?_⟩) ?_ ?_
 rotate_left
 ·intro w'
  go_simp
  with_reducible rfl
 rotate_left
 ·simp only [Act.put,List.setIfInBounds_toArray,List.set_cons_zero,List.set_cons_succ,i64_w]
  rfl
 refine pure_ (i:=26) (N:=some 54) (v:=?_) (a':=?_) #[true,true,true,true,true,true,true,true,true,true,true,true,true,true,true,true,true,true,true,true,true,true,true,true,true,true,true,false,false,false,false,false,false] rfl rfl (by kernel_rfl) (fun _ _ _ h => h) (Or.inl ⟨by rfl,?_⟩) ?_ ?_
 rotate_left
 ·intro w'
  go_simp
  with_reducible rfl
 rotate_left
 ·simp only [Act.put,List.setIfInBounds_toArray,List.set_cons_zero,List.set_cons_succ,i64_w]
  rfl
 refine pure_ (i:=28) (N:=some 56) (v:=?_) (a':=?_) #[true,true,true,true,true,true,true,true,true,true,true,true,true,true,true,true,true,true,true,true,true,true,true,true,true,true,true,false,true,false,false,false,false] rfl rfl (by kernel_rfl) (fun _ _ _ h => h) (Or.inl ⟨by rfl,?_⟩) ?_ ?_
 rotate_left
 ·intro w'
  go_simp
  with_reducible rfl
 rotate_left
 ·simp only [Act.put,List.setIfInBounds_toArray,List.set_cons_zero,List.set_cons_succ,i64_w]
  rfl
 refine take_ (i:=27) (N:=some 55) (v:=?_) (a':=?_) #[true,true,true,true,true,true,true,true,true,true,true,true,true,true,true,true,true,true,true,true,true,true,true,true,true,true,true,true,true,false,false,false,false] rfl rfl (by kernel_rfl) (fun _ _ _ h => h) (Or.inl ⟨by rfl,?_⟩) hHeld ?_ ?_
 rotate_left
 ·rintro w' ⟨s0,s1,s2,s3⟩
  go_simp
  with_reducible rfl
 rotate_left
 ·simp only [Act.put,List.setIfInBounds_toArray,List.set_cons_zero,List.set_cons_succ,i64_w]
  rfl
 refine take_ (i:=29) (N:=some 57) (v:=?_) (a':=?_) #[true,true,true,true,true,true,true,true,true,true,true,true,true,true,true,true,true,true,true,true,true,true,true,true,true,true,true,true,true,true,false,false,false] rfl rfl (by kernel_rfl) (fun _ _ _ h => h) (Or.inl ⟨by rfl,?_⟩) hHeld ?_ ?_
 rotate_left
 ·rintro w' ⟨s0,s1,s2,s3⟩
  go_simp
  with_reducible rfl
 rotate_left
 ·simp only [Act.put,List.setIfInBounds_toArray,List.set_cons_zero,List.set_cons_succ,i64_w]
  rfl
 refine pure_ (i:=30) (N:=some 58) (v:=?_) (a':=?_) #[true,true,true,true,true,true,true,true,true,true,true,true,true,true,true,true,true,true,true,true,true,true,true,true,true,true,true,true,true,true,true,false,false] rfl rfl (by kernel_rfl) (fun _ _ _ h => h) (Or.inl ⟨by rfl,?_⟩) ?_ ?_
 rotate_left
 ·intro w'
  go_simp
  with_reducible rfl
 rotate_left
 ·simp only [Act.put,List.setIfInBounds_toArray,List.set_cons_zero,List.set_cons_succ,i64_w]
  rfl
 refine pure_ (i:=31) (N:=some 59) (v:=?_) (a':=?_) #[true,true,true,true,true,true,true,true,true,true,true,true,true,true,true,true,true,true,true,true,true,true,true,true,true,true,true,true,true,true,true,true,false] rfl rfl (by kernel_rfl) (fun _ _ _ h => h) (Or.inl ⟨by rfl,?_⟩) ?_ ?_
 rotate_left
 ·intro w'
  go_simp
  with_reducible rfl
 rotate_left
 ·simp only [Act.put,List.setIfInBounds_toArray,List.set_cons_zero,List.set_cons_succ,i64_w]
  rfl
 refine pure_ (i:=32) (N:=some 60) (v:=?_) (a':=?_) #[true,true,true,true,true,true,true,true,true,true,true,true,true,true,true,true,true,true,true,true,true,true,true,true,true,true,true,true,true,true,true,true,true] rfl rfl (by kernel_rfl) (fun _ _ _ h => h) (Or.inl ⟨by rfl,?_⟩) ?_ ?_
 rotate_left
 ·intro w'
  go_simp
  with_reducible rfl
 rotate_left
 ·simp only [Act.put,List.setIfInBounds_toArray,List.set_cons_zero,List.set_cons_succ,i64_w]
  rfl
 refine done_ (by kernel_rfl) ?_
 have HRE := Lib.hid (Kd.R_below HRA.out HBE.out)
 have HC3E := Lib.hid (Kd.C_below HC3A.out HBE.out)
 have HBF := Lib.hid (below_step HBA.out HBE.out)
 have HSF := Lib.hid (show w5.heap.size ≤ w9.heap.size from Nat.le_trans HSZ.out (Nat.le_trans HB1a.out.size HBE.out.size))
 have HXE := Lib.hid ((HBE.out.block _ (blk_lt HX2.out)).trans HX2.out)
 clear hHeld HRA HBA HC3A HCA x0 x1 x2 y2
 have x0 := blk_cell HXE.out 0
 go_wp2_with (first | ((with_reducible refine gate_builtin (b := .append) (xs := #[.tmp 61,.tmp 64]) rfl ?_); at_builtin; refine Kd.R_append (Kd.int .i64) (w0 := w3) w3.heap.size rfl (.tmp 61) (.tmp 64) 28 3 (.int .i64 0) 8 rfl (by kernel_rfl) info3 rfl (by decide) (by omega) _ seen q.lv [.int .i64 q.lv] (fun k => k = b0 ∨ w5.heap.size ≤ k) (fun _ => False) rfl rfl ?aP (fun _ hk => hk.elim) ?aF ?aO ?aB ?aS ?aL ?_; (case aP => exact rfl); (case aB => exact HBF.out); (case aF => exact (fun k hk => .inr (Nat.le_trans HSF.out hk))); (case aO => exact HRE.out); (case aS => exact below_size HBF.out); (case aL => exact HSL.out.1); intro v7 w7 ho hb hg hat; have HR7 := Lib.hid ho; have HB7 := Lib.hid hb; have HG7 := Lib.hid hg; clear ho hb hg hat))
 go_roundg (gk - 1)
 case measure => exact HGK.out.1
 case rel =>
  refine ⟨k + 1,HWR.out,⟨HGK.out.2⟩,⟨by rw [HKD.out]; exact HR7.out,HB7.out,?_,Nat.le_trans HSF.out HG7.out.size⟩⟩
  refine Kd.C_foot_neS (S := fun k => k = b0 ∨ w5.heap.size ≤ k) (fun h => h) HC3E.out ?_ w7 ⟨HG7.out.size,fun i hi hn => HG7.out.block i hi (fun e => hn (HRE.out.1 i e.symm))⟩
  intro ad3 e3 hn3
  exact HFAR.out ad3 e3 hn3
end Go.Proofs.YtnineoajmgneiaaGreat.fnPickOrder
