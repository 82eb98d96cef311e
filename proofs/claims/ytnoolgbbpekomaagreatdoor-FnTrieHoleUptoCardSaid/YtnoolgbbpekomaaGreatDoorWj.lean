/- FnTrieHole: the walk. -/
import Derived.Test.YtnoolgbbpekomaaGreatDoorPo
import Derived.Test.YtnoolgbbpekomaaGreatDoorPr
import Derived.Deep.RegionHeld3
import Derived.Deep.Heap
namespace Go.Proofs.YtnoolgbbpekomaaGreatDoor.Wj
open Go.RowKit YtnoolgbbpekomaaGreatDoorW.PrintWords YtnoolgbbpekomaaGreatDoorW.PrintLast YtnoolgbbpekomaaGreatDoorW.PrintMore T Em Pa Pb Pc
set_option linter.unusedVariables false
set_option linter.unusedSimpArgs false
theorem C_blk1 {W : World} {g : Nat} {cs : List Value} {m : S42} (h : W.heap[g]? = some (.cells cs.toArray 42 (0, 0))) (hK : k42.K W m cs) : Kd.C k42 W (some ⟨g, 0, none⟩) 1 [m] := by
  refine ⟨rfl, by decide, fun _ => ⟨_, rfl, fun j p hj => ?_⟩⟩
  cases j with
  | succ j => simp at hj
  | zero =>
    obtain rfl : m = p := by simpa using hj
    refine ⟨cs, k42.K_len hK, hK, fun i u hi => ?_⟩
    have := blk_cell h i
    rw [List.getElem?_toArray, hi] at this
    rw [← this]
    simp only [Addr.add, Nat.zero_mul, Nat.zero_add]
    split
    · rename_i h0; rw [h0]
    · rfl
theorem C_str2 {W : World} {g : Nat} {a b : ByteArray} (h : W.heap[g]? = some (.cells #[.string a, .string b] 9 (0, 0))) : Kd.C Kd.string W (some ⟨g, 0, none⟩) 2 [a, b] := by
  refine ⟨rfl, by decide, fun _ => ⟨_, rfl, fun j p hj => ?_⟩⟩
  have hc := blk_cell h j
  match j, hj with
  | 0, hj =>
    obtain rfl : a = p := by simpa using hj
    refine ⟨[.string a], rfl, rfl, fun i u hi => ?_⟩
    match i, hi with
    | 0, hi => obtain rfl : Value.string a = u := by simpa using hi
               simpa [Addr.add] using hc
  | 1, hj =>
    obtain rfl : b = p := by simpa using hj
    refine ⟨[.string b], rfl, rfl, fun i u hi => ?_⟩
    match i, hi with
    | 0, hi => obtain rfl : Value.string b = u := by simpa using hi
               exact hc
theorem C_byte {W : World} {g : Nat} {n : Int} (h : W.heap[g]? = some (.cells #[.int .u8 n] 5 (0, 0))) : (Kd.int .u8).C W (some ⟨g, 0, none⟩) 1 [n] := by
  refine ⟨rfl, by decide, fun _ => ⟨_, rfl, fun j p hj => ?_⟩⟩
  cases j with
  | succ j => simp at hj
  | zero =>
    obtain rfl : n = p := by simpa using hj
    refine ⟨[.int .u8 n], rfl, rfl, fun i u hi => ?_⟩
    have hc := blk_cell h 0
    match i, hi with
    | 0, hi => obtain rfl : Value.int .u8 n = u := by simpa using hi
               simpa [Addr.add] using hc
theorem blk1 (w : World) (o o1 : Obj) : ((w.alloc o1).alloc o).heap[w.heap.size + 1]? = some o := by
  have := blk_new (w.alloc o1) o
  rwa [show (w.alloc o1).heap.size = w.heap.size + 1 by simp] at this
theorem blk2 (w : World) (o o1 o2 : Obj) : (((w.alloc o1).alloc o2).alloc o).heap[w.heap.size + 1 + 1]? = some o := by
  have := blk_new ((w.alloc o1).alloc o2) o
  rwa [show ((w.alloc o1).alloc o2).heap.size = w.heap.size + 1 + 1 by simp] at this
set_option maxRecDepth 100000 in
set_option maxHeartbeats 8000000 in
theorem hole_calls {w : World} {f0 : Bool} {f1 : ByteArray} {f2 : List S67} {f3 : Int} {A2 : Option Addr} {c2 : Nat} {key : ByteArray} {p b : Int} (hC2 : Kd.C k67 w A2 f2.length f2) (hc2 : f2.length ≤ c2) (hl : Pi.Laid w) (hs2 : f2.length ≤ 100000000) (hs1 : f1.size ≤ 100000000) (hk : key.size ≤ 100000000)
    (mok pok hok bok : Bool) (hm : ∃ k, spec_MatchesOk.f k [(⟨f0, f1, f2, f3⟩ : S42)] = some mok) (hp : spec_Within.f p 0 (min (f1.size : Int) (key.size : Int) - 1) = some pok) (hh : ∃ k, spec_Hole.f k f2 p = some hok) (hb : spec_Within.f b 0 255 = some bok)
    (hpb : pok = true → 0 ≤ p ∧ p < (f1.size : Int) ∧ p < (key.size : Int)) (hbb : bok = true → 0 ≤ b ∧ b ≤ 255)
    {r : List Int} (hof : mok = true → pok = true → hok = true → bok = true → ∃ k, laws_of.f k [(⟨false, f1, f2, f3⟩ : S42)] [key, key.extract 0 p.toNat ++ strOfNums [IntKind.u8.wrap b] ++ key.extract (p.toNat + 1) key.size] = some [r, r]) (hsm : ∃ k, laws_sameInts.f k r r = some true) :
    Calls Tryz.prog 8 #[.agg #[.bool f0, .string f1, .slice A2 f2.length c2, .int .i64 f3], .string key, .int .i64 p, .int .i64 b] w fun e w' => e = .returned (.bool true) ∧ Below w.heap.size w w' := by
  obtain ⟨k24, e24⟩ := hm
  obtain ⟨k20, e20⟩ := hh
  obtain ⟨k35, e35⟩ := hsm
  have E35 := Lib.hid e35
  have HOF := Lib.hid hof
  have e29 := fit4 (⟨f0, f1, f2, f3⟩ : S42) hs1 hs2
  have H2 := Lib.hid hC2
  have HL := Lib.hid hl
  have HF := Lib.hid (Kd.C_F (d := k67) k67_heap hC2)
  have E24 := Lib.hid e24
  have E20 := Lib.hid e20
  have E29 := Lib.hid e29
  have EP := Lib.hid hp
  have EB := Lib.hid hb
  have HPB := Lib.hid hpb
  have HBB := Lib.hid hbb
  have q1 : decide (2147483647 < (key.size : Int)) = false := decide_eq_false (by omega)
  have q2 : decide (2147483647 < key.size) = false := decide_eq_false (by omega)
  clear hC2 hl e24 e20 e29 hp hb hpb hbb hof e35
  go_enter Tryz.func8, Tryz.ntmps8
  go_upto_region 1 with (fail)
  obtain ⟨b4, hb4, hbk, hbw⟩ : ∃ b4, b4 = w.heap.size ∧ (w.alloc (.cells #[.bool f0, .string f1, .slice A2 f2.length c2, .int .i64 f3] 42)).heap[b4]? = some (.cells #[.bool f0, .string f1, .slice A2 f2.length c2, .int .i64 f3] 42 (0, 0)) ∧ Below w.heap.size w (w.alloc (.cells #[.bool f0, .string f1, .slice A2 f2.length c2, .int .i64 f3] 42)) := ⟨_, rfl, blk_new _ _, below_alloc (Below.refl _ _) _⟩
  rw [← hb4]
  generalize w.alloc (.cells #[.bool f0, .string f1, .slice A2 f2.length c2, .int .i64 f3] 42) = w1 at *
  have HB1 := Lib.hid hbw
  have BK1 := Lib.hid hbk
  have HBG := Lib.hid (show w.heap.size ≤ b4 by omega)
  clear hb4 hbk hbw
  have hq0 := blk_cell BK1.out 0
  have hq1 := blk_cell BK1.out 1
  have hq2 := blk_cell BK1.out 2
  have hq3 := blk_cell BK1.out 3
  go_wp2_with fail
  refine (laws_zzFits4.calls f0 f1 A2 c2 f2 f3 true _ (Kd.C_below H2.out HB1.out) hc2 E29.out).mono ?_
  rintro e w2 ⟨rfl, hb⟩
  have HB2 := Lib.hid (below_step HB1.out hb)
  have BK2 := Lib.hid (blk_below BK1.out hb)
  clear hb hq0 hq1 hq2 hq3 HB1 BK1
  have hq0 := blk_cell BK2.out 0
  have hq1 := blk_cell BK2.out 1
  have hq2 := blk_cell BK2.out 2
  have hq3 := blk_cell BK2.out 3
  have HF2 := Lib.hid (Kd.F_below HF.out HB2.out)
  go_wp2_with (first | ((with_reducible refine gate_dst (N := 19) rfl ?_); refine Kd.N_lit k42 w.heap.size 42 ?hg (N' := 19) ?hd (xs := [(⟨f0, f1, f2, f3⟩ : S42)]) (inner := [.bool f0, .string f1, .slice A2 f2.length c2, .int .i64 f3]) (ok := fun _ => True) (okp := fun k => k < w.heap.size) ?hr (Reps.front (c := [.bool f0, .string f1, .slice A2 f2.length c2, .int .i64 f3]) (k42_mkF _ _ (⟨f0, f1, f2, f3⟩ : S42) hc2 HF2.out) rfl (Reps.none _ _) rfl) (fun _ _ => trivial) trivial HB2.out HB2.out.size (by simp) ?_; (case hd => rfl); (case hg => rfl); (case hr => first | (go_simp; done) | (go_simp; rfl)); intro v19 w3 hn hb hg_ hat_; have HN := Lib.hid hn; have HB3 := Lib.hid hb; have BK3 := Lib.hid (blk_grown BK2.out hg_ (by simp)); clear hn hb hg_ hat_))
  obtain ⟨A19, c19, e19⟩ := Kd.N_slice HN.out
  subst e19
  refine (spec_MatchesOk.calls k24 A19 c19 [(⟨f0, f1, f2, f3⟩ : S42)] mok _ (Kd.N_reads' HN.out).2.2 (Kd.N_reads' HN.out).2.1 E24.out).mono ?_
  rintro e w4 ⟨rfl, hb⟩
  have HB4 := Lib.hid (below_step HB3.out hb)
  have BK4 := Lib.hid (blk_below BK3.out hb)
  clear hb hq0 hq1 hq2 hq3 HB3 BK3 HB2 BK2 HN HF2
  have hq0 := blk_cell BK4.out 0
  have hq1 := blk_cell BK4.out 1
  have hq2 := blk_cell BK4.out 2
  have hq3 := blk_cell BK4.out 3
  cases mok with
  | false =>
    go_wp2_with fail
    refine (laws_triesWork.calls 0 true _ (Pi.Laid.below HL.out HB4.out) rfl).mono ?_
    rintro e wz ⟨rfl, hb⟩
    have HBZ := Lib.hid (below_step HB4.out hb)
    go_wp2_with fail
    go_ret
    exact ⟨rfl, HBZ.out⟩
  | true =>
    go_wp2_with fail
    refine (spec_Within.calls p 0 (min (f1.size : Int) (key.size : Int) - 1) pok _ EP.out).mono ?_
    rintro e w5 ⟨rfl, hb⟩
    have HB5 := Lib.hid (below_step HB4.out hb.below)
    have BK5 := Lib.hid (blk_below BK4.out hb.below)
    clear hb hq0 hq1 hq2 hq3 HB4 BK4
    have hq0 := blk_cell BK5.out 0
    have hq1 := blk_cell BK5.out 1
    have hq2 := blk_cell BK5.out 2
    have hq3 := blk_cell BK5.out 3
    cases pok with
    | false =>
      go_wp2_with fail
      refine (laws_triesWork.calls 0 true _ (Pi.Laid.below HL.out HB5.out) rfl).mono ?_
      rintro e wz ⟨rfl, hb⟩
      have HBZ := Lib.hid (below_step HB5.out hb)
      go_wp2_with fail
      go_ret
      exact ⟨rfl, HBZ.out⟩
    | true =>
      go_wp2_with fail
      refine (spec_Hole.calls k20 A2 c2 f2 p hok _ (Kd.C_below H2.out HB5.out) hc2 E20.out).mono ?_
      rintro e w6 ⟨rfl, hb⟩
      have HB6 := Lib.hid (below_step HB5.out hb)
      have BK6 := Lib.hid (blk_below BK5.out hb)
      clear hb hq0 hq1 hq2 hq3 HB5 BK5
      have hq0 := blk_cell BK6.out 0
      have hq1 := blk_cell BK6.out 1
      have hq2 := blk_cell BK6.out 2
      have hq3 := blk_cell BK6.out 3
      cases hok with
      | false =>
        go_wp2_with fail
        refine (laws_triesWork.calls 0 true _ (Pi.Laid.below HL.out HB6.out) rfl).mono ?_
        rintro e wz ⟨rfl, hb⟩
        have HBZ := Lib.hid (below_step HB6.out hb)
        go_wp2_with fail
        go_ret
        exact ⟨rfl, HBZ.out⟩
      | true =>
        go_wp2_with fail
        refine (spec_Within.calls b 0 255 bok _ EB.out).mono ?_
        rintro e w7 ⟨rfl, hb⟩
        have HB7 := Lib.hid (below_step HB6.out hb.below)
        have BK7 := Lib.hid (blk_below BK6.out hb.below)
        clear hb hq0 hq1 hq2 hq3 HB6 BK6
        have hq0 := blk_cell BK7.out 0
        have hq1 := blk_cell BK7.out 1
        have hq2 := blk_cell BK7.out 2
        have hq3 := blk_cell BK7.out 3
        cases bok with
        | false =>
          go_wp2_with fail
          refine (laws_triesWork.calls 0 true _ (Pi.Laid.below HL.out HB7.out) rfl).mono ?_
          rintro e wz ⟨rfl, hb⟩
          have HBZ := Lib.hid (below_step HB7.out hb)
          go_wp2_with fail
          go_ret
          exact ⟨rfl, HBZ.out⟩
        | true =>
          have hfz := blk_frozen BK7.out 0
          go_upto_region 6 with (fail)
          have hput := blk_put BK7.out 0 (.bool false) rfl
          have hbs := below_set (j := 0) (v := .bool false) HB7.out HBG.out
          generalize w7.setCell ⟨b4, 0, none⟩ (.bool false) = w8 at *
          have HB8 := Lib.hid hbs
          have BK8 := Lib.hid hput
          obtain ⟨hp0, hp1, hp2⟩ := HPB.out trivial
          obtain ⟨hbx0, hbx1⟩ := HBB.out trivial
          obtain ⟨k26, e26⟩ := HOF.out (by simp) (by simp) (by simp) (by simp)
          obtain ⟨P, rfl⟩ : ∃ P : Nat, p = (P : Int) := ⟨p.toNat, by omega⟩
          have HK := Lib.hid (fun (x : World) (hx : Below w8.heap.size w8 x) => (show x.cell? ⟨b4, 0, none⟩ = some (.bool false) ∧ x.cell? ⟨b4, 1, none⟩ = some (.string f1) ∧ x.cell? ⟨b4, 2, none⟩ = some (.slice A2 f2.length c2) ∧ x.cell? ⟨b4, 3, none⟩ = some (.int .i64 f3) ∧ Below w8.heap.size w8 x from ⟨blk_cell (blk_below hput hx) 0, blk_cell (blk_below hput hx) 1, blk_cell (blk_below hput hx) 2, blk_cell (blk_below hput hx) 3, hx⟩))
          rw [Int.toNat_natCast] at e26
          have E26 := Lib.hid e26
          clear e26
          have g0 : (0 : Int) ≤ (P : Int) := hp0
          have g1 : (P : Int) ≤ (key.size : Int) := by omega
          have g2 : IntKind.i64.wrap ((P : Int) + 1) = (P : Int) + 1 := IntWalk.i64_in _ (by omega)
          have g3 : (0 : Int) ≤ (P : Int) + 1 := by omega
          have g4 : (P : Int) + 1 ≤ (key.size : Int) := by omega
          have g5 : ((P : Int) + 1).toNat = P + 1 := by omega
          have cv1 : Sem.run Tryz.prog (convert 58 9 (.slice (some ⟨w8.heap.size + 1, 0, none⟩) 1 1)) ((w8.alloc (.cells #[.bool false, .string f1, .slice A2 f2.length c2, .int .i64 f3] 42)).alloc (.cells #[.int .u8 (IntKind.u8.wrap b)] 5)).drew = .ok (.string (strOfNums [IntKind.u8.wrap b])) ((w8.alloc (.cells #[.bool false, .string f1, .slice A2 f2.length c2, .int .i64 f3] 42)).alloc (.cells #[.int .u8 (IntKind.u8.wrap b)] 5)).drew := Kd.C_string (e := 5) (by kernel_rfl) (by kernel_rfl) (by kernel_rfl) (C_byte (blk1 _ _ _))
          have cv2 : Sem.run Tryz.prog (convert 58 9 (.slice (some ⟨w8.heap.size, 0, none⟩) 1 1)) (w8.alloc (.cells #[.int .u8 (IntKind.u8.wrap b)] 5)).drew = .ok (.string (strOfNums [IntKind.u8.wrap b])) (w8.alloc (.cells #[.int .u8 (IntKind.u8.wrap b)] 5)).drew := Kd.C_string (e := 5) (by kernel_rfl) (by kernel_rfl) (by kernel_rfl) (C_byte (blk_new _ _))
          have cv3 : Sem.run Tryz.prog (convert 58 9 (.slice (some ⟨w8.heap.size, 0, none⟩) 1 1)) ((w8.alloc (.cells #[.int .u8 (IntKind.u8.wrap b)] 5)).alloc (.cells #[.bool false, .string f1, .slice A2 f2.length c2, .int .i64 f3] 42)).drew = .ok (.string (strOfNums [IntKind.u8.wrap b])) ((w8.alloc (.cells #[.int .u8 (IntKind.u8.wrap b)] 5)).alloc (.cells #[.bool false, .string f1, .slice A2 f2.length c2, .int .i64 f3] 42)).drew := Kd.C_string (e := 5) (by kernel_rfl) (by kernel_rfl) (by kernel_rfl) (C_byte (blk_alloc (blk_new _ _) _))
          have z1 : (key.extract 0 P).size = P := by rw [ByteArray.size_extract]; omega
          have z3 : (key.extract (P + 1) key.size).size = key.size - (P + 1) := by rw [ByteArray.size_extract]; omega
          have z2 : (strOfNums [IntKind.u8.wrap b]).size = 1 := by simp [strOfNums]; rfl
          have ad1 : ∀ X : World, Sem.run Tryz.prog (Op.stringOp .add (key.extract 0 P) (strOfNums [IntKind.u8.wrap b])) X = .ok (.string (key.extract 0 P ++ (strOfNums [IntKind.u8.wrap b]))) X := fun X => run_string_add_sum _ _ _ (by rw [z1, z2]; omega)
          have ad2 : ∀ X : World, Sem.run Tryz.prog (Op.stringOp .add (key.extract 0 P ++ (strOfNums [IntKind.u8.wrap b])) (key.extract (P + 1) key.size)) X = .ok (.string (key.extract 0 P ++ (strOfNums [IntKind.u8.wrap b]) ++ key.extract (P + 1) key.size)) X := fun X => run_string_add_sum _ _ _ (by rw [size_app, z1, z2, z3]; omega)
          have c1 := eq_true (show (key.extract 0 P).size + (strOfNums [IntKind.u8.wrap b]).size ≤ 9223372036854775807 by rw [z1, z2]; omega)
          have c2' := eq_true (show (key.extract 0 P ++ (strOfNums [IntKind.u8.wrap b])).size + (key.extract (P + 1) key.size).size ≤ 9223372036854775807 by rw [size_app, z1, z2, z3]; omega)
          clear z1 z2 z3
          clear hq0 hq1 hq2 hq3 hfz hbs hput HB7 BK7
          refine wp_region_held_drew (S := (fun x => x.cell? ⟨b4, 0, none⟩ = some (.bool false) ∧ x.cell? ⟨b4, 1, none⟩ = some (.string f1) ∧ x.cell? ⟨b4, 2, none⟩ = some (.slice A2 f2.length c2) ∧ x.cell? ⟨b4, 3, none⟩ = some (.int .i64 f3) ∧ Below w8.heap.size w8 x)) (by kernel_rfl) ?_ (fun hHeld => ?_)
          · try dsimp only
            (first | (refine HK.out _ ?_; (repeat (first | exact Below.refl _ _ | apply below_alloc | apply below_drew)); done) | (refine HK.out _ (below_step ?_ hbF); (repeat (first | exact Below.refl _ _ | apply below_alloc | apply below_drew)); done))
          refine wpAnyH_take (i := 0) (v := ?_) rfl (by kernel_rfl) (by kernel_rfl) (by kernel_rfl) (fun _ _ _ h => h) (Or.inl ⟨by rfl, ?_⟩) (by assumption) ?_
          rotate_left
          · intro w hSw
            try dsimp only at hSw
            go_simp
            try with_reducible rfl
          simp only [Act.put, List.setIfInBounds_toArray, List.set_cons_zero, List.set_cons_succ]
          refine wpAnyH_take (i := 2) (v := ?_) rfl (by kernel_rfl) (by kernel_rfl) (by kernel_rfl) (fun _ _ _ h => h) (Or.inl ⟨by rfl, ?_⟩) (by assumption) ?_
          rotate_left
          · intro w hSw
            try dsimp only at hSw
            go_simp
            try with_reducible rfl
          simp only [Act.put, List.setIfInBounds_toArray, List.set_cons_zero, List.set_cons_succ]
          refine wpAnyH_take (i := 3) (v := ?_) rfl (by kernel_rfl) (by kernel_rfl) (by kernel_rfl) (fun _ _ _ h => h) (Or.inl ⟨by rfl, ?_⟩) (by assumption) ?_
          rotate_left
          · intro w hSw
            try dsimp only at hSw
            go_simp
            try with_reducible rfl
          simp only [Act.put, List.setIfInBounds_toArray, List.set_cons_zero, List.set_cons_succ]
          refine wpAnyH_take (i := 4) (v := ?_) rfl (by kernel_rfl) (by kernel_rfl) (by kernel_rfl) (fun _ _ _ h => h) (Or.inl ⟨by rfl, ?_⟩) (by assumption) ?_
          rotate_left
          · intro w hSw
            try dsimp only at hSw
            go_simp
            try with_reducible rfl
          simp only [Act.put, List.setIfInBounds_toArray, List.set_cons_zero, List.set_cons_succ]
          refine wpAnyH_take (i := 5) (v := ?_) rfl (by kernel_rfl) (by kernel_rfl) (by kernel_rfl) (fun _ _ _ h => h) (Or.inl ⟨by rfl, ?_⟩) (by assumption) ?_
          rotate_left
          · intro w hSw
            try dsimp only at hSw
            go_simp
            try with_reducible rfl
          simp only [Act.put, List.setIfInBounds_toArray, List.set_cons_zero, List.set_cons_succ]
          refine wpAnyH_take (i := 6) (v := ?_) rfl (by kernel_rfl) (by kernel_rfl) (by kernel_rfl) (fun _ _ _ h => h) (Or.inl ⟨by rfl, ?_⟩) (by assumption) ?_
          rotate_left
          · intro w hSw
            try dsimp only at hSw
            go_simp
            try with_reducible rfl
          simp only [Act.put, List.setIfInBounds_toArray, List.set_cons_zero, List.set_cons_succ]
          refine wpAnyH_take (i := 7) (v := ?_) rfl (by kernel_rfl) (by kernel_rfl) (by kernel_rfl) (fun _ _ _ h => h) (Or.inl ⟨by rfl, ?_⟩) (by assumption) ?_
          rotate_left
          · intro w hSw
            try dsimp only at hSw
            go_simp
            try with_reducible rfl
          simp only [Act.put, List.setIfInBounds_toArray, List.set_cons_zero, List.set_cons_succ]
          refine wpAnyH_take (i := 11) (v := ?_) rfl (by kernel_rfl) (by kernel_rfl) (by kernel_rfl) (fun _ _ _ h => h) (Or.inl ⟨by rfl, ?_⟩) (by assumption) ?_
          rotate_left
          · intro w hSw
            try dsimp only at hSw
            go_simp
            try with_reducible rfl
          simp only [Act.put, List.setIfInBounds_toArray, List.set_cons_zero, List.set_cons_succ]
          refine wpAnyH_take (i := 12) (v := ?_) rfl (by kernel_rfl) (by kernel_rfl) (by kernel_rfl) (fun _ _ _ h => h) (Or.inl ⟨by rfl, ?_⟩) (by assumption) ?_
          rotate_left
          · intro w hSw
            try dsimp only at hSw
            go_simp
            try with_reducible rfl
          simp only [Act.put, List.setIfInBounds_toArray, List.set_cons_zero, List.set_cons_succ]
          refine wpAnyH_take (i := 13) (v := ?_) rfl (by kernel_rfl) (by kernel_rfl) (by kernel_rfl) (fun _ _ _ h => h) (Or.inl ⟨by rfl, ?_⟩) (by assumption) ?_
          rotate_left
          · intro w hSw
            try dsimp only at hSw
            go_simp
            try with_reducible rfl
          simp only [Act.put, List.setIfInBounds_toArray, List.set_cons_zero, List.set_cons_succ]
          refine wpAnyH_take (i := 14) (v := ?_) rfl (by kernel_rfl) (by kernel_rfl) (by kernel_rfl) (fun _ _ _ h => h) (Or.inl ⟨by rfl, ?_⟩) (by assumption) ?_
          rotate_left
          · intro w hSw
            try dsimp only at hSw
            go_simp
            try with_reducible rfl
          simp only [Act.put, List.setIfInBounds_toArray, List.set_cons_zero, List.set_cons_succ]
          refine wpAnyH_ready (rs := [1, 8]) (by kernel_rfl) (by simp) ?_
          refine AllReadyH.cons rfl (fun K hK => ?_) ?_
          · go_simp
            refine hK.out _ _ ?_ (fun hHeld => ?_)
            · try dsimp only
              (first | (refine HK.out _ ?_; (repeat (first | exact Below.refl _ _ | apply below_alloc | apply below_drew)); done) | (refine HK.out _ (below_step ?_ hbF); (repeat (first | exact Below.refl _ _ | apply below_alloc | apply below_drew)); done))
            · clear hK K
              try simp only [Act.put, List.setIfInBounds_toArray, List.set_cons_zero, List.set_cons_succ]
              refine wpAnyH_ready (rs := [8]) (by kernel_rfl) (by simp) ?_
              refine AllReadyH.cons rfl (fun K hK => ?_) ?_
              · go_simp
                refine hK.out _ _ ?_ (fun hHeld => ?_)
                · try dsimp only
                  (first | (refine HK.out _ ?_; (repeat (first | exact Below.refl _ _ | apply below_alloc | apply below_drew)); done) | (refine HK.out _ (below_step ?_ hbF); (repeat (first | exact Below.refl _ _ | apply below_alloc | apply below_drew)); done))
                · clear hK K
                  try simp only [Act.put, List.setIfInBounds_toArray, List.set_cons_zero, List.set_cons_succ]
                  refine wpAnyH_ready (rs := [9]) (by kernel_rfl) (by simp) ?_
                  refine AllReadyH.cons rfl (fun K hK => ?_) ?_
                  · go_simp
                    refine hK.out _ _ ?_ (fun hHeld => ?_)
                    · try dsimp only
                      (first | (refine HK.out _ ?_; (repeat (first | exact Below.refl _ _ | apply below_alloc | apply below_drew)); done) | (refine HK.out _ (below_step ?_ hbF); (repeat (first | exact Below.refl _ _ | apply below_alloc | apply below_drew)); done))
                    · clear hK K
                      try simp only [Act.put, List.setIfInBounds_toArray, List.set_cons_zero, List.set_cons_succ]
                      refine wpAnyH_take (i := 10) (v := ?_) rfl (by kernel_rfl) (by kernel_rfl) (by kernel_rfl) (fun _ _ _ h => h) (Or.inl ⟨by rfl, ?_⟩) (by assumption) ?_
                      rotate_left
                      · intro w hSw
                        try dsimp only at hSw
                        go_simp
                        try with_reducible rfl
                      simp only [Act.put, List.setIfInBounds_toArray, List.set_cons_zero, List.set_cons_succ]
                      refine wpAnyH_take (i := 15) (v := ?_) rfl (by kernel_rfl) (by kernel_rfl) (by kernel_rfl) (fun _ _ _ h => h) (Or.inl ⟨by rfl, ?_⟩) (by assumption) ?_
                      rotate_left
                      · intro w hSw
                        try dsimp only at hSw
                        go_simp
                        try with_reducible rfl
                      simp only [Act.put, List.setIfInBounds_toArray, List.set_cons_zero, List.set_cons_succ]
                      refine wpAnyH_ready (rs := [16]) (by kernel_rfl) (by simp) ?_
                      refine AllReadyH.cons rfl (fun K hK => ?_) ?_
                      · go_simp
                        refine hK.out _ _ ?_ (fun hHeld => ?_)
                        · try dsimp only
                          (first | (refine HK.out _ ?_; (repeat (first | exact Below.refl _ _ | apply below_alloc | apply below_drew)); done) | (refine HK.out _ (below_step ?_ hbF); (repeat (first | exact Below.refl _ _ | apply below_alloc | apply below_drew)); done))
                        · clear hK K
                          try simp only [Act.put, List.setIfInBounds_toArray, List.set_cons_zero, List.set_cons_succ]
                          refine wpAnyH_ready (rs := [17]) (by kernel_rfl) (by simp) ?_
                          refine AllReadyH.cons rfl (fun K hK => ?_) ?_
                          · go_simp
                            (first | (go_at_call 26; (refine (laws_of.calls k26 _ 1 [(⟨false, f1, f2, f3⟩ : S42)] _ 2 [key, key.extract 0 P ++ strOfNums [IntKind.u8.wrap b] ++ key.extract (P + 1) key.size] [r, r] _ ?C1 (Nat.le_refl _) ?C2 (Nat.le_refl _) ?L E26.out).mono ?_); (case C1 => first | exact C_blk1 (blk_alloc (blk_alloc (blk_new _ _) _) _) (k42_mk _ (⟨false, f1, f2, f3⟩ : S42) hc2 (Kd.C_below H2.out (below_step HB8.out (by repeat (first | exact Below.refl _ _ | apply below_alloc | apply below_drew))))) | exact C_blk1 (blk_alloc (blk1 _ _ _) _) (k42_mk _ (⟨false, f1, f2, f3⟩ : S42) hc2 (Kd.C_below H2.out (below_step HB8.out (by repeat (first | exact Below.refl _ _ | apply below_alloc | apply below_drew))))) | exact C_blk1 (blk2 _ _ _ _) (k42_mk _ (⟨false, f1, f2, f3⟩ : S42) hc2 (Kd.C_below H2.out (below_step HB8.out (by repeat (first | exact Below.refl _ _ | apply below_alloc | apply below_drew)))))); (case C2 => first | exact C_str2 (blk2 _ _ _ _) | exact C_str2 (blk_alloc (blk1 _ _ _) _)); (case L => exact Pi.Laid.below HL.out (below_step HB8.out (by repeat (first | exact Below.refl _ _ | apply below_alloc | apply below_drew)))); rintro e wq ⟨vq, rfl, hv, hbF⟩; obtain ⟨Aq, cq, eq_⟩ := Kd.S_slice hv; subst eq_; have HVQ := Lib.hid hv; have HBQ := Lib.hid (below_step HB8.out (below_step (by repeat (first | exact Below.refl _ _ | apply below_alloc | apply below_drew)) hbF)); clear hv))
                            refine hK.out _ _ ?_ (fun hHeld => ?_)
                            · try dsimp only
                              (first | (refine HK.out _ ?_; (repeat (first | exact Below.refl _ _ | apply below_alloc | apply below_drew)); done) | (refine HK.out _ (below_step ?_ hbF); (repeat (first | exact Below.refl _ _ | apply below_alloc | apply below_drew)); done))
                            · clear hK K
                              try simp only [Act.put, List.setIfInBounds_toArray, List.set_cons_zero, List.set_cons_succ]
                              refine wpAnyH_ready (rs := [18]) (by kernel_rfl) (by simp) ?_
                              refine AllReadyH.cons rfl (fun K hK => ?_) ?_
                              · go_simp
                                refine hK.out _ _ ?_ (fun hHeld => ?_)
                                · try dsimp only
                                  (first | (refine HK.out _ ?_; (repeat (first | exact Below.refl _ _ | apply below_alloc | apply below_drew)); done) | (refine HK.out _ (below_step ?_ hbF); (repeat (first | exact Below.refl _ _ | apply below_alloc | apply below_drew)); done))
                                · clear hK K
                                  try simp only [Act.put, List.setIfInBounds_toArray, List.set_cons_zero, List.set_cons_succ]
                                  refine wpAnyH_done (by kernel_rfl) ?_ _
                                  obtain ⟨adq, B0, f0q, ead0, hx0, hl0, hi0⟩ := at_L8 (Kd.S_reads' HVQ.out).2.2 (0 : Int) (by decide) (by simp)
                                  obtain ⟨adq1, B1, f1q, ead1, hx1, hl1, hi1⟩ := at_L8 (Kd.S_reads' HVQ.out).2.2 (1 : Int) (by decide) (by simp)
                                  subst ead0
                                  obtain rfl : adq = adq1 := Option.some.inj ead1
                                  have e0 : rd_L8 [r, r] (0 : Int) = r := rfl
                                  have e1 : rd_L8 [r, r] (1 : Int) = r := rfl
                                  rw [e0] at hx0 hl0 hi0
                                  rw [e1] at hx1 hl1 hi1
                                  replace hx0 : wq.cell? adq = some (.slice B0 r.length f0q) := hx0
                                  replace hx1 : wq.cell? ⟨adq.block, adq.off + 1, none⟩ = some (.slice B1 r.length f1q) := hx1
                                  have HKQ := Lib.hid (fun (x : World) (hx : Below wq.heap.size wq x) => (show x.cell? adq = some (.slice B0 r.length f0q) ∧ x.cell? ⟨adq.block, adq.off + 1, none⟩ = some (.slice B1 r.length f1q) ∧ Below wq.heap.size wq x from ⟨Go.cell_later hx hx0, Go.cell_later hx hx1, hx⟩))
                                  have HI0 := Lib.hid hi0
                                  have HI1 := Lib.hid hi1
                                  have HL0 := Lib.hid hl0
                                  have HL1 := Lib.hid hl1
                                  clear hx0 hx1 hl0 hl1 hi0 hi1 e0 e1 ead1
                                  go_wp2_with fail
                                  go_region_held3 (fun x => x.cell? adq = some (.slice B0 r.length f0q) ∧ x.cell? ⟨adq.block, adq.off + 1, none⟩ = some (.slice B1 r.length f1q) ∧ Below wq.heap.size wq x) (first | (refine HKQ.out _ ?_; (repeat (first | exact Below.refl _ _ | apply below_drew)); done) | (refine HKQ.out _ (pw_below_drewN ?_ _); (repeat (first | exact Below.refl _ _ | apply below_drew)); done) | (refine HKQ.out _ (below_step (pw_below_drewN ?_ _) hbZ); (repeat (first | exact Below.refl _ _ | apply below_drew)); done)) (first | (go_at_call 35; (refine (laws_sameInts.calls k35 B0 f0q r B1 f1q r true _ (Kd.C_below HI0.out ?D1) HL0.out (Kd.C_below HI1.out ?D1) HL1.out E35.out).mono ?_); (case D1 => (repeat (first | exact Below.refl _ _ | apply below_drew)); done); rintro e w77 ⟨rfl, ⟨nd, rfl⟩⟩) | (go_at_call 16; (refine (laws_triesWork.calls 0 true _ (Pi.Laid.below HL.out (below_step HBQ.out (pw_below_drewN ?D2 _))) rfl).mono ?_); (case D2 => (repeat (first | exact Below.refl _ _ | apply below_drew)); done); rintro e wz ⟨rfl, hbZ⟩))
                                  go_wp2_with fail
                                  go_ret
                                  exact ⟨rfl, below_step HBQ.out (below_step (pw_below_drewN (by repeat (first | exact Below.refl _ _ | apply below_drew)) _) hbZ)⟩
                              exact AllReadyH.nil
                          exact AllReadyH.nil
                      exact AllReadyH.nil
                  exact AllReadyH.nil
              exact AllReadyH.nil
          refine AllReadyH.cons rfl (fun K hK => ?_) ?_
          · go_simp
            refine hK.out _ _ ?_ (fun hHeld => ?_)
            · try dsimp only
              (first | (refine HK.out _ ?_; (repeat (first | exact Below.refl _ _ | apply below_alloc | apply below_drew)); done) | (refine HK.out _ (below_step ?_ hbF); (repeat (first | exact Below.refl _ _ | apply below_alloc | apply below_drew)); done))
            · clear hK K
              try simp only [Act.put, List.setIfInBounds_toArray, List.set_cons_zero, List.set_cons_succ]
              refine wpAnyH_ready (rs := [1, 9]) (by kernel_rfl) (by simp) ?_
              refine AllReadyH.cons rfl (fun K hK => ?_) ?_
              · go_simp
                refine hK.out _ _ ?_ (fun hHeld => ?_)
                · try dsimp only
                  (first | (refine HK.out _ ?_; (repeat (first | exact Below.refl _ _ | apply below_alloc | apply below_drew)); done) | (refine HK.out _ (below_step ?_ hbF); (repeat (first | exact Below.refl _ _ | apply below_alloc | apply below_drew)); done))
                · clear hK K
                  try simp only [Act.put, List.setIfInBounds_toArray, List.set_cons_zero, List.set_cons_succ]
                  refine wpAnyH_ready (rs := [9]) (by kernel_rfl) (by simp) ?_
                  refine AllReadyH.cons rfl (fun K hK => ?_) ?_
                  · go_simp
                    refine hK.out _ _ ?_ (fun hHeld => ?_)
                    · try dsimp only
                      (first | (refine HK.out _ ?_; (repeat (first | exact Below.refl _ _ | apply below_alloc | apply below_drew)); done) | (refine HK.out _ (below_step ?_ hbF); (repeat (first | exact Below.refl _ _ | apply below_alloc | apply below_drew)); done))
                    · clear hK K
                      try simp only [Act.put, List.setIfInBounds_toArray, List.set_cons_zero, List.set_cons_succ]
                      refine wpAnyH_take (i := 10) (v := ?_) rfl (by kernel_rfl) (by kernel_rfl) (by kernel_rfl) (fun _ _ _ h => h) (Or.inl ⟨by rfl, ?_⟩) (by assumption) ?_
                      rotate_left
                      · intro w hSw
                        try dsimp only at hSw
                        go_simp
                        try with_reducible rfl
                      simp only [Act.put, List.setIfInBounds_toArray, List.set_cons_zero, List.set_cons_succ]
                      refine wpAnyH_take (i := 15) (v := ?_) rfl (by kernel_rfl) (by kernel_rfl) (by kernel_rfl) (fun _ _ _ h => h) (Or.inl ⟨by rfl, ?_⟩) (by assumption) ?_
                      rotate_left
                      · intro w hSw
                        try dsimp only at hSw
                        go_simp
                        try with_reducible rfl
                      simp only [Act.put, List.setIfInBounds_toArray, List.set_cons_zero, List.set_cons_succ]
                      refine wpAnyH_ready (rs := [16]) (by kernel_rfl) (by simp) ?_
                      refine AllReadyH.cons rfl (fun K hK => ?_) ?_
                      · go_simp
                        refine hK.out _ _ ?_ (fun hHeld => ?_)
                        · try dsimp only
                          (first | (refine HK.out _ ?_; (repeat (first | exact Below.refl _ _ | apply below_alloc | apply below_drew)); done) | (refine HK.out _ (below_step ?_ hbF); (repeat (first | exact Below.refl _ _ | apply below_alloc | apply below_drew)); done))
                        · clear hK K
                          try simp only [Act.put, List.setIfInBounds_toArray, List.set_cons_zero, List.set_cons_succ]
                          refine wpAnyH_ready (rs := [17]) (by kernel_rfl) (by simp) ?_
                          refine AllReadyH.cons rfl (fun K hK => ?_) ?_
                          · go_simp
                            (first | (go_at_call 26; (refine (laws_of.calls k26 _ 1 [(⟨false, f1, f2, f3⟩ : S42)] _ 2 [key, key.extract 0 P ++ strOfNums [IntKind.u8.wrap b] ++ key.extract (P + 1) key.size] [r, r] _ ?C1 (Nat.le_refl _) ?C2 (Nat.le_refl _) ?L E26.out).mono ?_); (case C1 => first | exact C_blk1 (blk_alloc (blk_alloc (blk_new _ _) _) _) (k42_mk _ (⟨false, f1, f2, f3⟩ : S42) hc2 (Kd.C_below H2.out (below_step HB8.out (by repeat (first | exact Below.refl _ _ | apply below_alloc | apply below_drew))))) | exact C_blk1 (blk_alloc (blk1 _ _ _) _) (k42_mk _ (⟨false, f1, f2, f3⟩ : S42) hc2 (Kd.C_below H2.out (below_step HB8.out (by repeat (first | exact Below.refl _ _ | apply below_alloc | apply below_drew))))) | exact C_blk1 (blk2 _ _ _ _) (k42_mk _ (⟨false, f1, f2, f3⟩ : S42) hc2 (Kd.C_below H2.out (below_step HB8.out (by repeat (first | exact Below.refl _ _ | apply below_alloc | apply below_drew)))))); (case C2 => first | exact C_str2 (blk2 _ _ _ _) | exact C_str2 (blk_alloc (blk1 _ _ _) _)); (case L => exact Pi.Laid.below HL.out (below_step HB8.out (by repeat (first | exact Below.refl _ _ | apply below_alloc | apply below_drew)))); rintro e wq ⟨vq, rfl, hv, hbF⟩; obtain ⟨Aq, cq, eq_⟩ := Kd.S_slice hv; subst eq_; have HVQ := Lib.hid hv; have HBQ := Lib.hid (below_step HB8.out (below_step (by repeat (first | exact Below.refl _ _ | apply below_alloc | apply below_drew)) hbF)); clear hv))
                            refine hK.out _ _ ?_ (fun hHeld => ?_)
                            · try dsimp only
                              (first | (refine HK.out _ ?_; (repeat (first | exact Below.refl _ _ | apply below_alloc | apply below_drew)); done) | (refine HK.out _ (below_step ?_ hbF); (repeat (first | exact Below.refl _ _ | apply below_alloc | apply below_drew)); done))
                            · clear hK K
                              try simp only [Act.put, List.setIfInBounds_toArray, List.set_cons_zero, List.set_cons_succ]
                              refine wpAnyH_ready (rs := [18]) (by kernel_rfl) (by simp) ?_
                              refine AllReadyH.cons rfl (fun K hK => ?_) ?_
                              · go_simp
                                refine hK.out _ _ ?_ (fun hHeld => ?_)
                                · try dsimp only
                                  (first | (refine HK.out _ ?_; (repeat (first | exact Below.refl _ _ | apply below_alloc | apply below_drew)); done) | (refine HK.out _ (below_step ?_ hbF); (repeat (first | exact Below.refl _ _ | apply below_alloc | apply below_drew)); done))
                                · clear hK K
                                  try simp only [Act.put, List.setIfInBounds_toArray, List.set_cons_zero, List.set_cons_succ]
                                  refine wpAnyH_done (by kernel_rfl) ?_ _
                                  obtain ⟨adq, B0, f0q, ead0, hx0, hl0, hi0⟩ := at_L8 (Kd.S_reads' HVQ.out).2.2 (0 : Int) (by decide) (by simp)
                                  obtain ⟨adq1, B1, f1q, ead1, hx1, hl1, hi1⟩ := at_L8 (Kd.S_reads' HVQ.out).2.2 (1 : Int) (by decide) (by simp)
                                  subst ead0
                                  obtain rfl : adq = adq1 := Option.some.inj ead1
                                  have e0 : rd_L8 [r, r] (0 : Int) = r := rfl
                                  have e1 : rd_L8 [r, r] (1 : Int) = r := rfl
                                  rw [e0] at hx0 hl0 hi0
                                  rw [e1] at hx1 hl1 hi1
                                  replace hx0 : wq.cell? adq = some (.slice B0 r.length f0q) := hx0
                                  replace hx1 : wq.cell? ⟨adq.block, adq.off + 1, none⟩ = some (.slice B1 r.length f1q) := hx1
                                  have HKQ := Lib.hid (fun (x : World) (hx : Below wq.heap.size wq x) => (show x.cell? adq = some (.slice B0 r.length f0q) ∧ x.cell? ⟨adq.block, adq.off + 1, none⟩ = some (.slice B1 r.length f1q) ∧ Below wq.heap.size wq x from ⟨Go.cell_later hx hx0, Go.cell_later hx hx1, hx⟩))
                                  have HI0 := Lib.hid hi0
                                  have HI1 := Lib.hid hi1
                                  have HL0 := Lib.hid hl0
                                  have HL1 := Lib.hid hl1
                                  clear hx0 hx1 hl0 hl1 hi0 hi1 e0 e1 ead1
                                  go_wp2_with fail
                                  go_region_held3 (fun x => x.cell? adq = some (.slice B0 r.length f0q) ∧ x.cell? ⟨adq.block, adq.off + 1, none⟩ = some (.slice B1 r.length f1q) ∧ Below wq.heap.size wq x) (first | (refine HKQ.out _ ?_; (repeat (first | exact Below.refl _ _ | apply below_drew)); done) | (refine HKQ.out _ (pw_below_drewN ?_ _); (repeat (first | exact Below.refl _ _ | apply below_drew)); done) | (refine HKQ.out _ (below_step (pw_below_drewN ?_ _) hbZ); (repeat (first | exact Below.refl _ _ | apply below_drew)); done)) (first | (go_at_call 35; (refine (laws_sameInts.calls k35 B0 f0q r B1 f1q r true _ (Kd.C_below HI0.out ?D1) HL0.out (Kd.C_below HI1.out ?D1) HL1.out E35.out).mono ?_); (case D1 => (repeat (first | exact Below.refl _ _ | apply below_drew)); done); rintro e w77 ⟨rfl, ⟨nd, rfl⟩⟩) | (go_at_call 16; (refine (laws_triesWork.calls 0 true _ (Pi.Laid.below HL.out (below_step HBQ.out (pw_below_drewN ?D2 _))) rfl).mono ?_); (case D2 => (repeat (first | exact Below.refl _ _ | apply below_drew)); done); rintro e wz ⟨rfl, hbZ⟩))
                                  go_wp2_with fail
                                  go_ret
                                  exact ⟨rfl, below_step HBQ.out (below_step (pw_below_drewN (by repeat (first | exact Below.refl _ _ | apply below_drew)) _) hbZ)⟩
                              exact AllReadyH.nil
                          exact AllReadyH.nil
                      exact AllReadyH.nil
                  exact AllReadyH.nil
              refine AllReadyH.cons rfl (fun K hK => ?_) ?_
              · go_simp
                refine hK.out _ _ ?_ (fun hHeld => ?_)
                · try dsimp only
                  (first | (refine HK.out _ ?_; (repeat (first | exact Below.refl _ _ | apply below_alloc | apply below_drew)); done) | (refine HK.out _ (below_step ?_ hbF); (repeat (first | exact Below.refl _ _ | apply below_alloc | apply below_drew)); done))
                · clear hK K
                  try simp only [Act.put, List.setIfInBounds_toArray, List.set_cons_zero, List.set_cons_succ]
                  refine wpAnyH_take (i := 10) (v := ?_) rfl (by kernel_rfl) (by kernel_rfl) (by kernel_rfl) (fun _ _ _ h => h) (Or.inl ⟨by rfl, ?_⟩) (by assumption) ?_
                  rotate_left
                  · intro w hSw
                    try dsimp only at hSw
                    go_simp
                    try with_reducible rfl
                  simp only [Act.put, List.setIfInBounds_toArray, List.set_cons_zero, List.set_cons_succ]
                  refine wpAnyH_take (i := 15) (v := ?_) rfl (by kernel_rfl) (by kernel_rfl) (by kernel_rfl) (fun _ _ _ h => h) (Or.inl ⟨by rfl, ?_⟩) (by assumption) ?_
                  rotate_left
                  · intro w hSw
                    try dsimp only at hSw
                    go_simp
                    try with_reducible rfl
                  simp only [Act.put, List.setIfInBounds_toArray, List.set_cons_zero, List.set_cons_succ]
                  refine wpAnyH_ready (rs := [1, 16]) (by kernel_rfl) (by simp) ?_
                  refine AllReadyH.cons rfl (fun K hK => ?_) ?_
                  · go_simp
                    refine hK.out _ _ ?_ (fun hHeld => ?_)
                    · try dsimp only
                      (first | (refine HK.out _ ?_; (repeat (first | exact Below.refl _ _ | apply below_alloc | apply below_drew)); done) | (refine HK.out _ (below_step ?_ hbF); (repeat (first | exact Below.refl _ _ | apply below_alloc | apply below_drew)); done))
                    · clear hK K
                      try simp only [Act.put, List.setIfInBounds_toArray, List.set_cons_zero, List.set_cons_succ]
                      refine wpAnyH_ready (rs := [16]) (by kernel_rfl) (by simp) ?_
                      refine AllReadyH.cons rfl (fun K hK => ?_) ?_
                      · go_simp
                        refine hK.out _ _ ?_ (fun hHeld => ?_)
                        · try dsimp only
                          (first | (refine HK.out _ ?_; (repeat (first | exact Below.refl _ _ | apply below_alloc | apply below_drew)); done) | (refine HK.out _ (below_step ?_ hbF); (repeat (first | exact Below.refl _ _ | apply below_alloc | apply below_drew)); done))
                        · clear hK K
                          try simp only [Act.put, List.setIfInBounds_toArray, List.set_cons_zero, List.set_cons_succ]
                          refine wpAnyH_ready (rs := [17]) (by kernel_rfl) (by simp) ?_
                          refine AllReadyH.cons rfl (fun K hK => ?_) ?_
                          · go_simp
                            (first | (go_at_call 26; (refine (laws_of.calls k26 _ 1 [(⟨false, f1, f2, f3⟩ : S42)] _ 2 [key, key.extract 0 P ++ strOfNums [IntKind.u8.wrap b] ++ key.extract (P + 1) key.size] [r, r] _ ?C1 (Nat.le_refl _) ?C2 (Nat.le_refl _) ?L E26.out).mono ?_); (case C1 => first | exact C_blk1 (blk_alloc (blk_alloc (blk_new _ _) _) _) (k42_mk _ (⟨false, f1, f2, f3⟩ : S42) hc2 (Kd.C_below H2.out (below_step HB8.out (by repeat (first | exact Below.refl _ _ | apply below_alloc | apply below_drew))))) | exact C_blk1 (blk_alloc (blk1 _ _ _) _) (k42_mk _ (⟨false, f1, f2, f3⟩ : S42) hc2 (Kd.C_below H2.out (below_step HB8.out (by repeat (first | exact Below.refl _ _ | apply below_alloc | apply below_drew))))) | exact C_blk1 (blk2 _ _ _ _) (k42_mk _ (⟨false, f1, f2, f3⟩ : S42) hc2 (Kd.C_below H2.out (below_step HB8.out (by repeat (first | exact Below.refl _ _ | apply below_alloc | apply below_drew)))))); (case C2 => first | exact C_str2 (blk2 _ _ _ _) | exact C_str2 (blk_alloc (blk1 _ _ _) _)); (case L => exact Pi.Laid.below HL.out (below_step HB8.out (by repeat (first | exact Below.refl _ _ | apply below_alloc | apply below_drew)))); rintro e wq ⟨vq, rfl, hv, hbF⟩; obtain ⟨Aq, cq, eq_⟩ := Kd.S_slice hv; subst eq_; have HVQ := Lib.hid hv; have HBQ := Lib.hid (below_step HB8.out (below_step (by repeat (first | exact Below.refl _ _ | apply below_alloc | apply below_drew)) hbF)); clear hv))
                            refine hK.out _ _ ?_ (fun hHeld => ?_)
                            · try dsimp only
                              (first | (refine HK.out _ ?_; (repeat (first | exact Below.refl _ _ | apply below_alloc | apply below_drew)); done) | (refine HK.out _ (below_step ?_ hbF); (repeat (first | exact Below.refl _ _ | apply below_alloc | apply below_drew)); done))
                            · clear hK K
                              try simp only [Act.put, List.setIfInBounds_toArray, List.set_cons_zero, List.set_cons_succ]
                              refine wpAnyH_ready (rs := [18]) (by kernel_rfl) (by simp) ?_
                              refine AllReadyH.cons rfl (fun K hK => ?_) ?_
                              · go_simp
                                refine hK.out _ _ ?_ (fun hHeld => ?_)
                                · try dsimp only
                                  (first | (refine HK.out _ ?_; (repeat (first | exact Below.refl _ _ | apply below_alloc | apply below_drew)); done) | (refine HK.out _ (below_step ?_ hbF); (repeat (first | exact Below.refl _ _ | apply below_alloc | apply below_drew)); done))
                                · clear hK K
                                  try simp only [Act.put, List.setIfInBounds_toArray, List.set_cons_zero, List.set_cons_succ]
                                  refine wpAnyH_done (by kernel_rfl) ?_ _
                                  obtain ⟨adq, B0, f0q, ead0, hx0, hl0, hi0⟩ := at_L8 (Kd.S_reads' HVQ.out).2.2 (0 : Int) (by decide) (by simp)
                                  obtain ⟨adq1, B1, f1q, ead1, hx1, hl1, hi1⟩ := at_L8 (Kd.S_reads' HVQ.out).2.2 (1 : Int) (by decide) (by simp)
                                  subst ead0
                                  obtain rfl : adq = adq1 := Option.some.inj ead1
                                  have e0 : rd_L8 [r, r] (0 : Int) = r := rfl
                                  have e1 : rd_L8 [r, r] (1 : Int) = r := rfl
                                  rw [e0] at hx0 hl0 hi0
                                  rw [e1] at hx1 hl1 hi1
                                  replace hx0 : wq.cell? adq = some (.slice B0 r.length f0q) := hx0
                                  replace hx1 : wq.cell? ⟨adq.block, adq.off + 1, none⟩ = some (.slice B1 r.length f1q) := hx1
                                  have HKQ := Lib.hid (fun (x : World) (hx : Below wq.heap.size wq x) => (show x.cell? adq = some (.slice B0 r.length f0q) ∧ x.cell? ⟨adq.block, adq.off + 1, none⟩ = some (.slice B1 r.length f1q) ∧ Below wq.heap.size wq x from ⟨Go.cell_later hx hx0, Go.cell_later hx hx1, hx⟩))
                                  have HI0 := Lib.hid hi0
                                  have HI1 := Lib.hid hi1
                                  have HL0 := Lib.hid hl0
                                  have HL1 := Lib.hid hl1
                                  clear hx0 hx1 hl0 hl1 hi0 hi1 e0 e1 ead1
                                  go_wp2_with fail
                                  go_region_held3 (fun x => x.cell? adq = some (.slice B0 r.length f0q) ∧ x.cell? ⟨adq.block, adq.off + 1, none⟩ = some (.slice B1 r.length f1q) ∧ Below wq.heap.size wq x) (first | (refine HKQ.out _ ?_; (repeat (first | exact Below.refl _ _ | apply below_drew)); done) | (refine HKQ.out _ (pw_below_drewN ?_ _); (repeat (first | exact Below.refl _ _ | apply below_drew)); done) | (refine HKQ.out _ (below_step (pw_below_drewN ?_ _) hbZ); (repeat (first | exact Below.refl _ _ | apply below_drew)); done)) (first | (go_at_call 35; (refine (laws_sameInts.calls k35 B0 f0q r B1 f1q r true _ (Kd.C_below HI0.out ?D1) HL0.out (Kd.C_below HI1.out ?D1) HL1.out E35.out).mono ?_); (case D1 => (repeat (first | exact Below.refl _ _ | apply below_drew)); done); rintro e w77 ⟨rfl, ⟨nd, rfl⟩⟩) | (go_at_call 16; (refine (laws_triesWork.calls 0 true _ (Pi.Laid.below HL.out (below_step HBQ.out (pw_below_drewN ?D2 _))) rfl).mono ?_); (case D2 => (repeat (first | exact Below.refl _ _ | apply below_drew)); done); rintro e wz ⟨rfl, hbZ⟩))
                                  go_wp2_with fail
                                  go_ret
                                  exact ⟨rfl, below_step HBQ.out (below_step (pw_below_drewN (by repeat (first | exact Below.refl _ _ | apply below_drew)) _) hbZ)⟩
                              exact AllReadyH.nil
                          exact AllReadyH.nil
                      exact AllReadyH.nil
                  refine AllReadyH.cons rfl (fun K hK => ?_) ?_
                  · go_simp
                    refine hK.out _ _ ?_ (fun hHeld => ?_)
                    · try dsimp only
                      (first | (refine HK.out _ ?_; (repeat (first | exact Below.refl _ _ | apply below_alloc | apply below_drew)); done) | (refine HK.out _ (below_step ?_ hbF); (repeat (first | exact Below.refl _ _ | apply below_alloc | apply below_drew)); done))
                    · clear hK K
                      try simp only [Act.put, List.setIfInBounds_toArray, List.set_cons_zero, List.set_cons_succ]
                      refine wpAnyH_ready (rs := [1]) (by kernel_rfl) (by simp) ?_
                      refine AllReadyH.cons rfl (fun K hK => ?_) ?_
                      · go_simp
                        refine hK.out _ _ ?_ (fun hHeld => ?_)
                        · try dsimp only
                          (first | (refine HK.out _ ?_; (repeat (first | exact Below.refl _ _ | apply below_alloc | apply below_drew)); done) | (refine HK.out _ (below_step ?_ hbF); (repeat (first | exact Below.refl _ _ | apply below_alloc | apply below_drew)); done))
                        · clear hK K
                          try simp only [Act.put, List.setIfInBounds_toArray, List.set_cons_zero, List.set_cons_succ]
                          refine wpAnyH_ready (rs := [17]) (by kernel_rfl) (by simp) ?_
                          refine AllReadyH.cons rfl (fun K hK => ?_) ?_
                          · go_simp
                            (first | (go_at_call 26; (refine (laws_of.calls k26 _ 1 [(⟨false, f1, f2, f3⟩ : S42)] _ 2 [key, key.extract 0 P ++ strOfNums [IntKind.u8.wrap b] ++ key.extract (P + 1) key.size] [r, r] _ ?C1 (Nat.le_refl _) ?C2 (Nat.le_refl _) ?L E26.out).mono ?_); (case C1 => first | exact C_blk1 (blk_alloc (blk_alloc (blk_new _ _) _) _) (k42_mk _ (⟨false, f1, f2, f3⟩ : S42) hc2 (Kd.C_below H2.out (below_step HB8.out (by repeat (first | exact Below.refl _ _ | apply below_alloc | apply below_drew))))) | exact C_blk1 (blk_alloc (blk1 _ _ _) _) (k42_mk _ (⟨false, f1, f2, f3⟩ : S42) hc2 (Kd.C_below H2.out (below_step HB8.out (by repeat (first | exact Below.refl _ _ | apply below_alloc | apply below_drew))))) | exact C_blk1 (blk2 _ _ _ _) (k42_mk _ (⟨false, f1, f2, f3⟩ : S42) hc2 (Kd.C_below H2.out (below_step HB8.out (by repeat (first | exact Below.refl _ _ | apply below_alloc | apply below_drew)))))); (case C2 => first | exact C_str2 (blk2 _ _ _ _) | exact C_str2 (blk_alloc (blk1 _ _ _) _)); (case L => exact Pi.Laid.below HL.out (below_step HB8.out (by repeat (first | exact Below.refl _ _ | apply below_alloc | apply below_drew)))); rintro e wq ⟨vq, rfl, hv, hbF⟩; obtain ⟨Aq, cq, eq_⟩ := Kd.S_slice hv; subst eq_; have HVQ := Lib.hid hv; have HBQ := Lib.hid (below_step HB8.out (below_step (by repeat (first | exact Below.refl _ _ | apply below_alloc | apply below_drew)) hbF)); clear hv))
                            refine hK.out _ _ ?_ (fun hHeld => ?_)
                            · try dsimp only
                              (first | (refine HK.out _ ?_; (repeat (first | exact Below.refl _ _ | apply below_alloc | apply below_drew)); done) | (refine HK.out _ (below_step ?_ hbF); (repeat (first | exact Below.refl _ _ | apply below_alloc | apply below_drew)); done))
                            · clear hK K
                              try simp only [Act.put, List.setIfInBounds_toArray, List.set_cons_zero, List.set_cons_succ]
                              refine wpAnyH_ready (rs := [18]) (by kernel_rfl) (by simp) ?_
                              refine AllReadyH.cons rfl (fun K hK => ?_) ?_
                              · go_simp
                                refine hK.out _ _ ?_ (fun hHeld => ?_)
                                · try dsimp only
                                  (first | (refine HK.out _ ?_; (repeat (first | exact Below.refl _ _ | apply below_alloc | apply below_drew)); done) | (refine HK.out _ (below_step ?_ hbF); (repeat (first | exact Below.refl _ _ | apply below_alloc | apply below_drew)); done))
                                · clear hK K
                                  try simp only [Act.put, List.setIfInBounds_toArray, List.set_cons_zero, List.set_cons_succ]
                                  refine wpAnyH_done (by kernel_rfl) ?_ _
                                  obtain ⟨adq, B0, f0q, ead0, hx0, hl0, hi0⟩ := at_L8 (Kd.S_reads' HVQ.out).2.2 (0 : Int) (by decide) (by simp)
                                  obtain ⟨adq1, B1, f1q, ead1, hx1, hl1, hi1⟩ := at_L8 (Kd.S_reads' HVQ.out).2.2 (1 : Int) (by decide) (by simp)
                                  subst ead0
                                  obtain rfl : adq = adq1 := Option.some.inj ead1
                                  have e0 : rd_L8 [r, r] (0 : Int) = r := rfl
                                  have e1 : rd_L8 [r, r] (1 : Int) = r := rfl
                                  rw [e0] at hx0 hl0 hi0
                                  rw [e1] at hx1 hl1 hi1
                                  replace hx0 : wq.cell? adq = some (.slice B0 r.length f0q) := hx0
                                  replace hx1 : wq.cell? ⟨adq.block, adq.off + 1, none⟩ = some (.slice B1 r.length f1q) := hx1
                                  have HKQ := Lib.hid (fun (x : World) (hx : Below wq.heap.size wq x) => (show x.cell? adq = some (.slice B0 r.length f0q) ∧ x.cell? ⟨adq.block, adq.off + 1, none⟩ = some (.slice B1 r.length f1q) ∧ Below wq.heap.size wq x from ⟨Go.cell_later hx hx0, Go.cell_later hx hx1, hx⟩))
                                  have HI0 := Lib.hid hi0
                                  have HI1 := Lib.hid hi1
                                  have HL0 := Lib.hid hl0
                                  have HL1 := Lib.hid hl1
                                  clear hx0 hx1 hl0 hl1 hi0 hi1 e0 e1 ead1
                                  go_wp2_with fail
                                  go_region_held3 (fun x => x.cell? adq = some (.slice B0 r.length f0q) ∧ x.cell? ⟨adq.block, adq.off + 1, none⟩ = some (.slice B1 r.length f1q) ∧ Below wq.heap.size wq x) (first | (refine HKQ.out _ ?_; (repeat (first | exact Below.refl _ _ | apply below_drew)); done) | (refine HKQ.out _ (pw_below_drewN ?_ _); (repeat (first | exact Below.refl _ _ | apply below_drew)); done) | (refine HKQ.out _ (below_step (pw_below_drewN ?_ _) hbZ); (repeat (first | exact Below.refl _ _ | apply below_drew)); done)) (first | (go_at_call 35; (refine (laws_sameInts.calls k35 B0 f0q r B1 f1q r true _ (Kd.C_below HI0.out ?D1) HL0.out (Kd.C_below HI1.out ?D1) HL1.out E35.out).mono ?_); (case D1 => (repeat (first | exact Below.refl _ _ | apply below_drew)); done); rintro e w77 ⟨rfl, ⟨nd, rfl⟩⟩) | (go_at_call 16; (refine (laws_triesWork.calls 0 true _ (Pi.Laid.below HL.out (below_step HBQ.out (pw_below_drewN ?D2 _))) rfl).mono ?_); (case D2 => (repeat (first | exact Below.refl _ _ | apply below_drew)); done); rintro e wz ⟨rfl, hbZ⟩))
                                  go_wp2_with fail
                                  go_ret
                                  exact ⟨rfl, below_step HBQ.out (below_step (pw_below_drewN (by repeat (first | exact Below.refl _ _ | apply below_drew)) _) hbZ)⟩
                              exact AllReadyH.nil
                          exact AllReadyH.nil
                      exact AllReadyH.nil
                  exact AllReadyH.nil
              exact AllReadyH.nil
          exact AllReadyH.nil
end Go.Proofs.YtnoolgbbpekomaaGreatDoor.Wj
