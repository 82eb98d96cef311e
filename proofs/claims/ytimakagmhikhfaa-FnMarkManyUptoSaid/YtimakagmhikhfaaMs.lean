/- The methods of a water mark, each by what it makes of the mark. -/
import Derived.Test.YtimakagmhikhfaaPr
namespace Go.Proofs.Ytimakagmhikhfaa.Ms
open Go.RowKit Go.Proofs.YtimakagmhikhfaaW.PrintWords Go.Proofs.YtimakagmhikhfaaW.PrintLast Go.Proofs.YtimakagmhikhfaaW.PrintMore Go.Proofs.Ytimakagmhikhfaa.Mk Go.Proofs.Ytimakagmhikhfaa.Fr Go.Proofs.Ytimakagmhikhfaa.Hp Go.Proofs.Ytimakagmhikhfaa.Wt Go.Proofs.Ytimakagmhikhfaa.Px Go.Proofs.Ytimakagmhikhfaa.Po Go.Proofs.Ytimakagmhikhfaa.Pr
set_option linter.unusedVariables false
set_option linter.unusedSimpArgs false
/-- A water mark in memory: its blocks lie in T. -/
def St (w : World) (T : Nat → Prop) (wb : Nat) (σ : Wat) (ws : Wl) : Prop :=
  ∃ pb qb nm v hs l es ck, SX w T wb pb qb nm v hs l σ.till σ.last ws (fun i => decide (i ≤ σ.till)) es ck ∧ Rep σ.pend l hs ∧ ∀ k, T k → k < w.heap.size
/-- What a method leaves. -/
def Left (w : World) (T : Nat → Prop) (wb : Nat) (σ : Wat) (ws : Wl) (w' : World) : Prop :=
  ∃ T2, St w' T2 wb σ ws ∧ (∀ k, T2 k → T k ∨ w.heap.size ≤ k ∨ ∃ p ∈ ws, p.2 = k) ∧ Kp w w' T
theorem process_left {w : World} {T : Nat → Prop} {wb : Nat} {σ : Wat} {ws : Wl} (h : St w T wb σ ws) (i : Int) (wp A1 : Option Addr) (m1 k1 : Nat) (dn : Bool) (d : Int) (σ2 : Wat) (ws2 : Wl) (hd : (if dn then (-1 : Int) else 1) = d)
    (hj : Job w T σ ws i wp A1 m1 k1 dn d σ2 ws2) (hlast : σ2.last = σ.last) :
    Calls Try.prog 38 #[ptr wb, .agg #[.int .u64 i, .pointer wp, .slice A1 m1 k1, .bool dn]] w fun e w' => e = .returned (.tuple #[]) ∧ Left w T wb σ2 ws2 w' := by
  obtain ⟨pb, qb, nm, v, hs, l, es, ck, hX, hR, hT⟩ := h
  refine (process_calls w T wb pb qb nm v hs l σ.pend σ.till σ.last ws es ck i wp A1 m1 k1 dn d σ2 ws2 hd hX hR hT hj).mono ?_
  rintro e w' ⟨rfl, T2, v2, hs2, l2, es2, ck2, hX2, hR2, hT2, hS2, hK2⟩
  refine ⟨rfl, T2, ⟨pb, qb, nm, v2, hs2, l2, es2, ck2, ?_, hR2, hT2⟩, hS2, hK2⟩
  rw [hlast]
  exact hX2
theorem SX.cell {w : World} {T : Nat → Prop} {wb pb qb : Nat} {nm v : Value} {hs : List Int} {l : List (Int × Int)} {till last : Int} {ws : Wl} {D : Int → Bool} {es : List Ent} {ck : Nat} (h : SX w T wb pb qb nm v hs l till last ws D es ck) :
    w.cell? ⟨wb, 0, none⟩ = some (.int .u64 till) ∧ w.cell? ⟨wb, 1, none⟩ = some (.int .u64 last) ∧ w.cell? ⟨wb, 4, none⟩ = some (.map (some pb)) ∧ w.cell? ⟨wb, 5, none⟩ = some (.map (some qb)) ∧ w.frozen? ⟨wb, 0, none⟩ = false ∧ w.frozen? ⟨wb, 1, none⟩ = false :=
  ⟨blk_cell h.hw 0, blk_cell h.hw 1, blk_cell h.hw 4, blk_cell h.hw 5, blk_frozen h.hw 0, blk_frozen h.hw 1⟩
/-- A cell of the mark's own block set anew. -/
theorem SX.setAt {w : World} {T : Nat → Prop} {wb pb qb : Nat} {nm v : Value} {hs : List Int} {l : List (Int × Int)} {till last till2 last2 : Int} {ws : Wl} {D : Int → Bool} {es : List Ent} {ck : Nat} (h : SX w T wb pb qb nm v hs l till last ws D es ck) (j : Nat) (u : Value)
    (he : (#[.int .u64 till, .int .u64 last, nm, v, .map (some pb), .map (some qb)] : Array Value).setIfInBounds j u = #[.int .u64 till2, .int .u64 last2, nm, v, .map (some pb), .map (some qb)]) :
    SX (w.setCell ⟨wb, j, none⟩ u) T wb pb qb nm v hs l till2 last2 ws D es ck := by
  obtain ⟨pes, pck, h1, h2⟩ := h.pm
  have hk : Kp w (w.setCell ⟨wb, j, none⟩ u) (fun k => k = wb) := (Kp.refl w (fun k => k = wb)).setCell (.inl rfl) _
  have ho : Only w (fun k => k = wb) [68] (fun _ => False) := fun k hk => by rw [hk]; exact .inl ⟨_, _, h.hw, by simp⟩
  have hp := blk_put h.hw j u he
  exact ⟨Kd.R_set h.hr h.hw t68 j u, hp, ⟨pes, pck, hk.blk h1 (ho.map h1 (fun h => h)), h2⟩, WRkeep h.wr hk ho (by decide) (by decide) (fun h => h), h.ne, h.tv, h.tw, h.tp⟩
theorem St.setLast {w : World} {T : Nat → Prop} {wb : Nat} {σ : Wat} {ws : Wl} (h : St w T wb σ ws) (i : Int) : St (w.setCell ⟨wb, 1, none⟩ (.int .u64 i)) T wb { σ with last := i } ws := by
  obtain ⟨pb, qb, nm, v, hs, l, es, ck, hX, hR, hT⟩ := h
  exact ⟨pb, qb, nm, v, hs, l, es, ck, SX.setAt hX 1 _ rfl, hR, fun k hk => by simpa using hT k hk⟩
theorem St.setTill {w : World} {T : Nat → Prop} {wb : Nat} {σ : Wat} (h : St w T wb σ []) (i : Int) : St (w.setCell ⟨wb, 0, none⟩ (.int .u64 i)) T wb { σ with till := i } [] := by
  obtain ⟨pb, qb, nm, v, hs, l, es, ck, hX, hR, hT⟩ := h
  have h2 := SX.setAt (till2 := i) hX 0 (.int .u64 i) rfl
  exact ⟨pb, qb, nm, v, hs, l, es, ck, ⟨h2.hr, h2.hw, h2.pm, WRcongr h2.wr (fun p hp => by cases hp), h2.ne, h2.tv, h2.tw, h2.tp⟩, hR, fun k hk => by simpa using hT k hk⟩
theorem St.tw {w : World} {T : Nat → Prop} {wb : Nat} {σ : Wat} {ws : Wl} (h : St w T wb σ ws) : T wb := by
  obtain ⟨pb, qb, nm, v, hs, l, es, ck, hX, hR, hT⟩ := h
  exact hX.tw
theorem Left.of_set {w w1 w' : World} {T : Nat → Prop} {wb : Nat} {σ : Wat} {ws : Wl} (hz : w1.heap.size = w.heap.size) (hk : Kp w w1 T) (h : Left w1 T wb σ ws w') : Left w T wb σ ws w' := by
  obtain ⟨T2, h1, h2, h3⟩ := h
  exact ⟨T2, h1, by rw [hz] at h2; exact h2, hk.trans h3 (fun k h => .inl h)⟩
/-! ### Begin, BeginMany, Done, DoneMany, SetDoneUntil -/
theorem begin_calls {w : World} {T : Nat → Prop} {wb : Nat} {σ : Wat} {ws : Wl} (h : St w T wb σ ws) (i N : Int) (hf : Fine σ.till σ.pend N) (hN0 : 0 ≤ N) (hN : N + 1 ≤ 4611686018427387904) (hi : σ.till < i) (him : i ≤ most) :
    Calls Try.prog 25 #[ptr wb, .int .u64 i] w fun e w' => e = .returned (.tuple #[]) ∧ Left w T wb { σ.add i 1 with last := i } ws w' := by
  have h2 := St.setLast h i
  have htw := St.tw h
  have hp := process_left h2 i none none 0 0 false 1 { σ.add i 1 with last := i } ws rfl (.one (N + 1) rfl rfl rfl rfl rfl rfl (hf.mono (by omega)) (hf.ins_begin hi him hN0) hi him hN) rfl
  obtain ⟨pb, qb, nm, v, hs, l, es, ck, hX, _, _⟩ := h
  obtain ⟨c0, c1, c4, c5, f0, f1⟩ := SX.cell hX
  have HP := Lib.hid hp
  clear h2 hp hX
  simp only [ptr] at *
  go_enter Try.func25, Try.ntmps25
  go_wp2_with fail
  refine HP.out.mono ?_
  rintro e w' ⟨rfl, hl⟩
  have HL := Lib.hid hl
  clear hl
  go_wp2_with fail
  go_end0
  exact ⟨rfl, Left.of_set (by simp) ((Kp.refl w T).setCell (.inl htw) _) HL.out⟩
theorem done_calls {w : World} {T : Nat → Prop} {wb : Nat} {σ : Wat} {ws : Wl} (h : St w T wb σ ws) (i N : Int) (hf : Fine σ.till σ.pend N) (hN : N ≤ 4611686018427387904) (ho : isOpen σ.pend i = true) :
    Calls Try.prog 28 #[ptr wb, .int .u64 i] w fun e w' => e = .returned (.tuple #[]) ∧ Left w T wb (σ.add i (-1)) ws w' := by
  have hi : σ.till < i ∧ i ≤ most := by
    unfold isOpen at ho
    cases hc : cnt i σ.pend with
    | none => rw [hc] at ho; cases ho
    | some c => have := hf.above _ (cnt_some hc); simp only [] at this; omega
  have hp := process_left h i none none 0 0 true (-1) (σ.add i (-1)) ws rfl (.one N rfl rfl rfl rfl rfl rfl hf (hf.ins_done ho) hi.1 hi.2 hN) rfl
  have HP := Lib.hid hp
  clear hp
  simp only [ptr] at *
  go_enter Try.func28, Try.ntmps28
  go_wp2_with fail
  refine HP.out.mono ?_
  rintro e w' ⟨rfl, hl⟩
  have HL := Lib.hid hl
  clear hl
  go_wp2_with fail
  go_end0
  exact ⟨rfl, HL.out⟩
theorem addAll_last (d : Int) : ∀ (xs : List Int) (σ : Wat), (addAll d xs σ).last = σ.last
  | [], _ => rfl
  | x :: t, σ => by rw [addAll, addAll_last d t]; rfl
theorem beginMany_calls {w : World} {T : Nat → Prop} {wb : Nat} {σ : Wat} {ws : Wl} (h : St w T wb σ ws) (xs : List Int) (v : Value) (N : Int) (h0 : 0 < xs.length) (hr : (Kd.int .u64).R 53 w 0 (fun k => ¬ T k) v xs) (hx : OkAll 1 N xs σ) (hN : N ≤ 4611686018427387904) :
    Calls Try.prog 26 #[ptr wb, v] w fun e w' => e = .returned (.tuple #[]) ∧ Left w T wb { addAll 1 xs σ with last := xs.getD (xs.length - 1) 0 } ws w' := by
  obtain ⟨A1, k1, rfl⟩ := Kd.R_slice hr
  obtain ⟨x, hxx⟩ : ∃ x, xs.getD (xs.length - 1) 0 = x := ⟨_, rfl⟩
  rw [hxx]
  have h2 := St.setLast h x
  have htw := St.tw h
  have hall : ∀ (xs : List Int) (σ : Wat) (x : Int), OkAll 1 N xs σ → OkAll 1 N xs { σ with last := x } := by
    intro xs
    induction xs with
    | nil => intros; trivial
    | cons y t ih => rintro σ x ⟨h1, h2, h3, h4, h5⟩; exact ⟨h1, h2, h3, h4, ih _ x h5⟩
  have hadd : ∀ (xs : List Int) (σ : Wat) (x : Int), addAll 1 xs { σ with last := x } = { addAll 1 xs σ with last := x } := by
    intro xs
    induction xs with
    | nil => intros; rfl
    | cons y t ih => intro σ x; exact ih (σ.add y 1) x
  have hm : xs.length ≤ 9223372036854775807 := by
    obtain ⟨_, _, _, _, hr0⟩ := Kd.R_reads hr
    exact Kd.C_max hr0
  have htw2 : Kp w (w.setCell ⟨wb, 1, none⟩ (.int .u64 x)) (fun k => k = wb) := (Kp.refl w (fun k => k = wb)).setCell (.inl rfl) _
  have hp := process_left h2 0 none A1 xs.length k1 false 1 (addAll 1 xs { σ with last := x }) ws rfl (.many xs N rfl rfl rfl rfl rfl h0 (Kd.R_kept hr htw2.kept (fun k hk e => hk (by rw [e]; exact htw))) (hall _ _ _ hx) hN) (addAll_last _ _ _)
  rw [hadd] at hp
  obtain ⟨pb, qb, nm, v, hs, l, es, ck, hX, _, _⟩ := h
  obtain ⟨c0, c1, c4, c5, f0, f1⟩ := SX.cell hX
  obtain ⟨ad, e1, h1⟩ := Kd.at_int (Kd.R_reads' hr).2.2 ((xs.length : Int) - 1) (by omega) (by omega)
  subst e1
  have e2 : rd xs ((xs.length : Int) - 1) = x := by
    rw [← hxx]
    simp only [rd]
    congr 1
    omega
  rw [e2] at h1
  rw [show ((xs.length : Int) - 1).toNat = xs.length - 1 by omega] at h1
  have HP := Lib.hid hp
  clear h2 hp hX hall hadd htw2 hr e2 hxx hx
  simp only [ptr] at *
  go_enter Try.func26, Try.ntmps26
  go_wp2_with fail
  refine HP.out.mono ?_
  rintro e w' ⟨rfl, hl⟩
  have HL := Lib.hid hl
  clear hl
  go_wp2_with fail
  go_end0
  exact ⟨rfl, Left.of_set (by simp) ((Kp.refl w T).setCell (.inl htw) _) HL.out⟩
theorem doneMany_calls {w : World} {T : Nat → Prop} {wb : Nat} {σ : Wat} {ws : Wl} (h : St w T wb σ ws) (xs : List Int) (v : Value) (N : Int) (h0 : 0 < xs.length) (hr : (Kd.int .u64).R 53 w 0 (fun k => ¬ T k) v xs) (hx : OkAll (-1) N xs σ) (hN : N ≤ 4611686018427387904) :
    Calls Try.prog 29 #[ptr wb, v] w fun e w' => e = .returned (.tuple #[]) ∧ Left w T wb (addAll (-1) xs σ) ws w' := by
  obtain ⟨A1, k1, rfl⟩ := Kd.R_slice hr
  have hp := process_left h 0 none A1 xs.length k1 true (-1) (addAll (-1) xs σ) ws rfl (.many xs N rfl rfl rfl rfl rfl h0 hr hx hN) (addAll_last _ _ _)
  have HP := Lib.hid hp
  clear hp
  simp only [ptr] at *
  go_enter Try.func29, Try.ntmps29
  go_wp2_with fail
  refine HP.out.mono ?_
  rintro e w' ⟨rfl, hl⟩
  have HL := Lib.hid hl
  clear hl
  go_wp2_with fail
  go_end0
  exact ⟨rfl, HL.out⟩
theorem set_calls {w : World} {T : Nat → Prop} {wb : Nat} {σ : Wat} (h : St w T wb σ []) (i : Int) :
    Calls Try.prog 30 #[ptr wb, .int .u64 i] w fun e w' => e = .returned (.tuple #[]) ∧ Left w T wb { σ with till := i } [] w' := by
  have h2 := St.setTill h i
  have htw := St.tw h
  obtain ⟨pb, qb, nm, v, hs, l, es, ck, hX, _, hT⟩ := h
  obtain ⟨c0, c1, c4, c5, f0, f1⟩ := SX.cell hX
  have H2 := Lib.hid h2
  clear h2 hX
  simp only [ptr] at *
  go_enter Try.func30, Try.ntmps30
  go_wp2_with fail
  go_end0
  exact ⟨rfl, T, H2.out, fun k h => .inl h, (Kp.refl w T).setCell (.inl htw) _⟩
/-! ### what is told -/
theorem till_calls {w : World} {T : Nat → Prop} {wb : Nat} {σ : Wat} {ws : Wl} (h : St w T wb σ ws) : Calls Try.prog 32 #[ptr wb] w fun e w' => e = .returned (.int .u64 σ.till) ∧ w = w' := by
  obtain ⟨pb, qb, nm, v, hs, l, es, ck, hX, _, hT⟩ := h
  exact until_calls wb σ.till w (SX.cell hX).1
theorem last_calls {w : World} {T : Nat → Prop} {wb : Nat} {σ : Wat} {ws : Wl} (h : St w T wb σ ws) : Calls Try.prog 33 #[ptr wb] w fun e w' => e = .returned (.int .u64 σ.last) ∧ w = w' := by
  obtain ⟨pb, qb, nm, v, hs, l, es, ck, hX, _, hT⟩ := h
  obtain ⟨c0, c1, c4, c5, f0, f1⟩ := SX.cell hX
  clear hX
  simp only [ptr] at *
  go_enter Try.func33, Try.ntmps33
  go_wp2
  go_ret
  exact ⟨rfl, rfl⟩
theorem pending_calls {w : World} {T : Nat → Prop} {wb : Nat} {σ : Wat} {ws : Wl} (h : St w T wb σ ws) : Calls Try.prog 34 #[ptr wb] w fun e w' => e = .returned (.int .i64 σ.pend.length) ∧ w = w' := by
  obtain ⟨pb, qb, nm, v, hs, l, es, ck, hX, hR, hT⟩ := h
  obtain ⟨c0, c1, c4, c5, f0, f1⟩ := SX.cell hX
  obtain ⟨pes, pck, h1, h2⟩ := hX.pm
  have e : pes.length = σ.pend.length := by rw [h2.len, hR.pl.length_eq]
  have H1 := Lib.hid h1
  clear hX h1 h2
  simp only [ptr] at *
  go_enter Try.func34, Try.ntmps34
  go_wp2_with (at_len; refine wpL_len _ rfl _ rfl Try.underlying64 rfl H1.out ?_)
  go_ret
  exact ⟨rfl, rfl⟩
def late (σ : Wat) (ws : Wl) : Nat := (ws.filter fun p => !decide (p.1 ≤ σ.till)).length
theorem sum_zero {i : Int} : ∀ {es : List Ent}, (∀ x ∈ es, x.1 ≠ i) → (es.map fun x => if i == x.1 then 1 else 0).sum = 0
  | [], _ => rfl
  | x :: t, h => by
    have h1 := h x List.mem_cons_self
    have h2 := sum_zero (i := i) (es := t) (fun y hy => h y (List.mem_cons_of_mem _ hy))
    simp [Ne.symm h1]
    simpa using h2
theorem sum_one {i : Int} : ∀ {es : List Ent}, es.Pairwise (fun a b => a.1 ≠ b.1) → (∃ x ∈ es, x.1 = i) → (es.map fun x => if i == x.1 then 1 else 0).sum = 1
  | [], _, h => by obtain ⟨x, hx, _⟩ := h; cases hx
  | x :: t, ho, h => by
    have ⟨o1, o2⟩ := List.pairwise_cons.1 ho
    rw [List.map_cons, List.sum_cons]
    by_cases e : x.1 = i
    · rw [sum_zero (i := i) (es := t) (fun y hy e2 => o1 y hy (by rw [e, e2]))]
      simp [e]
    · have : ∃ y ∈ t, y.1 = i := by
        obtain ⟨y, hy, e2⟩ := h
        rcases List.mem_cons.1 hy with hy | hy
        · subst hy; exact absurd e2 e
        · exact ⟨y, hy, e2⟩
      rw [sum_one o2 this]
      simp [Ne.symm e]
theorem sum_add (f g : Ent → Nat) : ∀ es : List Ent, (es.map fun x => f x + g x).sum = (es.map f).sum + (es.map g).sum
  | [] => rfl
  | x :: t => by simp only [List.map_cons, List.sum_cons, sum_add f g t]; omega
theorem sum_content {D : Int → Bool} {es : List Ent} (ho : es.Pairwise (fun a b => a.1 ≠ b.1)) (hst : ∀ x ∈ es, D x.1 = false) : ∀ ws : Wl, (∀ p ∈ ws, D p.1 = false → ∃ x ∈ es, x.1 = p.1) → (es.map fun x => (content ws x.1).length).sum = (ws.filter fun p => !D p.1).length
  | [], _ => by
    have : (es.map fun x => (content [] x.1).length) = es.map fun _ => 0 := rfl
    rw [this]
    clear ho hst this
    induction es with
    | nil => rfl
    | cons x t ih => rw [List.map_cons, List.sum_cons, ih (fun p hp => by cases hp)]; rfl
  | p :: t, h => by
    have ih := sum_content ho hst t (fun q hq => h q (List.mem_cons_of_mem _ hq))
    have e : (es.map fun x => (content (p :: t) x.1).length) = es.map fun x => (if p.1 == x.1 then 1 else 0) + (content t x.1).length := by
      refine List.map_congr_left (fun x _ => ?_)
      simp only [content, List.filter_cons]
      split <;> simp
      omega
    rw [e, sum_add, ih]
    cases hd : D p.1 with
    | true =>
      rw [sum_zero (fun x hx e2 => by have := hst x hx; rw [e2, hd] at this; cases this)]
      simp [hd]
    | false =>
      rw [sum_one ho (h p List.mem_cons_self hd)]
      simp [hd]
      omega
def left_ (ws : Wl) (es : List Ent) (seen : Array Nat) : Nat := ((es.filter fun x => !seen.contains x.2.2).map fun x => (content ws x.1).length).sum
theorem left_push {ws : Wl} {x : Ent} {seen : Array Nat} (hn : x.2.2 ∉ seen) : ∀ {es : List Ent}, es.Pairwise (fun a b => a.2.2 < b.2.2) → x ∈ es → left_ ws es seen = (content ws x.1).length + left_ ws es (seen.push x.2.2)
  | [], _, h => by cases h
  | y :: t, ho, h => by
    have ⟨o1, o2⟩ := List.pairwise_cons.1 ho
    have keep : ∀ l : List Ent, (∀ z ∈ l, z.2.2 ≠ x.2.2) → (l.filter fun x => !seen.contains x.2.2) = l.filter fun z => !(seen.push x.2.2).contains z.2.2 := by
      intro l hl
      refine List.filter_congr (fun z hz => ?_)
      simp [Array.contains_eq_mem, Array.mem_push, hl z hz]
    rcases List.mem_cons.1 h with h | h
    · subst h
      have k := keep t (fun z hz => by have := o1 z hz; omega)
      simp only [left_, List.filter_cons, k]
      simp [Array.contains_eq_mem, hn]
    · have hne : y.2.2 ≠ x.2.2 := by have := o1 x h; omega
      have ih := left_push (ws := ws) hn o2 h
      simp only [left_] at ih
      simp only [left_, List.filter_cons]
      by_cases hy : y.2.2 ∈ seen
      · simp [Array.contains_eq_mem, hy]
        simpa [Array.contains_eq_mem] using ih
      · simp [Array.contains_eq_mem, hy, hne]
        simp [Array.contains_eq_mem] at ih
        omega
theorem wpL_lenS {P : Program} {ops : Array Oper} {Q : Exit → Act → World → Prop} {o : Oper} {rest : List Oper} {a : Act} {t et : TypeId} (w : World) (hg : o.guard = none) (m : Operand) (hop : o.op = Op.call { callee := Callee.builtin Builtin.len, args := #[m], argTypes := #[t] }) (A : Option Addr) (n c : Nat)
    (hm : a.eval m = .slice A n c) (ht : P.underlying t = some (.slice et))
    (h : wpList P ops Q rest (a.put o.dst (.int .i64 (n : Int))) w) : wpList P ops Q (o :: rest) a w := by
  refine wpList_plain hg fun K' hK' => ?_
  have hrun : (Builtin.len_ #[t] o.type #[.slice A n c]).run P w = .ok (goInt n) w := by simp [Builtin.len_, run_underlying ht]
  unfold Oper.wp
  simp [execOp, hop, resolve, invoke, builtin, hm, hrun, Result.andThen]
  exact hK' _ _ h
def WaitRel (w : World) (T : Nat → Prop) (wb pb qb : Nat) (nm v : Value) (hs : List Int) (l : List (Int × Int)) (σ : Wat) (ws : Wl) (es : List Ent) (ck r : Nat) (N : Nat) (k : Nat) (nv : Value) (wr : World) : Prop :=
  ∃ (n : Nat) (seen : Array Nat), nv = .int .i64 n ∧ n + left_ ws es seen = N ∧ wr.heap[r]? = some (.mapIter (some qb) ck seen ck) ∧ wr.heap[qb]? = some (.map (rawM .u64 es) ck) ∧ Kp w wr (fun _ => False) ∧ k = unseen es seen
theorem unseen_nil_left {ws : Wl} {es : List Ent} {seen : Array Nat} (h : ∀ x ∈ es, x.2.2 ∈ seen) : left_ ws es seen = 0 := by
  have : (es.filter fun x => !seen.contains x.2.2) = [] := by
    rw [List.filter_eq_nil_iff]
    intro x hx
    simp [h x hx]
  rw [left_, this]
  rfl
set_option maxHeartbeats 800000 in
theorem waiting_calls {w : World} {T : Nat → Prop} {wb : Nat} {σ : Wat} {ws : Wl} (h : St w T wb σ ws) (hl : ws.length ≤ 1000000000000) :
    Calls Try.prog 35 #[ptr wb] w fun e w' => e = .returned (.int .i64 (late σ ws)) ∧ Kp w w' (fun _ => False) := by
  obtain ⟨pb, qb, nm, v, hs, l, es, ck, hX, hR, hT⟩ := h
  obtain ⟨c0, c1, c4, c5, f0, f1⟩ := SX.cell hX
  have hsum := sum_content (D := fun i => decide (i ≤ σ.till)) hX.wr.en.once hX.wr.en.still ws hX.wr.en.cover
  have hle : late σ ws ≤ ws.length := List.length_filter_le _ _
  have hall : left_ ws es #[] = late σ ws := by
    have e0 : (es.filter fun x => !(#[] : Array Nat).contains x.2.2) = es := List.filter_eq_self.2 (by simp)
    rw [late, ← hsum, left_, e0]
  have HQ := Lib.hid hX.wr.en.blk
  have HE := Lib.hid hX.wr.en
  clear hX hR hT hsum
  obtain ⟨L, hL⟩ : ∃ L, late σ ws = L := ⟨_, rfl⟩
  rw [hL] at hall hle ⊢
  have HALL := Lib.hid hall
  clear hall hL
  simp only [ptr] at *
  go_enter Try.func35, Try.ntmps35
  go_wp2_with (at_range; refine wpL_range _ rfl _ rfl Try.underlying65 rfl HQ.out ?_; go_frame)
  have hrq : w.heap.size ≠ qb := by have := blk_lt HQ.out; omega
  go_loopg [3] (unseen es #[]) (fun k nv wr => WaitRel w T wb pb qb nm v hs l σ ws es ck w.heap.size L k nv wr)
  case atStart => exact ⟨0, #[], rfl, by rw [HALL.out]; omega, blk_new w _, (Kp.refl w (fun _ => False)).alloc _ |>.blk HQ.out (fun h => h), (Kp.refl w _).alloc _, rfl⟩
  case round =>
    obtain ⟨n, seen, rfl, hn, hit, hq, hK, hk⟩ := hrel
    have HN := Lib.hid hn
    have HIT := Lib.hid hit
    have HQ2 := Lib.hid hq
    have HK := Lib.hid hk
    have hnb : n ≤ 1000000000000 := by omega
    clear hn hit hq hk
    go_wp2_with (at_next; refine wpL_next _ rfl _ rfl ck seen rfl HIT.out HQ2.out hrq HE.out.clock (Nat.le_refl _) HE.out.born (fun hdone => ?_) (fun x hx hns w6 hw6 hen => ?_))
    · go_ret
      have h1 := HN.out
      rw [unseen_nil_left hdone] at h1
      exact ⟨by rw [← h1]; rfl, hK⟩
    · have h2 := left_push (ws := ws) hns HE.out.born hx
      have h3 := unseen_push hns hx
      obtain ⟨g, c, e2, _, _, _⟩ := Kd.R_form (HE.out.row x hx) (List.length_pos_iff.2 (HE.out.some_ x hx))
      rw [e2] at hen ⊢
      have hcl : (content ws x.1).length ≤ ws.length := by
        simp only [content, List.length_map]
        exact List.length_filter_le _ _
      have k1 : Kp w (setO w6 w.heap.size (Obj.mapIter (some qb) ck (seen.push x.2.2) ck)) (fun _ => False) := by
        rcases hw6 with rfl | rfl
        · exact hK.setO (.inr (Nat.le_refl _)) _
        · exact (hK.drew).setO (.inr (Nat.le_refl _)) _
      have hi6 : (setO w6 w.heap.size (Obj.mapIter (some qb) ck (seen.push x.2.2) ck)).heap[w.heap.size]? = some (.mapIter (some qb) ck (seen.push x.2.2) ck) := by
        rcases hw6 with rfl | rfl
        · exact setO_same HIT.out
        · exact setO_same (w := wr.drew) HIT.out
      have H2 := Lib.hid h2
      have H3 := Lib.hid h3
      have HI6 := Lib.hid hi6
      have hm9 : (content ws x.1).length ≤ 9223372036854775807 := by omega
      clear h2 h3 hi6 e2 hns
      go_wp2_with fail
      rw [run_len_slice _ 51 3 _ _ _ (by kernel_rfl)]
      go_wp2_with fail
      go_roundg (unseen es (seen.push x.2.2))
      case measure => have := HK.out; have := H3.out; omega
      case rel =>
        refine ⟨n + (content ws x.1).length, seen.push x.2.2, by go_num, ?_, HI6.out, k1.blk HQ.out (fun h => h), k1, rfl⟩
        have := HN.out
        have := H2.out
        omega
end Go.Proofs.Ytimakagmhikhfaa.Ms
