/- Plain facts: binary heaps told by places, and the water mark by its definition. -/
namespace Go.Proofs.Ytimakagmhikhfaa.Mk
def swp (g : Nat → Int) (i j : Nat) : Nat → Int := fun k => if k = j then g i else if k = i then g j else g k
/-- The first n places are a heap. -/
def HeapN (n : Nat) (g : Nat → Int) : Prop := ∀ c, 0 < c → c < n → g ((c - 1) / 2) ≤ g c
/-- A heap but for place j, which may be too small. -/
def UpInv (n : Nat) (g : Nat → Int) (j : Nat) : Prop :=
  j < n ∧ (∀ c, 0 < c → c < n → c ≠ j → g ((c - 1) / 2) ≤ g c) ∧ (∀ c, 0 < c → c < n → (c - 1) / 2 = j → 0 < j → g ((j - 1) / 2) ≤ g c)
theorem up_exit {n : Nat} {g : Nat → Int} {j : Nat} (h : UpInv n g j) (he : j = 0 ∨ g ((j - 1) / 2) ≤ g j) : HeapN n g := by
  intro c h0 hn
  by_cases hc : c = j
  · subst hc
    rcases he with he | he
    · omega
    · exact he
  · exact h.2.1 c h0 hn hc
theorem up_step {n : Nat} {g : Nat → Int} {j : Nat} (h : UpInv n g j) (h0 : 0 < j) (hl : g j < g ((j - 1) / 2)) : UpInv n (swp g ((j - 1) / 2) j) ((j - 1) / 2) := by
  obtain ⟨hj, h1, h2⟩ := h
  refine ⟨by omega, ?_, ?_⟩
  · intro c c0 cn ce
    have hp := h1 c c0 cn
    have hq := h2 c c0 cn
    simp only [swp]
    by_cases e1 : c = j
    · subst e1
      have : (c - 1) / 2 ≠ c := by omega
      simp [this]
      omega
    · have hp := hp e1
      rw [if_neg e1, if_neg ce]
      by_cases e2 : (c - 1) / 2 = j
      · rw [if_pos e2]; exact hq e2 h0
      · rw [if_neg e2]
        by_cases e3 : (c - 1) / 2 = (j - 1) / 2
        · rw [if_pos e3]
          rw [e3] at hp
          omega
        · rw [if_neg e3]; exact hp
  · intro c c0 cn ce i0
    have hji : ((j - 1) / 2 - 1) / 2 ≠ j := by omega
    have hjk : ((j - 1) / 2 - 1) / 2 ≠ (j - 1) / 2 := by omega
    have hi := h1 ((j - 1) / 2) i0 (by omega) (by omega)
    simp only [swp]
    rw [if_neg hji, if_neg hjk]
    by_cases e1 : c = j
    · rw [if_pos e1]; exact hi
    · rw [if_neg e1]
      have hcne : c ≠ (j - 1) / 2 := by omega
      rw [if_neg hcne]
      have hp := h1 c c0 cn e1
      rw [ce] at hp
      omega
/-- A heap but for place i, which may be too great. -/
def DownInv (n : Nat) (g : Nat → Int) (i : Nat) : Prop :=
  (∀ c, 0 < c → c < n → (c - 1) / 2 ≠ i → g ((c - 1) / 2) ≤ g c) ∧ (∀ c, 0 < c → c < n → (c - 1) / 2 = i → 0 < i → g ((i - 1) / 2) ≤ g c)
theorem down_exit0 {n : Nat} {g : Nat → Int} {i : Nat} (h : DownInv n g i) (he : n ≤ 2 * i + 1) : HeapN n g := by
  intro c c0 cn
  exact h.1 c c0 cn (by omega)
theorem down_exit {n : Nat} {g : Nat → Int} {i j : Nat} (h : DownInv n g i) (_hj : j = 2 * i + 1 ∨ j = 2 * i + 2) (hm : ∀ c, 0 < c → c < n → (c - 1) / 2 = i → g j ≤ g c) (he : g i ≤ g j) : HeapN n g := by
  intro c c0 cn
  by_cases e : (c - 1) / 2 = i
  · rw [e]; have := hm c c0 cn e; omega
  · exact h.1 c c0 cn e
theorem down_step {n : Nat} {g : Nat → Int} {i j : Nat} (h : DownInv n g i) (hj : j = 2 * i + 1 ∨ j = 2 * i + 2) (hjn : j < n) (hm : ∀ c, 0 < c → c < n → (c - 1) / 2 = i → g j ≤ g c) (hl : g j < g i) : DownInv n (swp g i j) j := by
  obtain ⟨h1, h2⟩ := h
  have hpj : (j - 1) / 2 = i := by omega
  refine ⟨?_, ?_⟩
  · intro c c0 cn ce
    simp only [swp]
    rw [if_neg ce]
    by_cases e2 : (c - 1) / 2 = i
    · rw [if_pos e2]
      by_cases e1 : c = j
      · rw [if_pos e1]; omega
      · rw [if_neg e1]
        have : c ≠ i := by omega
        rw [if_neg this]
        exact hm c c0 cn e2
    · rw [if_neg e2]
      have e1 : c ≠ j := by
        intro e; apply e2; omega
      rw [if_neg e1]
      by_cases e3 : c = i
      · rw [if_pos e3, e3]
        exact h2 j (by omega) hjn hpj (by omega)
      · rw [if_neg e3]; exact h1 c c0 cn e2
  · intro c c0 cn ce j0
    rw [hpj]
    simp only [swp]
    have e0 : i ≠ j := by omega
    rw [if_neg e0, if_pos trivial]
    have e1 : c ≠ j := by omega
    rw [if_neg e1]
    have e2 : c ≠ i := by omega
    rw [if_neg e2]
    have := h1 c c0 cn (by omega)
    rw [ce] at this
    exact this
theorem heap_min {n : Nat} {g : Nat → Int} (h : HeapN n g) : ∀ c, c < n → g 0 ≤ g c := by
  intro c
  induction c using Nat.strongRecOn with
  | ind c ih =>
    intro hc
    by_cases e : c = 0
    · subst e; omega
    · have h1 := h c (by omega) hc
      have h2 := ih ((c - 1) / 2) (by omega) (by omega)
      omega
/-! ### lists -/
def sw (l : List Int) (i j : Nat) : List Int := (l.set i (l.getD j 0)).set j (l.getD i 0)
theorem sw_length (l : List Int) (i j : Nat) : (sw l i j).length = l.length := by simp [sw]
theorem sw_getD (l : List Int) (i j k : Nat) (hi : i < l.length) (hj : j < l.length) : (sw l i j).getD k 0 = swp (fun k => l.getD k 0) i j k := by
  simp only [sw, swp, List.getD_eq_getElem?_getD, List.getElem?_set, List.length_set]
  by_cases e : j = k
  · subst e; simp [hj]
  · have e' : ¬ k = j := fun x => e x.symm
    simp only [e, e', if_false]
    by_cases e2 : i = k
    · subst e2; simp [hi]
    · have e2' : ¬ k = i := fun x => e2 x.symm
      simp [e2, e2']
theorem sw_perm (l : List Int) (i j : Nat) (hi : i < l.length) (hj : j < l.length) : (sw l i j).Perm l := by
  have h := List.set_set_perm (as := l) (i := i) (j := j) hi hj
  simpa [sw, List.getD_eq_getElem?_getD, hi, hj] using h
def IsHeap (l : List Int) : Prop := HeapN l.length (fun k => l.getD k 0)
theorem isHeap_min {l : List Int} (h : IsHeap l) : ∀ x ∈ l, l.getD 0 0 ≤ x := by
  intro x hx
  obtain ⟨i, hi, rfl⟩ := List.getElem_of_mem hx
  have := heap_min h i hi
  simpa [List.getD_eq_getElem?_getD, hi] using this
theorem isHeap_nil : IsHeap [] := fun c _ h => by simp at h
/-- Behind a push: a heap but for the last place. -/
theorem upInv_push {l : List Int} (h : IsHeap l) (x : Int) : UpInv (l ++ [x]).length (fun k => (l ++ [x]).getD k 0) l.length := by
  refine ⟨by simp, ?_, ?_⟩
  · intro c c0 cn ce
    have cl : c < l.length := by simp at cn; omega
    have := h c c0 cl
    have h2 : (c - 1) / 2 < l.length := by omega
    simpa [List.getD_eq_getElem?_getD, List.getElem?_append_left cl, List.getElem?_append_left h2] using this
  · intro c c0 cn ce _
    simp at cn
    omega
theorem swap_of (l : List Int) (i j : Nat) (hi : i < l.length) (hj : j < l.length) : (fun k => (sw l i j).getD k 0) = swp (fun k => l.getD k 0) i j := funext fun k => sw_getD l i j k hi hj
/-- Behind the exchange of the first and the last place. -/
theorem downInv_pop {l : List Int} (h : IsHeap l) (n : Nat) (hn : l.length = n + 1) : DownInv n (fun k => (sw l 0 n).getD k 0) 0 := by
  refine ⟨?_, fun c _ _ _ h => absurd h (by omega)⟩
  intro c c0 cn ce
  show (sw l 0 n).getD ((c - 1) / 2) 0 ≤ (sw l 0 n).getD c 0
  rw [sw_getD l 0 n _ (by omega) (by omega), sw_getD l 0 n _ (by omega) (by omega)]
  have hq := h c c0 (by omega)
  simp only [swp]
  rw [if_neg (by omega), if_neg ce, if_neg (by omega), if_neg (by omega)]
  exact hq
/-- The first places alone. -/
theorem heapN_take {l : List Int} {n : Nat} (h : HeapN n (fun k => l.getD k 0)) (hn : n ≤ l.length) : IsHeap (l.take n) := by
  intro c c0 cn
  simp at cn
  have := h c c0 (by omega)
  have h2 : (c - 1) / 2 < n := by omega
  simpa [List.getD_eq_getElem?_getD, List.getElem?_take, h2, show c < n by omega] using this
end Go.Proofs.Ytimakagmhikhfaa.Mk
namespace Go.Proofs.Ytimakagmhikhfaa.Mk
structure Wat where
  till : Int
  last : Int
  pend : List (Int × Int)
def ins (i d : Int) : List (Int × Int) → List (Int × Int)
  | [] => [(i, d)]
  | (j, c) :: t => if j < i then (j, c) :: ins i d t else if j = i then (j, c + d) :: t else (i, d) :: (j, c) :: t
def popz (u : Int) : List (Int × Int) → Int × List (Int × Int)
  | [] => (u, [])
  | (j, c) :: t => if c = 0 then popz j t else (u, (j, c) :: t)
def Wat.add (w : Wat) (i d : Int) : Wat := ⟨(popz w.till (ins i d w.pend)).1, w.last, (popz w.till (ins i d w.pend)).2⟩
def cnt (i : Int) : List (Int × Int) → Option Int
  | [] => none
  | (j, c) :: t => if j = i then some c else cnt i t
def isOpen (p : List (Int × Int)) (i : Int) : Bool := match cnt i p with
  | some c => decide (0 < c)
  | none => false
def most : Int := 1099511627776
def Wat.begin_ (w : Wat) (i : Int) : Bool × Wat := if i ≤ w.till ∨ most < i then (false, w) else (true, { w.add i 1 with last := i })
def Wat.done_ (w : Wat) (i : Int) : Bool × Wat := if isOpen w.pend i then (true, w.add i (-1)) else (false, w)
def manyB : List Int → Bool → Wat → Bool × Wat
  | [], b, w => (b, w)
  | x :: t, b, w => if b then manyB t (w.begin_ x).1 (w.begin_ x).2 else manyB t false w
def manyD : List Int → Bool → Wat → Bool × Wat
  | [], b, w => (b, w)
  | x :: t, b, w => if b then manyD t (w.done_ x).1 (w.done_ x).2 else manyD t false w

abbrev Asc (l : List (Int × Int)) : Prop := l.Pairwise (fun a b => a.1 < b.1)
abbrev KeysOnce (l : List (Int × Int)) : Prop := l.Pairwise (fun a b => a.1 ≠ b.1)
theorem Asc.once {l : List (Int × Int)} (h : Asc l) : KeysOnce l := h.imp (fun h => by omega)
theorem KeysOnce.perm {l m : List (Int × Int)} (h : KeysOnce l) (p : l.Perm m) : KeysOnce m := (p.pairwise_iff (fun h => Ne.symm h)).1 h

/-! ### cnt -/
theorem cnt_some {i c : Int} : ∀ {l : List (Int × Int)}, cnt i l = some c → (i, c) ∈ l
  | [], h => by simp [cnt] at h
  | (j, d) :: t, h => by
    simp only [cnt] at h
    split at h
    · rename_i e; subst e; injection h with h; subst h; exact List.mem_cons_self
    · exact List.mem_cons_of_mem _ (cnt_some h)
theorem cnt_none {i : Int} : ∀ {l : List (Int × Int)}, cnt i l = none ↔ ∀ p ∈ l, p.1 ≠ i
  | [] => by simp [cnt]
  | (j, d) :: t => by
    have ih := cnt_none (i := i) (l := t)
    simp only [cnt]
    by_cases e : j = i
    · simp [e]
    · simp [e, ih]
theorem cnt_mem {i c : Int} {l : List (Int × Int)} (h : KeysOnce l) (hm : (i, c) ∈ l) : cnt i l = some c := by
  induction l with
  | nil => cases hm
  | cons a t ih =>
    obtain ⟨j, d⟩ := a
    have ⟨h1, h2⟩ := List.pairwise_cons.1 h
    simp only [cnt]
    rcases List.mem_cons.1 hm with e | e
    · injection e with e1 e2; subst e1; subst e2; simp
    · have : j ≠ i := h1 (i, c) e
      rw [if_neg this]; exact ih h2 e
theorem cnt_perm {i : Int} {l m : List (Int × Int)} (h : KeysOnce l) (p : l.Perm m) : cnt i l = cnt i m := by
  cases e : cnt i l with
  | none => exact ((cnt_none.2 fun q hq => (cnt_none.1 e) q (p.mem_iff.2 hq))).symm
  | some c => exact (cnt_mem (h.perm p) (p.mem_iff.1 (cnt_some e))).symm

/-! ### an entry counted, wherever it stands -/
def upd (i d : Int) (l : List (Int × Int)) : List (Int × Int) := match cnt i l with
  | some _ => l.map fun p => if p.1 = i then (p.1, p.2 + d) else p
  | none => l ++ [(i, d)]
theorem upd_perm {i d : Int} {l m : List (Int × Int)} (h : KeysOnce l) (p : l.Perm m) : (upd i d l).Perm (upd i d m) := by
  unfold upd
  rw [cnt_perm h p]
  cases cnt i m with
  | none => exact p.append_right _
  | some c => exact p.map _
theorem map_same {i d : Int} {l : List (Int × Int)} (h : ∀ p ∈ l, p.1 ≠ i) : (l.map fun p => if p.1 = i then (p.1, p.2 + d) else p) = l := by
  rw [List.map_congr_left (g := id) (fun p hp => by simp [h p hp])]
  simp
theorem ins_perm {i d : Int} : ∀ {l : List (Int × Int)}, Asc l → (ins i d l).Perm (upd i d l)
  | [], _ => by simp [ins, upd, cnt]
  | (j, c) :: t, h => by
    have ⟨h1, h2⟩ := List.pairwise_cons.1 h
    have ih := ins_perm (i := i) (d := d) h2
    simp only [ins]
    by_cases e1 : j < i
    · rw [if_pos e1]
      have e : j ≠ i := by omega
      unfold upd at ih ⊢
      simp only [cnt, if_neg e]
      cases hc : cnt i t with
      | none => rw [hc] at ih; simpa using ih.cons (j, c)
      | some c' => rw [hc] at ih; simpa [e] using ih.cons (j, c)
    · rw [if_neg e1]
      by_cases e2 : j = i
      · subst e2
        rw [if_pos rfl]
        unfold upd
        simp only [cnt, if_true, List.map_cons]
        rw [map_same (fun p hp => by have := h1 p hp; simp at this; omega)]
      · rw [if_neg e2]
        have hn : cnt i ((j, c) :: t) = none := cnt_none.2 (fun p hp => by
          rcases List.mem_cons.1 hp with e | e
          · subst e; exact e2
          · have := h1 p e; simp at this; omega)
        unfold upd
        rw [hn]
        exact (List.perm_append_comm (l₁ := [(i, d)]) (l₂ := (j, c) :: t))
theorem mem_upd {i d : Int} {p : Int × Int} {l : List (Int × Int)} (h : p ∈ upd i d l) : (p ∈ l ∧ p.1 ≠ i) ∨ (p.1 = i ∧ ((cnt i l = none ∧ p.2 = d) ∨ ∃ c, (i, c) ∈ l ∧ p.2 = c + d)) := by
  unfold upd at h
  split at h
  · obtain ⟨q, hq, e⟩ := List.mem_map.1 h
    split at e
    · rename_i e2; subst e; exact .inr ⟨e2, .inr ⟨q.2, by rw [← e2]; exact hq, rfl⟩⟩
    · rename_i e2; subst e; exact .inl ⟨hq, e2⟩
  · rename_i hn
    rcases List.mem_append.1 h with h | h
    · exact .inl ⟨h, cnt_none.1 hn p h⟩
    · rw [List.mem_singleton.1 h]; exact .inr ⟨rfl, .inl ⟨hn, rfl⟩⟩
theorem upd_keys {i d : Int} {l : List (Int × Int)} : (upd i d l).map Prod.fst = match cnt i l with | some _ => l.map Prod.fst | none => l.map Prod.fst ++ [i] := by
  unfold upd
  cases cnt i l with
  | none => simp
  | some c =>
    simp only [List.map_map]
    refine List.map_congr_left (fun p _ => ?_)
    simp only [Function.comp]
    split <;> rfl
theorem mem_ins {i d : Int} {p : Int × Int} {l : List (Int × Int)} (ha : Asc l) (h : p ∈ ins i d l) : (p ∈ l ∧ p.1 ≠ i) ∨ (p.1 = i ∧ ((cnt i l = none ∧ p.2 = d) ∨ ∃ c, (i, c) ∈ l ∧ p.2 = c + d)) := mem_upd ((ins_perm ha).mem_iff.1 h)
theorem ins_asc {i d : Int} : ∀ {l : List (Int × Int)}, Asc l → Asc (ins i d l)
  | [], _ => by simp [ins]
  | (j, c) :: t, h => by
    have ⟨h1, h2⟩ := List.pairwise_cons.1 h
    simp only [ins]
    split
    · rename_i e1
      refine List.pairwise_cons.2 ⟨fun p hp => ?_, ins_asc h2⟩
      rcases mem_ins h2 hp with ⟨h, _⟩ | ⟨h, _⟩
      · exact h1 p h
      · simp only []; omega
    · split
      · exact List.pairwise_cons.2 ⟨fun p hp => h1 p hp, h2⟩
      · rename_i e1 e2
        refine List.pairwise_cons.2 ⟨fun p hp => ?_, h⟩
        rcases List.mem_cons.1 hp with e | e
        · subst e; simp only []; omega
        · have := h1 p e; simp only [] at this ⊢; omega
theorem ins_head {i d : Int} (hd : 0 < d) : ∀ {l : List (Int × Int)}, (∀ p, l.head? = some p → 0 < p.2) → ∀ p, (ins i d l).head? = some p → 0 < p.2
  | [], _, p, h => by simp [ins] at h; subst h; exact hd
  | (j, c) :: t, hh, p, h => by
    have := hh (j, c) rfl
    simp only [ins] at h
    split at h
    · simp at h; subst h; exact this
    · split at h
      · simp at h; subst h; simp only [] at this ⊢; omega
      · simp at h; subst h; exact hd

/-! ### popz -/
theorem popz_id {u : Int} : ∀ {l : List (Int × Int)}, (∀ p, l.head? = some p → 0 < p.2) → popz u l = (u, l)
  | [], _ => rfl
  | (j, c) :: t, h => by
    have := h (j, c) rfl
    simp only [popz]
    rw [if_neg (by simp only [] at this; omega)]
structure Fine (u : Int) (l : List (Int × Int)) (N : Int) : Prop where
  lo : 0 ≤ u
  hi : u ≤ most
  asc : Asc l
  above : ∀ p ∈ l, u < p.1 ∧ p.1 ≤ most ∧ 0 ≤ p.2 ∧ p.2 ≤ N
def Headed (l : List (Int × Int)) : Prop := ∀ p, l.head? = some p → 0 < p.2
theorem Fine.mono {u : Int} {l : List (Int × Int)} {N M : Int} (h : Fine u l N) (hm : N ≤ M) : Fine u l M := ⟨h.lo, h.hi, h.asc, fun p hp => by have := h.above p hp; omega⟩
theorem Fine.nil {u N : Int} (h0 : 0 ≤ u) (h1 : u ≤ most) : Fine u [] N := ⟨h0, h1, List.Pairwise.nil, fun p hp => by cases hp⟩
theorem Fine.tail {u j c N : Int} {t : List (Int × Int)} (h : Fine u ((j, c) :: t) N) : Fine j t N := by
  have ⟨h1, h2⟩ := List.pairwise_cons.1 h.asc
  have ha := h.above (j, c) List.mem_cons_self
  have := h.lo
  simp only [] at ha
  exact ⟨by omega, by omega, h2, fun p hp => by
    have h3 := h1 p hp
    have h4 := h.above p (List.mem_cons_of_mem _ hp)
    simp only [] at h3
    omega⟩
theorem popz_fine {N : Int} : ∀ {l : List (Int × Int)} {u : Int}, Fine u l N → Fine (popz u l).1 (popz u l).2 N ∧ Headed (popz u l).2 ∧ u ≤ (popz u l).1
  | [], u, h => ⟨h, fun p hp => by simp [popz] at hp, Int.le_refl _⟩
  | (j, c) :: t, u, h => by
    have ha := h.above (j, c) List.mem_cons_self
    simp only [] at ha
    simp only [popz]
    split
    · have ⟨h1, h2, h3⟩ := popz_fine h.tail
      exact ⟨h1, h2, by omega⟩
    · exact ⟨h, fun p hp => by simp at hp; subst hp; simp only []; omega, Int.le_refl _⟩
theorem Fine.ins_begin {u i N : Int} {l : List (Int × Int)} (h : Fine u l N) (hi : u < i) (hm : i ≤ most) (hN : 0 ≤ N) : Fine u (ins i 1 l) (N + 1) :=
  ⟨h.lo, h.hi, ins_asc h.asc, fun p hp => by
    rcases mem_ins h.asc hp with ⟨h1, _⟩ | ⟨h1, h2⟩
    · have := h.above p h1; omega
    · rcases h2 with ⟨_, h2⟩ | ⟨c, h2, h3⟩
      · omega
      · have := h.above _ h2; simp only [] at this; omega⟩
theorem Fine.ins_done {u i N : Int} {l : List (Int × Int)} (h : Fine u l N) (ho : isOpen l i = true) : Fine u (ins i (-1) l) N := by
  unfold isOpen at ho
  cases hc : cnt i l with
  | none => rw [hc] at ho; cases ho
  | some c =>
    rw [hc] at ho
    have hp0 : 0 < c := by simpa using ho
    refine ⟨h.lo, h.hi, ins_asc h.asc, fun p hp => ?_⟩
    rcases mem_ins h.asc hp with ⟨h1, _⟩ | ⟨h1, h2⟩
    · exact h.above p h1
    · rcases h2 with ⟨h2, _⟩ | ⟨c', h2, h3⟩
      · rw [hc] at h2; cases h2
      · have he := cnt_mem h.asc.once h2
        rw [hc] at he
        injection he with he
        have := h.above _ h2
        simp only [] at this
        omega
end Go.Proofs.Ytimakagmhikhfaa.Mk
