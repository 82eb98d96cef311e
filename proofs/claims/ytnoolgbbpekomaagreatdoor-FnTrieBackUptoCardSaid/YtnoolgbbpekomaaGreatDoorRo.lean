/- Arguments that are lists of spans, of matches, of texts, read; what they weigh; what is laid before the program runs. -/
import Derived.Test.YtnoolgbbpekomaaGreatDoorCards
import Derived.Test.YtnoolgbbpekomaaGreatDoorTie
import Derived.Test.YtnoolgbbpekomaaGreatDoorPb
import Derived.WalkKit
import Derived.ProofKit
import Derived.OpenShut
import Derived.JoinedCond
import Derived.Deep.Slices
import Derived.Deep.Fields
import Derived.ChangeSame
import Derived.Deep.DeepHandedRow
import Derived.Lib.LaidTab
import Derived.Stop.LaidErr
import Derived.LaidMore
import Derived.Lay
namespace Go.Proofs.YtnoolgbbpekomaaGreatDoor.Ro
open Go.ChangeShapes Go.WideShapes Go.ChangeAt Go.RowKit Go.Deep YtnoolgbbpekomaaGreatDoorW.PrintWords T Pa Pb
set_option linter.unusedVariables false
set_option linter.unusedSimpArgs false
theorem one_le {H : Type} (d : DataW H) : 1 ≤ Rows.uptoBulk d := by
  cases d with
  | lit l => cases l <;> simp [Rows.uptoBulk]
  | nil => simp [Rows.uptoBulk]
  | ptr d => simp [Rows.uptoBulk]
  | slice elems spare => simp [Rows.uptoBulk]
  | agg parts => simp [Rows.uptoBulk]
  | iface t d => simp [Rows.uptoBulk]
  | map entries => simp [Rows.uptoBulk]
  | held h => simp [Rows.uptoBulk]
theorem append {H : Type} (l r : List (DataW H)) : Rows.uptoBulkAll (l ++ r) = Rows.uptoBulkAll l + Rows.uptoBulkAll r := by
  induction l with
  | nil => simp [Rows.uptoBulkAll]
  | cons x l ih => simp only [List.cons_append, Rows.uptoBulkAll, ih]; omega
theorem length_le {H : Type} (l : List (DataW H)) : l.length ≤ Rows.uptoBulkAll l := by
  induction l with
  | nil => simp [Rows.uptoBulkAll]
  | cons x r ih => have := one_le x; simp only [Rows.uptoBulkAll, List.length_cons]; omega
/-- One of each. -/
theorem list_of {α : Type} {P : Nat → α → Prop} : ∀ n : Nat, (∀ i, i < n → ∃ s, P i s) → ∃ l : List α, l.length = n ∧ ∀ i s, l[i]? = some s → P i s
  | 0, _ => ⟨[], rfl, fun i s h => by simp at h⟩
  | n + 1, h => by
    obtain ⟨l, hl, hp⟩ := list_of n (fun i hi => h i (by omega))
    obtain ⟨s, hs⟩ := h n (by omega)
    refine ⟨l ++ [s], by simp [hl], fun i s2 h2 => ?_⟩
    by_cases hi : i < n
    · rw [List.getElem?_append_left (by omega)] at h2
      exact hp i s2 h2
    · have hin : i < (l ++ [s]).length := (List.getElem?_eq_some_iff.1 h2).1
      have : i = n := by simp [hl] at hin; omega
      subst this
      rw [List.getElem?_append_right (by omega)] at h2
      simp [hl] at h2
      subst h2
      exact hs
theorem part_le {H : Type} {d : DataW H} {l : List (DataW H)} (h : d ∈ l) : Rows.uptoBulk d ≤ Rows.uptoBulkAll l := by
  induction l with
  | nil => cases h
  | cons x r ih =>
    simp only [Rows.uptoBulkAll]
    cases List.mem_cons.1 h with
    | inl e => subst e; omega
    | inr e => have := ih e; omega
section
variable {H : Type} {enc : TypeId × Value → H} {P : Program} {w : World} {base : Nat} {spare : Nat → Bool} {held : Bool}
theorem open_slice_fields {t e : TypeId} {fs : Array Field} {fuel : Nat} {cs : List Value} {x : DataW H × List MemPlace} (ht : P.underlying t = some (.slice e)) (he : P.underlying e = some (.struct fs))
    (hone : oneCellFields P fs = true) (hC : P.cellsOf e = fs.size) (h : DataW.trod enc P w base spare held fuel t cs = some x) :
    (cs = [.slice none 0 0] ∧ x = (.nil, [])) ∨
    ∃ (a : Addr) (len cap m : Nat) (D : Nat → DataW H) (Pl : Nat → List MemPlace), cs = [.slice (some a) len cap] ∧ base ≤ a.block ∧ len ≤ cap ∧ cap ≤ maxLen ∧ m = (if spare a.block then cap else len) ∧
      x = (.slice ((List.range len).map D) ((List.range (m - len)).map fun j => D (len + j)), MemPlace.row a (m * fs.size) ++ (List.range m).flatMap Pl) ∧
      ∀ i, i < m → ∃ (ys : List (DataW H × List MemPlace)) (n : Nat), D i = .agg (ys.map (·.1)) ∧ Pl i = ys.flatMap (·.2) ∧ ys.length = fs.size ∧
        ∀ (j : Nat) (f : Field), fs[j]? = some f → ∃ (v : Value) (y : DataW H × List MemPlace), w.cell? (a.add (i * fs.size + j)) = some v ∧ ys[j]? = some y ∧ DataW.trod enc P w base spare held n f.type [v] = some y := by
  rcases open_slice ht h with h0 | ⟨a, len, cap, m, n, D, Pl, hcs, hb, hl, hm, hmm, hx, hi⟩
  · exact .inl h0
  · refine .inr ⟨a, len, cap, m, D, Pl, hcs, hb, hl, hm, hmm, by rw [hC] at hx; exact hx, fun i him => ?_⟩
    obtain ⟨cs', hc, ht'⟩ := hi i him
    rw [hC] at hc
    obtain ⟨ys, n', hn', hy, hlen, hyl, hf⟩ := DataW.trod_struct he ht'
    obtain ⟨_, hcl, hat⟩ := World.cells?_some hc
    simp only [Prod.mk.injEq] at hy
    refine ⟨ys, n', hy.1, hy.2, hyl, fun j f hj => ?_⟩
    obtain ⟨ho, hk⟩ := hone_of hone j f hj
    have hjl : j < fs.size := (Array.getElem?_eq_some_iff.1 hj).1
    have hcell := hat j hjl
    have hv : cs'[j]? = some (cs'[j]'(by omega)) := List.getElem?_eq_getElem (by omega)
    have h1 := hf j f hj
    rw [ho, hk] at h1
    have hone' : (cs'.drop j).take 1 = [cs'[j]'(by omega)] := by
      rw [List.drop_eq_getElem_cons (by omega)]
      rfl
    rw [hone'] at h1
    have hys : ys[j]? = some (ys[j]'(by omega)) := List.getElem?_eq_getElem (by omega)
    refine ⟨_, _, ?_, hys, h1.trans hys⟩
    rw [← Go.Deep.add_add, hcell, hv]
end
theorem sum_bulk {H : Type} {α : Type} (f : α → Nat) (D : Nat → DataW H) : ∀ (n : Nat) (l : List α), l.length = n → (∀ i s, l[i]? = some s → f s ≤ Rows.uptoBulk (D i)) → (l.map f).sum ≤ Rows.uptoBulkAll ((List.range n).map D)
  | 0, l, hl, _ => by
    have : l = [] := List.eq_nil_of_length_eq_zero hl
    subst this
    simp
  | n + 1, l, hl, h => by
    have hn : n < l.length := by omega
    have e : l = l.take n ++ [l[n]] := by
      have := List.take_succ_eq_append_getElem hn
      rw [← this, List.take_of_length_le (by omega)]
    have h1 := sum_bulk f D n (l.take n) (by rw [List.length_take]; omega) (fun i s hs => h i s (by
      have hi : i < n := by have := (List.getElem?_eq_some_iff.1 hs).1; rw [List.length_take] at this; omega
      rw [List.getElem?_take, if_pos hi] at hs
      exact hs))
    have h2 := h n l[n] (List.getElem?_eq_getElem hn)
    have e2 : (l.map f).sum = ((l.take n).map f).sum + f l[n] := by
      conv => lhs; rw [e]
      rw [List.map_append, List.sum_append]
      simp
    rw [e2, List.range_succ, List.map_append, append]
    simp only [List.map_cons, List.map_nil, Rows.uptoBulkAll] at *
    omega
theorem sum_mem {α : Type} (f : α → Nat) {x : α} : ∀ {l : List α}, x ∈ l → f x ≤ (l.map f).sum
  | y :: t, h => by
    rw [List.map_cons, List.sum_cons]
    rcases List.mem_cons.1 h with e | e
    · rw [e]; omega
    · have := sum_mem f e; omega
theorem sum_len {α : Type} (f : α → Nat) (hf : ∀ x, 1 ≤ f x) : ∀ l : List α, l.length ≤ (l.map f).sum
  | [] => by simp
  | x :: t => by
    have := sum_len f hf t
    have := hf x
    rw [List.map_cons, List.sum_cons, List.length_cons]
    omega
/-- What a match weighs. -/
def wM (m : S42) : Nat := m.f1.size + m.f2.length + 1
def wS (s : ByteArray) : Nat := s.size + 1
theorem cells2 {w : World} {a : Addr} {i : Nat} {x y : Value} (h0 : w.cell? (a.add (i * 2 + 0)) = some x) (h1 : w.cell? (a.add (i * 2 + 1)) = some y) : ∀ j u, [x, y][j]? = some u → w.cell? (a.add (i * 2 + j)) = some u := by
  intro j u hj
  match j, hj with
  | 0, hj => simp at hj; rw [← hj]; exact h0
  | 1, hj => simp at hj; rw [← hj]; exact h1
  | j + 2, hj => simp at hj
theorem cells4 {w : World} {a : Addr} {i : Nat} {x y z v : Value} (h0 : w.cell? (a.add (i * 4 + 0)) = some x) (h1 : w.cell? (a.add (i * 4 + 1)) = some y) (h2 : w.cell? (a.add (i * 4 + 2)) = some z) (h3 : w.cell? (a.add (i * 4 + 3)) = some v) : ∀ j u, [x, y, z, v][j]? = some u → w.cell? (a.add (i * 4 + j)) = some u := by
  intro j u hj
  match j, hj with
  | 0, hj => simp at hj; rw [← hj]; exact h0
  | 1, hj => simp at hj; rw [← hj]; exact h1
  | 2, hj => simp at hj; rw [← hj]; exact h2
  | 3, hj => simp at hj; rw [← hj]; exact h3
  | j + 4, hj => simp at hj
theorem open_spans0 {H : Type} {enc : TypeId × Value → H} {w : World} {fuel : Nat} {cs : List Value} {x : DataW H × List MemPlace} (hf : DataW.trod enc Tryz.prog w 0 (fun _ => true) true fuel 22 cs = some x) :
    ∃ (A : Option Addr) (len cap : Nat) (l : List S67), cs = [.slice A len cap] ∧ l.length = len ∧ len ≤ cap ∧ Kd.C k67 w A len l ∧ len + 1 ≤ Rows.uptoBulk x.1 := by
  rcases open_slice_fields Tryz.underlying22 Tryz.underlying67 (by kernel_rfl) (by kernel_rfl) hf with ⟨hcs, hd⟩ | ⟨a, len, cap, m, D, Pl, hcs, hb, hl, hm, hmm, hx, hi⟩
  · exact ⟨none, 0, 0, [], hcs, rfl, Nat.le_refl _, ⟨rfl, by omega, fun h => absurd h (by omega)⟩, by rw [hd]; exact one_le _⟩
  · simp only [if_true] at hmm
    have hel : ∀ i, i < len → ∃ s : S67, ∃ c : List Value, c.length = 2 ∧ k67.K w s c ∧ ∀ j u, c[j]? = some u → w.cell? (a.add (i * 2 + j)) = some u := by
      intro i hil
      obtain ⟨ys, n, hD, hP, hlen, hfld⟩ := hi i (by omega)
      obtain ⟨v0, y0, c0, hy0, t0⟩ := hfld 0 _ rfl
      obtain ⟨v1, y1, c1, hy1, t1⟩ := hfld 1 _ rfl
      obtain ⟨n0, e0, _, _⟩ := DataW.trod_int Tryz.underlying3 t0
      obtain ⟨n1, e1, _, _⟩ := DataW.trod_int Tryz.underlying3 t1
      injection e0 with e0
      injection e1 with e1
      subst e0
      subst e1
      exact ⟨⟨n0, n1⟩, _, rfl, k67_mk w ⟨n0, n1⟩, cells2 c0 c1⟩
    obtain ⟨l, hll, hlp⟩ := list_of len hel
    refine ⟨some a, len, cap, l, hcs, hll, hl, ⟨hll, by simp [maxLen] at hm; omega, fun _ => ⟨a, rfl, fun j s hj => hlp j s hj⟩⟩, ?_⟩
    have hx1 : x.1 = .slice ((List.range len).map D) ((List.range (m - len)).map fun j => D (len + j)) := congrArg Prod.fst hx
    rw [hx1]
    simp only [Rows.uptoBulk]
    have := length_le ((List.range len).map D)
    rw [List.length_map, List.length_range] at this
    omega
theorem open_spans {H : Type} {enc : TypeId × Value → H} {w : World} {A : Option Addr} {len cap : Nat} {d : DataW H} {p : List MemPlace} (h : DataW.Trod enc Tryz.prog w 0 (fun _ => true) true 22 (.slice A len cap) d p) :
    ∃ l : List S67, l.length = len ∧ len ≤ cap ∧ Kd.C k67 w A len l ∧ len + 1 ≤ Rows.uptoBulk d := by
  obtain ⟨fuel, hf⟩ := h
  obtain ⟨A2, len2, cap2, l, hcs, h1, h2, h3, h4⟩ := open_spans0 hf
  simp [Value.cells] at hcs
  obtain ⟨rfl, rfl, rfl⟩ := hcs
  exact ⟨l, h1, h2, h3, h4⟩
def Good (w : World) (a : Addr) {H : Type} (D : Nat → DataW H) (i : Nat) (s : S42) : Prop :=
  (∃ c : List Value, c.length = 4 ∧ k42.K w s c ∧ ∀ j u, c[j]? = some u → w.cell? (a.add (i * 4 + j)) = some u) ∧ wM s ≤ Rows.uptoBulk (D i)
theorem open_matches {H : Type} {enc : TypeId × Value → H} {w : World} {A : Option Addr} {len cap : Nat} {d : DataW H} {p : List MemPlace} (h : DataW.Trod enc Tryz.prog w 0 (fun _ => true) true 34 (.slice A len cap) d p) :
    ∃ l : List S42, l.length = len ∧ len ≤ cap ∧ Kd.C k42 w A len l ∧ (l.map wM).sum + 1 ≤ Rows.uptoBulk d := by
  obtain ⟨fuel, hf⟩ := h
  rcases open_slice_fields Tryz.underlying34 Tryz.underlying42 (by kernel_rfl) (by kernel_rfl) hf with ⟨hcs, hd⟩ | ⟨a, len', cap', m, D, Pl, hcs, hb, hl, hm, hmm, hx, hi⟩
  · simp [Value.cells] at hcs
    obtain ⟨rfl, rfl, rfl⟩ := hcs
    exact ⟨[], rfl, Nat.le_refl _, ⟨rfl, by omega, fun h => absurd h (by omega)⟩, by simp; exact one_le _⟩
  · simp [Value.cells] at hcs
    obtain ⟨rfl, rfl, rfl⟩ := hcs
    simp only [if_true] at hmm
    obtain rfl := hmm
    have hel : ∀ i, i < len → ∃ s : S42, Good w a D i s := by
      intro i hil
      obtain ⟨ys, n, hD, hP, hlen, hfld⟩ := hi i (by omega)
      obtain ⟨v0, y0, c0, hy0, t0⟩ := hfld 0 _ rfl
      obtain ⟨v1, y1, c1, hy1, t1⟩ := hfld 1 _ rfl
      obtain ⟨v2, y2, c2, hy2, t2⟩ := hfld 2 _ rfl
      obtain ⟨v3, y3, c3, hy3, t3⟩ := hfld 3 _ rfl
      obtain ⟨b0, e0, _⟩ := DataW.trod_bool Tryz.underlying4 t0
      obtain ⟨s1, e1, x1, _⟩ := DataW.trod_string Tryz.underlying9 t1
      obtain ⟨A2, len2, cap2, l2, e2, hl2, hlc2, hC2, hb2⟩ := open_spans0 t2
      obtain ⟨n3, e3, _, _⟩ := DataW.trod_int Tryz.underlying3 t3
      injection e0 with e0
      injection e1 with e1
      injection e2 with e2
      injection e3 with e3
      subst e0
      subst e1
      subst e2
      subst e3
      subst hl2
      refine ⟨⟨b0, s1, l2, n3⟩, ⟨_, rfl, k42_mk w ⟨b0, s1, l2, n3⟩ hlc2 hC2, cells4 c0 c1 c2 c3⟩, ?_⟩
      have hw : Rows.uptoBulk y1.1 = s1.size + 1 := by
        rw [x1]
        simp [Rows.uptoBulk]
      have hsum : Rows.uptoBulk y1.1 + Rows.uptoBulk y2.1 ≤ Rows.uptoBulkAll (ys.map (·.1)) := by
        have h4 : ys.length = 4 := hlen
        match ys, h4, hy1, hy2 with
        | [z0, z1, z2, z3], _, hy1, hy2 =>
          simp at hy1 hy2
          subst hy1
          subst hy2
          simp only [List.map_cons, List.map_nil, Rows.uptoBulkAll]
          omega
      rw [hD]
      simp only [Rows.uptoBulk, wM]
      omega
    obtain ⟨l, hll, hlp⟩ := list_of len hel
    refine ⟨l, hll, hl, ⟨hll, by simp [maxLen] at hm; omega, fun _ => ⟨a, rfl, fun j s hj => (hlp j s hj).1⟩⟩, ?_⟩
    have hx1 : d = .slice ((List.range len).map D) ((List.range (_ - len)).map fun j => D (len + j)) := congrArg Prod.fst hx
    rw [hx1]
    simp only [Rows.uptoBulk]
    have := sum_bulk wM D len l hll (fun i s hs => (hlp i s hs).2)
    omega
theorem open_strs {H : Type} {enc : TypeId × Value → H} {w : World} {A : Option Addr} {len cap : Nat} {d : DataW H} {p : List MemPlace} (h : DataW.Trod enc Tryz.prog w 0 (fun _ => true) true 35 (.slice A len cap) d p) :
    ∃ l : List ByteArray, l.length = len ∧ len ≤ cap ∧ Kd.C Kd.string w A len l ∧ (l.map wS).sum + 1 ≤ Rows.uptoBulk d := by
  obtain ⟨fuel, hf⟩ := h
  rcases open_slice Tryz.underlying35 hf with ⟨hcs, hd⟩ | ⟨a, len', cap', m, n, D, Pl, hcs, hb, hl, hm, hmm, hx, hi⟩
  · simp [Value.cells] at hcs
    obtain ⟨rfl, rfl, rfl⟩ := hcs
    exact ⟨[], rfl, Nat.le_refl _, ⟨rfl, by omega, fun h => absurd h (by omega)⟩, by simp; exact one_le _⟩
  · simp [Value.cells] at hcs
    obtain ⟨rfl, rfl, rfl⟩ := hcs
    simp only [if_true] at hmm
    obtain rfl := hmm
    have hc9 : Tryz.prog.cellsOf 9 = 1 := by kernel_rfl
    have hel : ∀ i, i < len → ∃ s : ByteArray, (∃ c : List Value, c.length = 1 ∧ Kd.string.K w s c ∧ ∀ j u, c[j]? = some u → w.cell? (a.add (i * 1 + j)) = some u) ∧ wS s ≤ Rows.uptoBulk (D i) := by
      intro i hil
      obtain ⟨cs', hc, ht'⟩ := hi i (by omega)
      rw [hc9] at hc
      obtain ⟨s1, e1, x1, _⟩ := DataW.trod_string Tryz.underlying9 ht'
      subst e1
      obtain ⟨_, hcl, hat⟩ := World.cells?_some hc
      refine ⟨s1, ⟨[.string s1], rfl, rfl, fun j u hu => ?_⟩, ?_⟩
      · match j, hu with
        | 0, hu =>
          simp at hu
          rw [← hu]
          have := hat 0 (by decide)
          rw [Go.Deep.add_add] at this
          simpa using this
        | j + 1, hu => simp at hu
      · have hd : D i = .lit (.string s1.data.toList) := congrArg Prod.fst x1
        rw [hd]
        simp [Rows.uptoBulk, wS]
    obtain ⟨l, hll, hlp⟩ := list_of len hel
    refine ⟨l, hll, hl, ⟨hll, by simp [maxLen] at hm; omega, fun _ => ⟨a, rfl, fun j s hj => (hlp j s hj).1⟩⟩, ?_⟩
    have hx1 : d = .slice ((List.range len).map D) ((List.range (_ - len)).map fun j => D (len + j)) := congrArg Prod.fst hx
    rw [hx1]
    simp only [Rows.uptoBulk]
    have := sum_bulk wS D len l hll (fun i s hs => (hlp i s hs).2)
    omega
set_option maxRecDepth 100000 in
theorem open_str {H : Type} {enc : TypeId × Value → H} {w : World} {base : Nat} {v : Value} {d : DataW H} {p : List MemPlace} (hv : Value.okWide Tryz.prog w .any base 9 v) (h : DataW.Trod enc Tryz.prog w 0 (fun _ => true) true 9 v d p) :
    ∃ s : ByteArray, v = .string s ∧ s.size + 1 ≤ Rows.uptoBulk d := by
  obtain ⟨fuel, hf⟩ := h
  obtain ⟨s, e, x, _⟩ := DataW.trod_string Tryz.underlying9 hf
  obtain ⟨s2, rfl⟩ := okWide_string Tryz.underlying9 hv
  simp [Value.cells] at e
  subst e
  refine ⟨s2, rfl, ?_⟩
  have hd : d = .lit (.string s2.data.toList) := congrArg Prod.fst x
  rw [hd]
  simp [Rows.uptoBulk]
set_option maxRecDepth 100000 in
theorem open_match {H : Type} {enc : TypeId × Value → H} {w : World} {base : Nat} {v : Value} {d : DataW H} {p : List MemPlace} (hv : Value.okWide Tryz.prog w .any base 42 v) (h : DataW.Trod enc Tryz.prog w 0 (fun _ => true) true 42 v d p) :
    ∃ (g : S42) (am : Option Addr) (cm : Nat), v = .agg #[.bool g.f0, .string g.f1, .slice am g.f2.length cm, .int .i64 g.f3] ∧ g.f2.length ≤ cm ∧ Kd.C k67 w am g.f2.length g.f2 ∧ wM g + 1 ≤ Rows.uptoBulk d := by
  obtain ⟨fuel, hf⟩ := h
  obtain ⟨cs, rfl, hcs⟩ := okWide_struct Tryz.underlying42 hv
  have h4 : Tryz.prog.cellsOf 42 = 4 := by kernel_rfl
  rw [h4] at hcs
  obtain ⟨ys, n', hn', hy, hlen, hyl, hfl⟩ := DataW.trod_struct Tryz.underlying42 hf
  obtain ⟨x0, x1, x2, x3, rfl⟩ : ∃ x0 x1 x2 x3, cs = #[x0, x1, x2, x3] := by
    obtain ⟨l⟩ := cs
    match l, hcs with
    | [a, b, c, e], _ => exact ⟨a, b, c, e, rfl⟩
  have hk3 : Tryz.prog.cellsOf 3 = 1 := by kernel_rfl
  have hk4 : Tryz.prog.cellsOf 4 = 1 := by kernel_rfl
  have hk9 : Tryz.prog.cellsOf 9 = 1 := by kernel_rfl
  have hk22 : Tryz.prog.cellsOf 22 = 1 := by kernel_rfl
  obtain ⟨y0, y1, y2, y3, rfl⟩ : ∃ y0 y1 y2 y3, ys = [y0, y1, y2, y3] := by
    have h5 : ys.length = 4 := hyl
    match ys, h5 with
    | [a, b, c, e], _ => exact ⟨a, b, c, e, rfl⟩
  have f0 : DataW.trod enc Tryz.prog w 0 (fun _ => true) true n' 4 (([x0, x1, x2, x3].drop 0).take (Tryz.prog.cellsOf 4)) = some y0 := hfl 0 _ rfl
  have f1 : DataW.trod enc Tryz.prog w 0 (fun _ => true) true n' 9 (([x0, x1, x2, x3].drop 1).take (Tryz.prog.cellsOf 9)) = some y1 := hfl 1 _ rfl
  have f2 : DataW.trod enc Tryz.prog w 0 (fun _ => true) true n' 22 (([x0, x1, x2, x3].drop 2).take (Tryz.prog.cellsOf 22)) = some y2 := hfl 2 _ rfl
  have f3 : DataW.trod enc Tryz.prog w 0 (fun _ => true) true n' 3 (([x0, x1, x2, x3].drop 3).take (Tryz.prog.cellsOf 3)) = some y3 := hfl 3 _ rfl
  rw [hk4] at f0
  rw [hk9] at f1
  rw [hk22] at f2
  rw [hk3] at f3
  obtain ⟨b0, e0, _⟩ := DataW.trod_bool Tryz.underlying4 f0
  obtain ⟨s1, e1, z1, _⟩ := DataW.trod_string Tryz.underlying9 f1
  obtain ⟨A2, len2, cap2, l2, e2, hl2, hlc2, hC2, hb2⟩ := open_spans0 f2
  obtain ⟨n3, e3, _, _⟩ := DataW.trod_int Tryz.underlying3 f3
  simp at e0 e1 e2 e3
  subst e0
  subst e1
  subst e2
  subst e3
  subst hl2
  refine ⟨⟨b0, s1, l2, n3⟩, A2, cap2, rfl, hlc2, hC2, ?_⟩
  have hd : d = .agg [y0.1, y1.1, y2.1, y3.1] := congrArg Prod.fst hy
  have hw : Rows.uptoBulk y1.1 = s1.size + 1 := by
    rw [z1]
    simp [Rows.uptoBulk]
  rw [hd]
  simp only [Rows.uptoBulk, Rows.uptoBulkAll, wM]
  omega
theorem small_of {l : List S42} (h : (l.map wM).sum ≤ 1048576) : Small l := by
  have h1 := sum_len wM (fun m => by unfold wM; omega) l
  refine ⟨by omega, fun m hm => ?_, fun m hm => ?_⟩
  · have := sum_mem wM hm
    unfold wM at this
    unfold wM at h
    omega
  · have := sum_mem wM hm
    unfold wM at this
    unfold wM at h
    omega
theorem few_of {l : List S42} (h : (l.map wM).sum ≤ 1048576) : l.length ≤ 4000000 := by
  have h1 := sum_len wM (fun m => by unfold wM; omega) l
  omega
theorem match_of {g : S42} (h : wM g ≤ 1048576) : Small [g] := small_of (by simpa using h)
theorem keys_of {l : List ByteArray} (h : (l.map wS).sum ≤ 1048576) : Keys l := by
  have h1 := sum_len wS (fun m => by unfold wS; omega) l
  refine ⟨by omega, fun s hs => ?_⟩
  have := sum_mem wS hs
  unfold wS at this
  unfold wS at h
  omega
/-! What is laid. -/
abbrev laidL : List (String × DataW Unit) := Rows.fnHolesRow.laid
theorem star : ("*errors.errorString" : String) = "*" ++ "errors.errorString" := by decide
theorem row124 (u : TypeId) (h : Tryz.prog.typeName? 3 u = some "*errors.errorString") : u = 124 :=
  typeName_ptr_named (nm := "errors.errorString") (by rw [← star]; kernel_rfl) (by kernel_rfl) (by decide) u (by rw [← star]; exact h)
theorem spaces : (Rows.laid_strings_asciiSpace : DataW Unit) = Lib.tabData .u8 Lib.asciiSpaceTab := by kernel_rfl
theorem iface_cell {W : World} {nm : String} {text : List UInt8} {r : List (String × DataW Unit)} {g : Nat} (h : laidMet Tryz.prog ((nm, .iface "*errors.errorString" (.ptr (.agg [.lit (.string text)]))) :: r) W) (hg : Tryz.prog.globalNamed nm = some g) (ht : (Tryz.prog.globals[g]?).map (·.type) = some 73) : ∃ te pe, W.cell? ⟨g, 0, none⟩ = some (.iface te pe) := by
  obtain ⟨a0, s0, hv0, hc0, hs0, hz0⟩ := laid_sentinel h hg ht Tryz.underlying73 row124 Tryz.underlying124 Tryz.underlying126 rfl rfl Tryz.underlying9 (by kernel_rfl) (by kernel_rfl)
  have := World.var?_cell hg hv0 0
  exact ⟨124, .pointer (some a0), by simpa using this⟩
theorem laid_of {W : World} (h : laidMetH Tryz.prog laidL W) : Pi.Laid W := by
  rw [MakeChecks.laidMetH_plain _ _ _ (by kernel_rfl)] at h
  have h4 := h.tail.tail.tail.tail
  have h5 := h4.tail
  have h7 := h5.tail.tail
  rw [spaces] at h7
  exact ⟨Lib.tabIs_of_head (g := 0) (by kernel_rfl) (by kernel_rfl) Tryz.underlying123 Tryz.underlying5 (by kernel_rfl) (by kernel_rfl) h7, iface_cell (g := 2) h5 (by kernel_rfl) (by kernel_rfl), iface_cell (g := 3) h4 (by kernel_rfl) (by kernel_rfl)⟩
end Go.Proofs.YtnoolgbbpekomaaGreatDoor.Ro
