/- An argument that is a list of acts, read: its row, and what it weighs. -/
import Derived.Test.YtimakagmhikhfaaRows
import Derived.Test.YtimakagmhikhfaaMr
import Derived.WalkKit
import Derived.ProofKit
import Derived.OpenShut
import Derived.JoinedCond
import Derived.Deep.Slices
import Derived.Deep.Fields
import Derived.ChangeSame
namespace Go.Proofs.Ytimakagmhikhfaa.Ro
open Go.ChangeShapes Go.WideShapes Go.ChangeAt Go.RowKit Go.Deep Go.Proofs.YtimakagmhikhfaaW.PrintWords Go.Proofs.Ytimakagmhikhfaa.M Go.Proofs.Ytimakagmhikhfaa.Sm
set_option linter.unusedVariables false
set_option linter.unusedSimpArgs false
theorem one_le {H : Type} (d : DataW H) : 1 ≤ Rows.uptoBulk d := by
  cases d with
  | lit l => cases l <;> simp [Rows.uptoBulk]
  | nil => simp [Rows.uptoBulk]
  | ptr d => simp [Rows.uptoBulk]
  | slice elems spare => simp [Rows.uptoBulk]
  | agg parts => simp [Rows.uptoBulk]
  | iface t d => simp [Rows.uptoBulk]
  | map entries => simp [Rows.uptoBulk]
  | held h => simp [Rows.uptoBulk]
theorem append {H : Type} (l r : List (DataW H)) : Rows.uptoBulkAll (l ++ r) = Rows.uptoBulkAll l + Rows.uptoBulkAll r := by
  induction l with
  | nil => simp [Rows.uptoBulkAll]
  | cons x l ih => simp only [List.cons_append, Rows.uptoBulkAll, ih]; omega
theorem length_le {H : Type} (l : List (DataW H)) : l.length ≤ Rows.uptoBulkAll l := by
  induction l with
  | nil => simp [Rows.uptoBulkAll]
  | cons x r ih => have := one_le x; simp only [Rows.uptoBulkAll, List.length_cons]; omega
/-- One of each. -/
theorem list_of {α : Type} {P : Nat → α → Prop} : ∀ n : Nat, (∀ i, i < n → ∃ s, P i s) → ∃ l : List α, l.length = n ∧ ∀ i s, l[i]? = some s → P i s
  | 0, _ => ⟨[], rfl, fun i s h => by simp at h⟩
  | n + 1, h => by
    obtain ⟨l, hl, hp⟩ := list_of n (fun i hi => h i (by omega))
    obtain ⟨s, hs⟩ := h n (by omega)
    refine ⟨l ++ [s], by simp [hl], fun i s2 h2 => ?_⟩
    by_cases hi : i < n
    · rw [List.getElem?_append_left (by omega)] at h2
      exact hp i s2 h2
    · have hin : i < (l ++ [s]).length := (List.getElem?_eq_some_iff.1 h2).1
      have : i = n := by simp [hl] at hin; omega
      subst this
      rw [List.getElem?_append_right (by omega)] at h2
      simp [hl] at h2
      subst h2
      exact hs
theorem part_le {H : Type} {d : DataW H} {l : List (DataW H)} (h : d ∈ l) : Rows.uptoBulk d ≤ Rows.uptoBulkAll l := by
  induction l with
  | nil => cases h
  | cons x r ih =>
    simp only [Rows.uptoBulkAll]
    cases List.mem_cons.1 h with
    | inl e => subst e; omega
    | inr e => have := ih e; omega
theorem tot_app (a b : List S31) : tot (a ++ b) = tot a + tot b := by simp [tot]
theorem tot_le {H : Type} (D : Nat → DataW H) : ∀ (n : Nat) (l : List S31), l.length = n → (∀ i s, l[i]? = some s → weight s ≤ Rows.uptoBulk (D i)) → tot l ≤ Rows.uptoBulkAll ((List.range n).map D)
  | 0, l, hl, _ => by
    have : l = [] := List.eq_nil_of_length_eq_zero hl
    subst this
    simp [tot]
  | n + 1, l, hl, h => by
    have hn : n < l.length := by omega
    have e : l = l.take n ++ [l[n]] := by
      have := List.take_append_getElem hn
      rw [List.take_add_one, List.getElem?_eq_getElem hn] at *
      simp
      rw [← hl]
      simp
    have h1 := tot_le D n (l.take n) (by rw [List.length_take]; omega) (fun i s hs => h i s (by
      have hi : i < n := by have := (List.getElem?_eq_some_iff.1 hs).1; rw [List.length_take] at this; omega
      rw [List.getElem?_take, if_pos hi] at hs
      exact hs))
    have h2 := h n l[n] (List.getElem?_eq_getElem hn)
    rw [e, tot_app, List.range_succ, List.map_append, append]
    simp only [tot, List.map_cons, List.map_nil, List.sum_cons, List.sum_nil, Rows.uptoBulkAll] at *
    omega
section
variable {H : Type} {enc : TypeId × Value → H} {P : Program} {w : World} {base : Nat} {spare : Nat → Bool} {held : Bool}
theorem open_slice_fields {t e : TypeId} {fs : Array Field} {fuel : Nat} {cs : List Value} {x : DataW H × List MemPlace} (ht : P.underlying t = some (.slice e)) (he : P.underlying e = some (.struct fs))
    (hone : oneCellFields P fs = true) (hC : P.cellsOf e = fs.size) (h : DataW.trod enc P w base spare held fuel t cs = some x) :
    (cs = [.slice none 0 0] ∧ x = (.nil, [])) ∨
    ∃ (a : Addr) (len cap m : Nat) (D : Nat → DataW H) (Pl : Nat → List MemPlace), cs = [.slice (some a) len cap] ∧ base ≤ a.block ∧ len ≤ cap ∧ cap ≤ maxLen ∧ m = (if spare a.block then cap else len) ∧
      x = (.slice ((List.range len).map D) ((List.range (m - len)).map fun j => D (len + j)), MemPlace.row a (m * fs.size) ++ (List.range m).flatMap Pl) ∧
      ∀ i, i < m → ∃ (ys : List (DataW H × List MemPlace)) (n : Nat), D i = .agg (ys.map (·.1)) ∧ Pl i = ys.flatMap (·.2) ∧ ys.length = fs.size ∧
        ∀ (j : Nat) (f : Field), fs[j]? = some f → ∃ (v : Value) (y : DataW H × List MemPlace), w.cell? (a.add (i * fs.size + j)) = some v ∧ ys[j]? = some y ∧ DataW.trod enc P w base spare held n f.type [v] = some y := by
  rcases open_slice ht h with h0 | ⟨a, len, cap, m, n, D, Pl, hcs, hb, hl, hm, hmm, hx, hi⟩
  · exact .inl h0
  · refine .inr ⟨a, len, cap, m, D, Pl, hcs, hb, hl, hm, hmm, by rw [hC] at hx; exact hx, fun i him => ?_⟩
    obtain ⟨cs', hc, ht'⟩ := hi i him
    rw [hC] at hc
    obtain ⟨ys, n', hn', hy, hlen, hyl, hf⟩ := DataW.trod_struct he ht'
    obtain ⟨_, hcl, hat⟩ := World.cells?_some hc
    simp only [Prod.mk.injEq] at hy
    refine ⟨ys, n', hy.1, hy.2, hyl, fun j f hj => ?_⟩
    obtain ⟨ho, hk⟩ := hone_of hone j f hj
    have hjl : j < fs.size := (Array.getElem?_eq_some_iff.1 hj).1
    have hcell := hat j hjl
    have hv : cs'[j]? = some (cs'[j]'(by omega)) := List.getElem?_eq_getElem (by omega)
    have h1 := hf j f hj
    rw [ho, hk] at h1
    have hone' : (cs'.drop j).take 1 = [cs'[j]'(by omega)] := by
      rw [List.drop_eq_getElem_cons (by omega)]
      rfl
    rw [hone'] at h1
    have hys : ys[j]? = some (ys[j]'(by omega)) := List.getElem?_eq_getElem (by omega)
    refine ⟨_, _, ?_, hys, h1.trans hys⟩
    rw [← Go.Deep.add_add, hcell, hv]
end
def Good (w : World) (a : Addr) {H : Type} (D : Nat → DataW H) (i : Nat) (s : S31) : Prop :=
  (∃ c : List Value, c.length = 3 ∧ k31.K w s c ∧ ∀ j u, c[j]? = some u → w.cell? (a.add (i * 3 + j)) = some u) ∧ weight s ≤ Rows.uptoBulk (D i)
theorem cells3 {w : World} {a : Addr} {i : Nat} {x y z : Value} (h0 : w.cell? (a.add (i * 3 + 0)) = some x) (h1 : w.cell? (a.add (i * 3 + 1)) = some y) (h2 : w.cell? (a.add (i * 3 + 2)) = some z) : ∀ j u, [x, y, z][j]? = some u → w.cell? (a.add (i * 3 + j)) = some u := by
  intro j u hj
  match j, hj with
  | 0, hj => simp at hj; rw [← hj]; exact h0
  | 1, hj => simp at hj; rw [← hj]; exact h1
  | 2, hj => simp at hj; rw [← hj]; exact h2
  | j + 3, hj => simp at hj
theorem open_acts {H : Type} {enc : TypeId × Value → H} {w : World} {A : Option Addr} {len cap : Nat} {d : DataW H} {p : List MemPlace} (h : DataW.Trod enc Try.prog w 0 (fun _ => true) true 22 (.slice A len cap) d p) :
    ∃ l : List S31, l.length = len ∧ len ≤ cap ∧ Kd.C k31 w A len l ∧ tot l ≤ Rows.uptoBulk d := by
  obtain ⟨fuel, hf⟩ := h
  rcases open_slice_fields Try.underlying22 Try.underlying31 (by kernel_rfl) (by kernel_rfl) hf with ⟨hcs, hd⟩ | ⟨a, len', cap', m, D, Pl, hcs, hb, hl, hm, hmm, hx, hi⟩
  · simp [Value.cells] at hcs
    obtain ⟨rfl, rfl, rfl⟩ := hcs
    exact ⟨[], rfl, Nat.le_refl _, ⟨rfl, by omega, fun h => absurd h (by omega)⟩, by simp [tot]⟩
  · simp [Value.cells] at hcs
    obtain ⟨rfl, rfl, rfl⟩ := hcs
    simp only [if_true] at hmm
    obtain rfl := hmm
    have hel : ∀ i, i < len → ∃ s : S31, Good w a D i s := by
      intro i hil
      obtain ⟨ys, n, hD, hP, hlen, hfld⟩ := hi i (by omega)
      obtain ⟨v0, y0, c0, hy0, t0⟩ := hfld 0 _ rfl
      obtain ⟨v1, y1, c1, hy1, t1⟩ := hfld 1 _ rfl
      obtain ⟨v2, y2, c2, hy2, t2⟩ := hfld 2 _ rfl
      obtain ⟨n0, e0, _, _⟩ := DataW.trod_int Try.underlying3 t0
      obtain ⟨n1, e1, _, _⟩ := DataW.trod_int Try.underlying3 t1
      injection e0 with e0
      injection e1 with e1
      subst e0
      subst e1
      have hbk : Rows.uptoBulk y2.1 + 1 ≤ Rows.uptoBulk (D i) := by
        rw [hD]
        simp only [Rows.uptoBulk]
        have := part_le (d := y2.1) (l := ys.map (·.1)) (List.mem_map_of_mem (f := (·.1)) (List.mem_of_getElem? hy2))
        omega
      rcases open_ints Try.underlying29 Try.underlying3 (by kernel_rfl) t2 with ⟨e2, x2⟩ | ⟨a2, l2, cap2, zs, e2, _, hl2, hm2, hz2, x2, hcell, _⟩
      · injection e2 with e2
        subst e2
        exact ⟨⟨n0, n1, []⟩, ⟨_, rfl, k31_mk w ⟨n0, n1, []⟩ (A2 := none) (c2 := 0) (Nat.le_refl _) ⟨rfl, by simp, fun h => absurd h (by simp)⟩, cells3 c0 c1 c2⟩, by simp only [weight]; have := one_le y2.1; simp; omega⟩
      · injection e2 with e2
        subst e2
        simp only [if_true] at hz2
        have hl3 : (zs.take l2).length = l2 := by rw [List.length_take]; omega
        have hrow : (Kd.int .i64).C w (some a2) l2 (zs.take l2) := by
          refine ⟨hl3, by simp [maxLen] at hm2; omega, fun _ => ⟨a2, rfl, fun j q hj => ⟨[.int .i64 q], rfl, rfl, fun k u hk => ?_⟩⟩⟩
          match k, hk with
          | 0, hk =>
            simp at hk
            have hj2 : j < l2 := by have := (List.getElem?_eq_some_iff.1 hj).1; omega
            rw [List.getElem?_take, if_pos hj2] at hj
            have h5 := hcell j (by omega)
            rw [List.getD_eq_getElem?_getD, hj] at h5
            rw [← hk, show j * (Kd.int .i64).sz + 0 = j from Nat.mul_one j]
            simpa using h5
          | k + 1, hk => simp at hk
        refine ⟨⟨n0, n1, zs.take l2⟩, ⟨_, rfl, k31_mk w ⟨n0, n1, zs.take l2⟩ (A2 := some a2) (c2 := cap2) (by simp only [hl3]; exact hl2) (by simp only [hl3]; exact hrow), ?_⟩, ?_⟩
        · simp only [hl3]
          exact cells3 c0 c1 c2
        · simp only [weight, hl3]
          have hb2 : l2 + 1 ≤ Rows.uptoBulk y2.1 := by
            rw [x2]
            simp only [Rows.uptoBulk]
            have h6 := length_le (lits (H := H) .i64 (zs.take l2))
            have h7 : (lits (H := H) .i64 (zs.take l2)).length = l2 := by simp [lits]; omega
            omega
          omega
    obtain ⟨l, hll, hlp⟩ := list_of len hel
    refine ⟨l, hll, hl, ⟨hll, by simp [maxLen] at hm; omega, fun _ => ⟨a, rfl, fun j s hj => (hlp j s hj).1⟩⟩, ?_⟩
    have hx1 : d = .slice ((List.range len).map D) ((List.range (_ - len)).map fun j => D (len + j)) := congrArg Prod.fst hx
    rw [hx1]
    simp only [Rows.uptoBulk]
    have := tot_le D len l hll (fun i s hs => (hlp i s hs).2)
    omega
end Go.Proofs.Ytimakagmhikhfaa.Ro
