/- What a call keeps of memory, and what the operations on a map do to its entries, told by the entries themselves. -/
import Derived.Test.YtimakagmhikhfaaWKept
import Derived.Maps.Own
import Derived.Maps.OwnOps
import Derived.Maps.OwnSet
import Derived.Maps.RangeWalk
set_option linter.unusedVariables false
set_option linter.unusedSimpArgs false
namespace Go.Proofs.Ytimakagmhikhfaa.Fr
open Go.RowKit Go.Proofs.YtimakagmhikhfaaW.PrintWords Go.MapKept

/-! ### the frame -/
/-- All blocks that were there, but those of S, are as they were. -/
structure Kp (w w' : World) (S : Nat → Prop) : Prop where
  b : Below 0 w w'
  k : ∀ i, i < w.heap.size → ¬ S i → w'.heap[i]? = w.heap[i]?
namespace Kp
variable {w w1 w2 : World} {S S2 : Nat → Prop}
theorem refl (w : World) (S : Nat → Prop) : Kp w w S := ⟨Below.refl _ _, fun _ _ _ => rfl⟩
theorem size (h : Kp w w1 S) : w.heap.size ≤ w1.heap.size := h.b.size
theorem mono (h : Kp w w1 S) (hs : ∀ i, S i → S2 i) : Kp w w1 S2 := ⟨h.b, fun i hi hn => h.k i hi (fun x => hn (hs i x))⟩
theorem trans (h : Kp w w1 S) (h2 : Kp w1 w2 S2) (hs : ∀ i, S2 i → S i ∨ w.heap.size ≤ i) : Kp w w2 S :=
  ⟨h.b.trans h2.b, fun i hi hn => (h2.k i (Nat.lt_of_lt_of_le hi h.size) (fun x => (hs i x).elim hn (fun y => by omega))).trans (h.k i hi hn)⟩
theorem alloc (h : Kp w w1 S) (o : Obj) : Kp w (w1.alloc o) S := h.trans (S2 := fun _ => False) ⟨(Below.refl 0 w1).alloc (Nat.zero_le _) o, fun i hi _ => Below.heap_alloc w1 o i hi⟩ (fun _ x => x.elim)
theorem drew (h : Kp w w1 S) : Kp w w1.drew S := ⟨h.b.drew, h.k⟩
theorem drewN (h : Kp w w1 S) (n : Nat) : Kp w (w1.drewN n) S := ⟨pw_below_drewN h.b n, h.k⟩
theorem setCell (h : Kp w w1 S) {p : Addr} (hp : S p.block ∨ w.heap.size ≤ p.block) (u : Value) : Kp w (w1.setCell p u) S :=
  h.trans (S2 := fun i => i = p.block) ⟨(Below.refl 0 w1).setCell (Nat.zero_le _) u, fun i _ hn => Below.heap_setCell w1 p u i hn⟩ (fun i x => by rw [x]; exact hp)
theorem grown (h : Kp w w1 S) {row : Option Nat} (hg : w1.grownBy w2 row) (hr : ∀ k, row = some k → S k ∨ w.heap.size ≤ k) : Kp w w2 S :=
  h.trans (S2 := fun i => row = some i) ⟨(Below.refl 0 w1).grown hg (Nat.zero_le _) (fun _ _ => Nat.zero_le _), fun i hi hn => hg.block i hi (fun e => hn e.symm)⟩ hr
theorem of_below (h : Below w.heap.size w w1) (S : Nat → Prop) : Kp w w1 S := ⟨h.mono (Nat.zero_le _), fun i hi _ => h.block i hi⟩
theorem below (h : Kp w w1 S) (h2 : Below w1.heap.size w1 w2) : Kp w w2 S := h.trans (S2 := fun _ => False) (of_below h2 _) (fun _ x => x.elim)
theorem drawn (h : Kp w w1 S) (h2 : Drawn0 w1 w2) : Kp w w2 S := by obtain ⟨n, rfl⟩ := h2; exact h.drewN n
theorem blk (h : Kp w w1 S) {i : Nat} {o : Obj} (hb : w.heap[i]? = some o) (hn : ¬ S i) : w1.heap[i]? = some o := (h.k i (blk_lt hb) hn).trans hb
theorem cell (h : Kp w w1 S) {a : Addr} {v : Value} (hb : w.cell? a = some v) (hn : ¬ S a.block) : w1.cell? a = some v := by
  have := h.k a.block (World.block_lt_of_cell? w a hb) hn
  simpa [World.cell?, this] using hb
theorem kept (h : Kp w w1 S) : Kept w w1 S := ⟨h.size, h.k⟩
theorem toBelow (h : Kp w w1 S) (hs : ∀ i, S i → w.heap.size ≤ i) : Below w.heap.size w w1 := ⟨h.b.os, h.b.tape, h.b.output, h.b.size, fun i hi => h.k i hi (fun x => by have := hs i x; omega)⟩
theorem toBelowB (h : Kp w w1 S) {B : Nat} (hB : B ≤ w.heap.size) (hs : ∀ i, S i → B ≤ i) : Below B w w1 := ⟨h.b.os, h.b.tape, h.b.output, h.b.size, fun i hi => h.k i (by omega) (fun x => by have := hs i x; omega)⟩
end Kp

/-! ### a map's entries -/
/-- The world, its block r another object. -/
def setO (w : World) (r : Nat) (o : Obj) : World := { w with heap := w.heap.setIfInBounds r o }
theorem setO_same {w : World} {r : Nat} {o o' : Obj} (h : w.heap[r]? = some o') : (setO w r o).heap[r]? = some o := by
  have := blk_lt h
  simp [setO, this]
theorem setO_far (w : World) {r i : Nat} (o : Obj) (h : i ≠ r) : (setO w r o).heap[i]? = w.heap[i]? := by simp [setO, Ne.symm h]
theorem setO_size (w : World) (r : Nat) (o : Obj) : (setO w r o).heap.size = w.heap.size := by simp [setO]
theorem Kp.setO {w w1 : World} {S : Nat → Prop} (h : Kp w w1 S) {r : Nat} (hr : S r ∨ w.heap.size ≤ r) (o : Obj) : Kp w (setO w1 r o) S :=
  h.trans (S2 := fun i => i = r) ⟨⟨rfl, rfl, rfl, by rw [setO_size]; exact Nat.le_refl _, fun k hk => absurd hk (Nat.not_lt_zero _)⟩, fun i _ hn => setO_far w1 o hn⟩ (fun i x => by rw [x]; exact hr)
/-- An entry: its key, what it holds, its stamp. -/
abbrev Ent := Int × Value × Nat
def rawE (q : IntKind) (x : Ent) : MapEntry := ⟨.int q x.1, x.2.1, x.2.2⟩
def rawM (q : IntKind) (es : List Ent) : Array MapEntry := (es.map (rawE q)).toArray
def lookE (k : Int) : List Ent → Option Value
  | [] => none
  | x :: t => if x.1 = k then some x.2.1 else lookE k t
def putE (k : Int) (v : Value) : List Ent → List Ent
  | [] => []
  | x :: t => if x.1 = k then (x.1, v, x.2.2) :: t else x :: putE k v t
def drop_ (k : Int) : List Ent → List Ent
  | [] => []
  | x :: t => if x.1 = k then t else x :: drop_ k t
def placeE (k : Int) : List Ent → Nat
  | [] => 0
  | x :: t => if x.1 = k then 0 else placeE k t + 1
theorem look_none {k : Int} {es : List Ent} : lookE k es = none ↔ ∀ x ∈ es, x.1 ≠ k := by
  induction es with
  | nil => simp [lookE]
  | cons x t ih =>
    simp only [lookE]
    by_cases h : x.1 = k
    · simp [h]
    · simp [h, ih]
theorem findNow_raw (q : IntKind) (k : Int) : ∀ (es : List Ent) (i : Nat), Instr.findNow (.int q) (.int q k) (es.map (rawE q)) i = some ((lookE k es).map fun v => (i + placeE k es, v))
  | [], i => rfl
  | x :: t, i => by
    simp only [List.map_cons, Instr.findNow, rawE, Instr.sameNow, if_true, lookE, placeE]
    by_cases h : x.1 = k
    · subst h; simp
    · have h2 : (k == x.1) = false := by simp; exact fun e => h e.symm
      have ih := findNow_raw q k t (i + 1)
      simp only [h2, h, if_false]
      rw [show (List.map (rawE q) t) = List.map (rawE q) t from rfl] at ih
      rw [ih]
      cases lookE k t with
      | none => rfl
      | some v => simp; omega
section
variable {P : Program} {w : World} {q : IntKind} {t kt et : TypeId} {r ck : Nat} {es : List Ent} {k : Int} {z : Value}
theorem run_checkKey_int (hk : P.underlying kt = some (.int q)) (e : Bool) (n : Nat) : (Instr.checkKey e (n + 1) kt (.int q k)).run P w = .ok () w :=
  run_checkKey hk (by simp [IsKey]) e n
theorem run_findKey_int (hk : P.underlying kt = some (.int q)) : (Instr.findKey kt (.int q k) (rawM q es).toList).run P w = .ok ((lookE k es).map fun v => (placeE k es, v)) w := by
  have h := findNow_raw q k es 0
  simp only [Nat.zero_add] at h
  exact run_findKey hk (by simpa [rawM] using h)
theorem run_getMap (hb : w.heap[r]? = some (.map (rawM q es) ck)) : (getObj r).run P w = .ok (.map (rawM q es) ck) w := by simp [getObj, Sem.run, hb]
theorem run_look_ok (ht : P.underlying t = some (.map kt et)) (hk : P.underlying kt = some (.int q)) (hz : (zeroValue et).run P w = .ok z w) (hb : w.heap[r]? = some (.map (rawM q es) ck)) :
    (Instr.lookup t (.map (some r)) (.int q k) true).run P w = .ok (.tuple #[(lookE k es).getD z, .bool (lookE k es).isSome]) w := by
  simp only [Instr.lookup]
  cases h : lookE k es with
  | none => simp [run_underlying ht, run_getMap hb, run_checkKey_int hk, run_findKey_int hk, h, hz, Result.andThen]
  | some v => simp [run_underlying ht, run_getMap hb, run_checkKey_int hk, run_findKey_int hk, h, Result.andThen]
theorem run_look (ht : P.underlying t = some (.map kt et)) (hk : P.underlying kt = some (.int q)) (hz : (zeroValue et).run P w = .ok z w) (hb : w.heap[r]? = some (.map (rawM q es) ck)) :
    (Instr.lookup t (.map (some r)) (.int q k) false).run P w = .ok ((lookE k es).getD z) w := by
  simp only [Instr.lookup]
  cases h : lookE k es with
  | none => simp [run_underlying ht, run_getMap hb, run_checkKey_int hk, run_findKey_int hk, h, hz, Result.andThen]
  | some v => simp [run_underlying ht, run_getMap hb, run_checkKey_int hk, run_findKey_int hk, h, Result.andThen]
theorem raw_at {i : Nat} (h : lookE k es ≠ none) (hi : i = placeE k es) : ∃ x : Ent, (rawM q es)[i]? = some (rawE q x) ∧ x.1 = k := by
  subst hi
  induction es with
  | nil => simp [lookE] at h
  | cons x t ih =>
    simp only [lookE] at h
    by_cases e : x.1 = k
    · exact ⟨x, by simp [rawM, placeE, e], e⟩
    · rw [if_neg e] at h
      obtain ⟨y, h1, h2⟩ := ih h
      refine ⟨y, ?_, h2⟩
      simp only [rawM, placeE, e, if_false, List.map_cons, List.getElem?_toArray, List.getElem?_cons_succ] at h1 ⊢
      exact h1
theorem raw_put (v : Value) (h : lookE k es ≠ none) : (rawM q es).modify (placeE k es) (fun e => { e with key := .int q k, val := v }) = rawM q (putE k v es) := by
  apply Array.toList_inj.1
  rw [Array.toList_modify]
  simp only [rawM]
  induction es with
  | nil => simp [lookE] at h
  | cons x t ih =>
    simp only [lookE] at h
    by_cases e : x.1 = k
    · subst e; simp [placeE, putE, rawE, List.modify]
    · rw [if_neg e] at h
      have := ih h
      simp only [placeE, putE, e, if_false, List.map_cons, List.modify_succ_cons]
      rw [this]
theorem place_lt : ∀ {es : List Ent}, (lookE k es).isSome → placeE k es < es.length
  | [], h => by simp [lookE] at h
  | x :: t, h => by
    simp only [lookE] at h
    simp only [placeE]
    by_cases e : x.1 = k
    · simp [e]
    · rw [if_neg e] at h; simp [e]; exact place_lt h
theorem raw_drop : (lookE k es).isSome → (rawM q es).eraseIdxIfInBounds (placeE k es) = rawM q (drop_ k es) := by
  intro h
  apply Array.toList_inj.1
  have hlt := place_lt h
  unfold Array.eraseIdxIfInBounds
  rw [dif_pos (by simpa [rawM] using hlt), Array.toList_eraseIdx]
  simp only [rawM]
  clear hlt
  induction es with
  | nil => simp [lookE] at h
  | cons x t ih =>
    simp only [lookE] at h
    by_cases e : x.1 = k
    · subst e; simp [placeE, drop_]
    · rw [if_neg e] at h
      have := ih h
      simp only [placeE, drop_, e, if_false, List.map_cons, List.eraseIdx_cons_succ]
      rw [this]
theorem drop_none (h : lookE k es = none) : drop_ k es = es := by
  induction es with
  | nil => rfl
  | cons x t ih =>
    simp only [lookE] at h
    by_cases e : x.1 = k
    · simp [e] at h
    · rw [if_neg e] at h
      simp only [drop_, e, if_false]
      rw [ih h]
/-- What a store leaves, and the clock behind it. -/
def storedE (k : Int) (v : Value) (ck : Nat) (es : List Ent) : List Ent := if (lookE k es).isSome then putE k v es else es ++ [(k, v, ck)]
def clockE (k : Int) (ck : Nat) (es : List Ent) : Nat := if (lookE k es).isSome then ck else ck + 1
theorem run_setMap {o' : Obj} {m : Array MapEntry} {c : Nat} (hb : w.heap[r]? = some (.map m c)) : (Go.setObj r o').run P w = .ok () (setO w r o') := by simp [Go.setObj, Sem.run, hb, setO]
theorem run_store_map (v : Value) (ht : P.underlying t = some (.map kt et)) (hk : P.underlying kt = some (.int q)) (hb : w.heap[r]? = some (.map (rawM q es) ck)) :
    (Instr.mapUpdate t (.map (some r)) (.int q k) v).run P w = .ok () (setO w r (.map (rawM q (storedE k v ck es)) (clockE k ck es))) := by
  simp only [Instr.mapUpdate]
  cases h : lookE k es with
  | none =>
    simp [run_underlying ht, run_getMap hb, run_checkKey_int hk, run_findKey_int hk, h, Result.andThen, run_setMap hb, storedE, clockE]
    simp [rawM, rawE]
  | some u =>
    obtain ⟨x, hx, e⟩ := raw_at (q := q) (es := es) (k := k) (by rw [h]; simp) rfl
    have hp := raw_put (q := q) (es := es) (k := k) v (by rw [h]; simp)
    simp [run_underlying ht, run_getMap hb, run_checkKey_int hk, run_findKey_int hk, h, Result.andThen, hx, rawE, e, Instr.keyThatStays, Instr.sameBits, run_setMap hb, storedE, clockE, ← hp]
theorem run_drop_map (ty : TypeId) (ht : P.underlying t = some (.map kt et)) (hk : P.underlying kt = some (.int q)) (hb : w.heap[r]? = some (.map (rawM q es) ck)) :
    (Builtin.delete_ #[t, kt] ty #[.map (some r), .int q k]).run P w = .ok (.tuple #[]) (setO w r (.map (rawM q (drop_ k es)) ck)) := by
  simp only [Builtin.delete_]
  cases h : lookE k es with
  | none => simp [run_underlying ht, run_getMap hb, run_checkKey_int hk, run_findKey_int hk, h, Result.andThen, run_setMap hb, drop_none h]
  | some u =>
    have hp := raw_drop (q := q) (es := es) (k := k) (by rw [h]; rfl)
    simp [run_underlying ht, run_getMap hb, run_checkKey_int hk, run_findKey_int hk, h, Result.andThen, run_setMap hb, hp]
theorem run_len_map (ty : TypeId) (ht : P.underlying t = some (.map kt et)) (hb : w.heap[r]? = some (.map (rawM q es) ck)) :
    (Builtin.len_ #[t] ty #[.map (some r)]).run P w = .ok (.int .i64 (es.length : Int)) w := by
  simp only [Builtin.len_]
  simp [run_underlying ht, run_getMap hb, Result.andThen, goInt, rawM]
end
/-! ### the operations, for a walk -/
section
variable {P : Program} {ops : Array Oper} {rest : List Oper} {o : Oper} {a : Act} {Q : Exit → Act → World → Prop} {q : IntKind} {t kt et : TypeId} {b r ck : Nat} {es : List Ent} {k : Int}
theorem wpL_look_ok (w : World) (hg : o.guard = none) (m x : Operand) (hop : o.op = Op.lookup t m x true) (z : Value) (ht : P.underlying t = some (.map kt et)) (hk : P.underlying kt = some (.int q)) (hz : (zeroValue et).run P w = .ok z w)
    (hm : a.eval m = .map (some b)) (hx : a.eval x = .int q k) (hb : w.heap[b]? = some (.map (rawM q es) ck))
    (h : wpList P ops Q rest (a.put o.dst (.tuple #[(lookE k es).getD z, .bool (lookE k es).isSome])) w) : wpList P ops Q (o :: rest) a w := by
  refine wpList_plain hg fun K' hK' => ?_
  have hrun := run_look_ok (k := k) ht hk hz hb
  unfold Oper.wp
  simp [execOp, hop, hm, hx, hrun, Result.andThen]
  exact hK' _ _ h
theorem wpL_look (w : World) (hg : o.guard = none) (m x : Operand) (hop : o.op = Op.lookup t m x false) (z : Value) (ht : P.underlying t = some (.map kt et)) (hk : P.underlying kt = some (.int q)) (hz : (zeroValue et).run P w = .ok z w)
    (hm : a.eval m = .map (some b)) (hx : a.eval x = .int q k) (hb : w.heap[b]? = some (.map (rawM q es) ck))
    (h : wpList P ops Q rest (a.put o.dst ((lookE k es).getD z)) w) : wpList P ops Q (o :: rest) a w := by
  refine wpList_plain hg fun K' hK' => ?_
  have hrun := run_look (k := k) ht hk hz hb
  unfold Oper.wp
  simp [execOp, hop, hm, hx, hrun, Result.andThen]
  exact hK' _ _ h
theorem wpL_store (w : World) (hg : o.guard = none) (m x v : Operand) (hop : o.op = Op.mapUpdate t m x v) (val : Value) (ht : P.underlying t = some (.map kt et)) (hk : P.underlying kt = some (.int q))
    (hm : a.eval m = .map (some b)) (hx : a.eval x = .int q k) (hv : a.eval v = val) (hb : w.heap[b]? = some (.map (rawM q es) ck))
    (h : wpList P ops Q rest (a.put o.dst undef) (setO w b (.map (rawM q (storedE k val ck es)) (clockE k ck es)))) : wpList P ops Q (o :: rest) a w := by
  refine wpList_plain hg fun K' hK' => ?_
  have hrun := run_store_map (k := k) val ht hk hb
  unfold Oper.wp
  simp [execOp, hop, hm, hx, hv, hrun, Result.andThen]
  exact hK' _ _ h
theorem wpL_drop (w : World) (hg : o.guard = none) (m x : Operand) (hop : o.op = Op.call { callee := Callee.builtin Builtin.delete, args := #[m, x], argTypes := #[t, kt] }) (ht : P.underlying t = some (.map kt et)) (hk : P.underlying kt = some (.int q))
    (hm : a.eval m = .map (some b)) (hx : a.eval x = .int q k) (hb : w.heap[b]? = some (.map (rawM q es) ck))
    (h : wpList P ops Q rest (a.put o.dst (.tuple #[])) (setO w b (.map (rawM q (drop_ k es)) ck))) : wpList P ops Q (o :: rest) a w := by
  refine wpList_plain hg fun K' hK' => ?_
  have hrun := run_drop_map (k := k) o.type ht hk hb
  unfold Oper.wp
  simp [execOp, hop, resolve, invoke, builtin, hm, hx, hrun, Result.andThen]
  exact hK' _ _ h
theorem wpL_len (w : World) (hg : o.guard = none) (m : Operand) (hop : o.op = Op.call { callee := Callee.builtin Builtin.len, args := #[m], argTypes := #[t] }) (ht : P.underlying t = some (.map kt et))
    (hm : a.eval m = .map (some b)) (hb : w.heap[b]? = some (.map (rawM q es) ck))
    (h : wpList P ops Q rest (a.put o.dst (.int .i64 (es.length : Int))) w) : wpList P ops Q (o :: rest) a w := by
  refine wpList_plain hg fun K' hK' => ?_
  have hrun := run_len_map o.type ht hb
  unfold Oper.wp
  simp [execOp, hop, resolve, invoke, builtin, hm, hrun, Result.andThen]
  exact hK' _ _ h
theorem wpL_range (w : World) (hg : o.guard = none) (m : Operand) (hop : o.op = Op.range t m) (ht : P.underlying t = some (.map kt et))
    (hm : a.eval m = .map (some b)) (hb : w.heap[b]? = some (.map (rawM q es) ck))
    (h : wpList P ops Q rest (a.put o.dst (.pointer (some ⟨w.heap.size, 0, none⟩))) (w.alloc (.mapIter (some b) ck #[] ck))) : wpList P ops Q (o :: rest) a w := by
  refine wpList_plain hg fun K' hK' => ?_
  have hrun : (Instr.range t (.map (some b))).run P w = .ok (.pointer (some ⟨w.heap.size, 0, none⟩)) (w.alloc (.mapIter (some b) ck #[] ck)) := by
    simp only [Instr.range, Sem.run_bind, run_underlying ht, run_getMap hb, Result.andThen]
    rfl
  unfold Oper.wp
  simp [execOp, hop, hm, hrun, Result.andThen]
  exact hK' _ _ h
theorem wpL_next (w : World) (hg : o.guard = none) (it : Operand) (hop : o.op = Op.next it false) (since : Nat) (seen : Array Nat)
    (hit : a.eval it = .pointer (some ⟨r, 0, none⟩)) (hr : w.heap[r]? = some (.mapIter (some b) since seen ck)) (hb : w.heap[b]? = some (.map (rawM q es) ck)) (hrb : r ≠ b) (hs : ∀ x ∈ es, x.2.2 < since) (hsc : since ≤ ck) (hn : es.Pairwise (fun x y => x.2.2 < y.2.2))
    (hDone : (∀ x ∈ es, x.2.2 ∈ seen) → wpList P ops Q rest (a.put o.dst (.tuple #[.bool false])) w)
    (hMore : ∀ x ∈ es, x.2.2 ∉ seen → ∀ w1, (w1 = w ∨ w1 = w.drew) → (Instr.entry (.pointer (some ⟨r, 0, none⟩))).run P (setO w1 r (.mapIter (some b) since (seen.push x.2.2) ck)) = .ok (.tuple #[.int q x.1, x.2.1]) (setO w1 r (.mapIter (some b) since (seen.push x.2.2) ck)) →
      wpList P ops Q rest (a.put o.dst (.tuple #[.bool true, .int q x.1, x.2.1])) (setO w1 r (.mapIter (some b) since (seen.push x.2.2) ck))) : wpList P ops Q (o :: rest) a w := by
  refine wpList_plain hg fun K' hK' => ?_
  unfold Oper.wp
  have hold : ∀ x ∈ (rawM q es).toList, x.born < since := by
    intro e he
    obtain ⟨x, hx, rfl⟩ := List.mem_map.1 (show e ∈ es.map (rawE q) by simpa [rawM] using he)
    exact hs x hx
  rcases run_next_at (P := P) w o.type r b since ck seen (rawM q es) ck hr hb hold hsc with ⟨h0, hrun⟩ | ⟨e, he, w1, hw1, hrun⟩
  · simp [execOp, hop, hit, hrun, Result.andThen]
    refine hK' _ _ (hDone fun x hx => ?_)
    refine Classical.byContradiction fun hn => ?_
    have : rawE q x ∈ (leftOf (rawM q es) seen) := by
      simp only [leftOf, Array.mem_filter]
      refine ⟨by simp only [rawM, List.mem_toArray]; exact List.mem_map.2 ⟨x, hx, rfl⟩, ?_⟩
      simpa [rawE] using hn
    have h1 := Array.size_pos_of_mem this
    omega
  · obtain ⟨h1, h2⟩ : e ∈ rawM q es ∧ e.born ∉ seen := by
      simp only [leftOf, Array.mem_toList_iff, Array.mem_filter] at he
      exact ⟨he.1, by simpa using he.2⟩
    obtain ⟨x, hx, rfl⟩ := List.mem_map.1 (show e ∈ es.map (rawE q) by simpa [rawM] using h1)
    simp [execOp, hop, hit, hrun, Result.andThen]
    have hr1 : w1.heap[r]? = some (.mapIter (some b) since seen ck) := by rcases hw1 with rfl | rfl <;> exact hr
    have hb1 : w1.heap[b]? = some (.map (rawM q es) ck) := by rcases hw1 with rfl | rfl <;> exact hb
    refine hK' _ _ (hMore x hx h2 w1 hw1 ?_)
    refine run_entry_at (P := P) _ r b since seen (rawM q es) ck (rawE q x) (setO_same hr1) ?_ ?_ ?_
    · rw [setO_far w1 _ (Ne.symm hrb)]; exact hb1
    · simp only [rawM]; exact List.mem_map.2 ⟨x, hx, rfl⟩
    · simp only [rawM, List.map_map]
      rw [List.nodup_iff_pairwise_ne, List.pairwise_map]
      exact hn.imp (fun h => by simp only [Function.comp, rawE]; omega)
end
end Go.Proofs.Ytimakagmhikhfaa.Fr
