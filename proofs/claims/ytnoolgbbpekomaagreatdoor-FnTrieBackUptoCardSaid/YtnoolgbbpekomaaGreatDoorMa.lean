/- What a call keeps of memory, and what the operations on a map do to its entries, told by the entries themselves. A trie in memory: its nodes by the ways that lead to them; what a new child, new numbers, a child that goes leave. A new node, a new trie; is a node empty: the walks. Ways below a way; how many nodes there are below one; what is found by a key; what is left without empty nodes; a range over a map, told by what is still to come. How many nodes there are: the walks of numNodes and Nodes. What is left of a trie without empty nodes: plain. The empty nodes go: the walk of removeEmpty. What is found by a key; sets of numbers in memory: plain, and the laws of a store. What is found by a key: the walks of get and Get. -/
import Derived.Test.YtnoolgbbpekomaaGreatDoorWKept
import Derived.Maps.Own
import Derived.Maps.OwnOps
import Derived.Maps.OwnSet
import Derived.Maps.RangeWalk
import Derived.Test.YtnoolgbbpekomaaGreatDoorWMore
import Derived.Test.YtnoolgbbpekomaaGreatDoorProg
import Derived.WalkKit
import Derived.WalkSpells
import Derived.Lib.Hide
import Derived.StillTailTactics
import Derived.Deep.QuietTactic
import Derived.BigQuiet
set_option linter.unusedVariables false
set_option linter.unusedSimpArgs false
namespace Go.Proofs.YtnoolgbbpekomaaGreatDoor.Fr
open Go.RowKit YtnoolgbbpekomaaGreatDoorW.PrintWords Go.MapKept

/-! ### the frame -/
/-- All blocks that were there, but those of S, are as they were. -/
structure Kp (w w' : World) (S : Nat → Prop) : Prop where
  b : Below 0 w w'
  k : ∀ i, i < w.heap.size → ¬ S i → w'.heap[i]? = w.heap[i]?
namespace Kp
variable {w w1 w2 : World} {S S2 : Nat → Prop}
theorem refl (w : World) (S : Nat → Prop) : Kp w w S := ⟨Below.refl _ _, fun _ _ _ => rfl⟩
theorem size (h : Kp w w1 S) : w.heap.size ≤ w1.heap.size := h.b.size
theorem mono (h : Kp w w1 S) (hs : ∀ i, S i → S2 i) : Kp w w1 S2 := ⟨h.b, fun i hi hn => h.k i hi (fun x => hn (hs i x))⟩
theorem trans (h : Kp w w1 S) (h2 : Kp w1 w2 S2) (hs : ∀ i, S2 i → S i ∨ w.heap.size ≤ i) : Kp w w2 S :=
  ⟨h.b.trans h2.b, fun i hi hn => (h2.k i (Nat.lt_of_lt_of_le hi h.size) (fun x => (hs i x).elim hn (fun y => by omega))).trans (h.k i hi hn)⟩
theorem alloc (h : Kp w w1 S) (o : Obj) : Kp w (w1.alloc o) S := h.trans (S2 := fun _ => False) ⟨(Below.refl 0 w1).alloc (Nat.zero_le _) o, fun i hi _ => Below.heap_alloc w1 o i hi⟩ (fun _ x => x.elim)
theorem drew (h : Kp w w1 S) : Kp w w1.drew S := ⟨h.b.drew, h.k⟩
theorem drewN (h : Kp w w1 S) (n : Nat) : Kp w (w1.drewN n) S := ⟨pw_below_drewN h.b n, h.k⟩
theorem setCell (h : Kp w w1 S) {p : Addr} (hp : S p.block ∨ w.heap.size ≤ p.block) (u : Value) : Kp w (w1.setCell p u) S :=
  h.trans (S2 := fun i => i = p.block) ⟨(Below.refl 0 w1).setCell (Nat.zero_le _) u, fun i _ hn => Below.heap_setCell w1 p u i hn⟩ (fun i x => by rw [x]; exact hp)
theorem grown (h : Kp w w1 S) {row : Option Nat} (hg : w1.grownBy w2 row) (hr : ∀ k, row = some k → S k ∨ w.heap.size ≤ k) : Kp w w2 S :=
  h.trans (S2 := fun i => row = some i) ⟨(Below.refl 0 w1).grown hg (Nat.zero_le _) (fun _ _ => Nat.zero_le _), fun i hi hn => hg.block i hi (fun e => hn e.symm)⟩ hr
theorem of_below (h : Below w.heap.size w w1) (S : Nat → Prop) : Kp w w1 S := ⟨h.mono (Nat.zero_le _), fun i hi _ => h.block i hi⟩
theorem below (h : Kp w w1 S) (h2 : Below w1.heap.size w1 w2) : Kp w w2 S := h.trans (S2 := fun _ => False) (of_below h2 _) (fun _ x => x.elim)
theorem drawn (h : Kp w w1 S) (h2 : Drawn0 w1 w2) : Kp w w2 S := by obtain ⟨n, rfl⟩ := h2; exact h.drewN n
theorem blk (h : Kp w w1 S) {i : Nat} {o : Obj} (hb : w.heap[i]? = some o) (hn : ¬ S i) : w1.heap[i]? = some o := (h.k i (blk_lt hb) hn).trans hb
theorem cell (h : Kp w w1 S) {a : Addr} {v : Value} (hb : w.cell? a = some v) (hn : ¬ S a.block) : w1.cell? a = some v := by
  have := h.k a.block (World.block_lt_of_cell? w a hb) hn
  simpa [World.cell?, this] using hb
theorem kept (h : Kp w w1 S) : Kept w w1 S := ⟨h.size, h.k⟩
theorem toBelow (h : Kp w w1 S) (hs : ∀ i, S i → w.heap.size ≤ i) : Below w.heap.size w w1 := ⟨h.b.os, h.b.tape, h.b.output, h.b.size, fun i hi => h.k i hi (fun x => by have := hs i x; omega)⟩
theorem toBelowB (h : Kp w w1 S) {B : Nat} (hB : B ≤ w.heap.size) (hs : ∀ i, S i → B ≤ i) : Below B w w1 := ⟨h.b.os, h.b.tape, h.b.output, h.b.size, fun i hi => h.k i (by omega) (fun x => by have := hs i x; omega)⟩
end Kp

/-! ### a map's entries -/
/-- The world, its block r another object. -/
def setO (w : World) (r : Nat) (o : Obj) : World := { w with heap := w.heap.setIfInBounds r o }
theorem setO_same {w : World} {r : Nat} {o o' : Obj} (h : w.heap[r]? = some o') : (setO w r o).heap[r]? = some o := by
  have := blk_lt h
  simp [setO, this]
theorem setO_far (w : World) {r i : Nat} (o : Obj) (h : i ≠ r) : (setO w r o).heap[i]? = w.heap[i]? := by simp [setO, Ne.symm h]
theorem setO_size (w : World) (r : Nat) (o : Obj) : (setO w r o).heap.size = w.heap.size := by simp [setO]
theorem Kp.setO {w w1 : World} {S : Nat → Prop} (h : Kp w w1 S) {r : Nat} (hr : S r ∨ w.heap.size ≤ r) (o : Obj) : Kp w (setO w1 r o) S :=
  h.trans (S2 := fun i => i = r) ⟨⟨rfl, rfl, rfl, by rw [setO_size]; exact Nat.le_refl _, fun k hk => absurd hk (Nat.not_lt_zero _)⟩, fun i _ hn => setO_far w1 o hn⟩ (fun i x => by rw [x]; exact hr)
/-- An entry: its key, what it holds, its stamp. -/
abbrev Ent := Int × Value × Nat
def rawE (q : IntKind) (x : Ent) : MapEntry := ⟨.int q x.1, x.2.1, x.2.2⟩
def rawM (q : IntKind) (es : List Ent) : Array MapEntry := (es.map (rawE q)).toArray
def lookE (k : Int) : List Ent → Option Value
  | [] => none
  | x :: t => if x.1 = k then some x.2.1 else lookE k t
def putE (k : Int) (v : Value) : List Ent → List Ent
  | [] => []
  | x :: t => if x.1 = k then (x.1, v, x.2.2) :: t else x :: putE k v t
def drop_ (k : Int) : List Ent → List Ent
  | [] => []
  | x :: t => if x.1 = k then t else x :: drop_ k t
def placeE (k : Int) : List Ent → Nat
  | [] => 0
  | x :: t => if x.1 = k then 0 else placeE k t + 1
theorem look_none {k : Int} {es : List Ent} : lookE k es = none ↔ ∀ x ∈ es, x.1 ≠ k := by
  induction es with
  | nil => simp [lookE]
  | cons x t ih =>
    simp only [lookE]
    by_cases h : x.1 = k
    · simp [h]
    · simp [h, ih]
theorem findNow_raw (q : IntKind) (k : Int) : ∀ (es : List Ent) (i : Nat), Instr.findNow (.int q) (.int q k) (es.map (rawE q)) i = some ((lookE k es).map fun v => (i + placeE k es, v))
  | [], i => rfl
  | x :: t, i => by
    simp only [List.map_cons, Instr.findNow, rawE, Instr.sameNow, if_true, lookE, placeE]
    by_cases h : x.1 = k
    · subst h; simp
    · have h2 : (k == x.1) = false := by simp; exact fun e => h e.symm
      have ih := findNow_raw q k t (i + 1)
      simp only [h2, h, if_false]
      rw [show (List.map (rawE q) t) = List.map (rawE q) t from rfl] at ih
      rw [ih]
      cases lookE k t with
      | none => rfl
      | some v => simp; omega
section
variable {P : Program} {w : World} {q : IntKind} {t kt et : TypeId} {r ck : Nat} {es : List Ent} {k : Int} {z : Value}
theorem run_checkKey_int (hk : P.underlying kt = some (.int q)) (e : Bool) (n : Nat) : (Instr.checkKey e (n + 1) kt (.int q k)).run P w = .ok () w :=
  run_checkKey hk (by simp [IsKey]) e n
theorem run_findKey_int (hk : P.underlying kt = some (.int q)) : (Instr.findKey kt (.int q k) (rawM q es).toList).run P w = .ok ((lookE k es).map fun v => (placeE k es, v)) w := by
  have h := findNow_raw q k es 0
  simp only [Nat.zero_add] at h
  exact run_findKey hk (by simpa [rawM] using h)
theorem run_getMap (hb : w.heap[r]? = some (.map (rawM q es) ck)) : (getObj r).run P w = .ok (.map (rawM q es) ck) w := by simp [getObj, Sem.run, hb]
theorem run_look_ok (ht : P.underlying t = some (.map kt et)) (hk : P.underlying kt = some (.int q)) (hz : (zeroValue et).run P w = .ok z w) (hb : w.heap[r]? = some (.map (rawM q es) ck)) :
    (Instr.lookup t (.map (some r)) (.int q k) true).run P w = .ok (.tuple #[(lookE k es).getD z, .bool (lookE k es).isSome]) w := by
  simp only [Instr.lookup]
  cases h : lookE k es with
  | none => simp [run_underlying ht, run_getMap hb, run_checkKey_int hk, run_findKey_int hk, h, hz, Result.andThen]
  | some v => simp [run_underlying ht, run_getMap hb, run_checkKey_int hk, run_findKey_int hk, h, Result.andThen]
theorem run_look (ht : P.underlying t = some (.map kt et)) (hk : P.underlying kt = some (.int q)) (hz : (zeroValue et).run P w = .ok z w) (hb : w.heap[r]? = some (.map (rawM q es) ck)) :
    (Instr.lookup t (.map (some r)) (.int q k) false).run P w = .ok ((lookE k es).getD z) w := by
  simp only [Instr.lookup]
  cases h : lookE k es with
  | none => simp [run_underlying ht, run_getMap hb, run_checkKey_int hk, run_findKey_int hk, h, hz, Result.andThen]
  | some v => simp [run_underlying ht, run_getMap hb, run_checkKey_int hk, run_findKey_int hk, h, Result.andThen]
theorem raw_at {i : Nat} (h : lookE k es ≠ none) (hi : i = placeE k es) : ∃ x : Ent, (rawM q es)[i]? = some (rawE q x) ∧ x.1 = k := by
  subst hi
  induction es with
  | nil => simp [lookE] at h
  | cons x t ih =>
    simp only [lookE] at h
    by_cases e : x.1 = k
    · exact ⟨x, by simp [rawM, placeE, e], e⟩
    · rw [if_neg e] at h
      obtain ⟨y, h1, h2⟩ := ih h
      refine ⟨y, ?_, h2⟩
      simp only [rawM, placeE, e, if_false, List.map_cons, List.getElem?_toArray, List.getElem?_cons_succ] at h1 ⊢
      exact h1
theorem raw_put (v : Value) (h : lookE k es ≠ none) : (rawM q es).modify (placeE k es) (fun e => { e with key := .int q k, val := v }) = rawM q (putE k v es) := by
  apply Array.toList_inj.1
  rw [Array.toList_modify]
  simp only [rawM]
  induction es with
  | nil => simp [lookE] at h
  | cons x t ih =>
    simp only [lookE] at h
    by_cases e : x.1 = k
    · subst e; simp [placeE, putE, rawE, List.modify]
    · rw [if_neg e] at h
      have := ih h
      simp only [placeE, putE, e, if_false, List.map_cons, List.modify_succ_cons]
      rw [this]
theorem place_lt : ∀ {es : List Ent}, (lookE k es).isSome → placeE k es < es.length
  | [], h => by simp [lookE] at h
  | x :: t, h => by
    simp only [lookE] at h
    simp only [placeE]
    by_cases e : x.1 = k
    · simp [e]
    · rw [if_neg e] at h; simp [e]; exact place_lt h
theorem raw_drop : (lookE k es).isSome → (rawM q es).eraseIdxIfInBounds (placeE k es) = rawM q (drop_ k es) := by
  intro h
  apply Array.toList_inj.1
  have hlt := place_lt h
  unfold Array.eraseIdxIfInBounds
  rw [dif_pos (by simpa [rawM] using hlt), Array.toList_eraseIdx]
  simp only [rawM]
  clear hlt
  induction es with
  | nil => simp [lookE] at h
  | cons x t ih =>
    simp only [lookE] at h
    by_cases e : x.1 = k
    · subst e; simp [placeE, drop_]
    · rw [if_neg e] at h
      have := ih h
      simp only [placeE, drop_, e, if_false, List.map_cons, List.eraseIdx_cons_succ]
      rw [this]
theorem drop_none (h : lookE k es = none) : drop_ k es = es := by
  induction es with
  | nil => rfl
  | cons x t ih =>
    simp only [lookE] at h
    by_cases e : x.1 = k
    · simp [e] at h
    · rw [if_neg e] at h
      simp only [drop_, e, if_false]
      rw [ih h]
/-- What a store leaves, and the clock behind it. -/
def storedE (k : Int) (v : Value) (ck : Nat) (es : List Ent) : List Ent := if (lookE k es).isSome then putE k v es else es ++ [(k, v, ck)]
def clockE (k : Int) (ck : Nat) (es : List Ent) : Nat := if (lookE k es).isSome then ck else ck + 1
theorem run_setMap {o' : Obj} {m : Array MapEntry} {c : Nat} (hb : w.heap[r]? = some (.map m c)) : (Go.setObj r o').run P w = .ok () (setO w r o') := by simp [Go.setObj, Sem.run, hb, setO]
theorem run_store_map (v : Value) (ht : P.underlying t = some (.map kt et)) (hk : P.underlying kt = some (.int q)) (hb : w.heap[r]? = some (.map (rawM q es) ck)) :
    (Instr.mapUpdate t (.map (some r)) (.int q k) v).run P w = .ok () (setO w r (.map (rawM q (storedE k v ck es)) (clockE k ck es))) := by
  simp only [Instr.mapUpdate]
  cases h : lookE k es with
  | none =>
    simp [run_underlying ht, run_getMap hb, run_checkKey_int hk, run_findKey_int hk, h, Result.andThen, run_setMap hb, storedE, clockE]
    simp [rawM, rawE]
  | some u =>
    obtain ⟨x, hx, e⟩ := raw_at (q := q) (es := es) (k := k) (by rw [h]; simp) rfl
    have hp := raw_put (q := q) (es := es) (k := k) v (by rw [h]; simp)
    simp [run_underlying ht, run_getMap hb, run_checkKey_int hk, run_findKey_int hk, h, Result.andThen, hx, rawE, e, Instr.keyThatStays, Instr.sameBits, run_setMap hb, storedE, clockE, ← hp]
theorem run_drop_map (ty : TypeId) (ht : P.underlying t = some (.map kt et)) (hk : P.underlying kt = some (.int q)) (hb : w.heap[r]? = some (.map (rawM q es) ck)) :
    (Builtin.delete_ #[t, kt] ty #[.map (some r), .int q k]).run P w = .ok (.tuple #[]) (setO w r (.map (rawM q (drop_ k es)) ck)) := by
  simp only [Builtin.delete_]
  cases h : lookE k es with
  | none => simp [run_underlying ht, run_getMap hb, run_checkKey_int hk, run_findKey_int hk, h, Result.andThen, run_setMap hb, drop_none h]
  | some u =>
    have hp := raw_drop (q := q) (es := es) (k := k) (by rw [h]; rfl)
    simp [run_underlying ht, run_getMap hb, run_checkKey_int hk, run_findKey_int hk, h, Result.andThen, run_setMap hb, hp]
theorem run_len_map (ty : TypeId) (ht : P.underlying t = some (.map kt et)) (hb : w.heap[r]? = some (.map (rawM q es) ck)) :
    (Builtin.len_ #[t] ty #[.map (some r)]).run P w = .ok (.int .i64 (es.length : Int)) w := by
  simp only [Builtin.len_]
  simp [run_underlying ht, run_getMap hb, Result.andThen, goInt, rawM]
end
/-! ### the operations, for a walk -/
section
variable {P : Program} {ops : Array Oper} {rest : List Oper} {o : Oper} {a : Act} {Q : Exit → Act → World → Prop} {q : IntKind} {t kt et : TypeId} {b r ck : Nat} {es : List Ent} {k : Int}
theorem wpL_look_ok (w : World) (hg : o.guard = none) (m x : Operand) (hop : o.op = Op.lookup t m x true) (z : Value) (ht : P.underlying t = some (.map kt et)) (hk : P.underlying kt = some (.int q)) (hz : (zeroValue et).run P w = .ok z w)
    (hm : a.eval m = .map (some b)) (hx : a.eval x = .int q k) (hb : w.heap[b]? = some (.map (rawM q es) ck))
    (h : wpList P ops Q rest (a.put o.dst (.tuple #[(lookE k es).getD z, .bool (lookE k es).isSome])) w) : wpList P ops Q (o :: rest) a w := by
  refine wpList_plain hg fun K' hK' => ?_
  have hrun := run_look_ok (k := k) ht hk hz hb
  unfold Oper.wp
  simp [execOp, hop, hm, hx, hrun, Result.andThen]
  exact hK' _ _ h
theorem wpL_look (w : World) (hg : o.guard = none) (m x : Operand) (hop : o.op = Op.lookup t m x false) (z : Value) (ht : P.underlying t = some (.map kt et)) (hk : P.underlying kt = some (.int q)) (hz : (zeroValue et).run P w = .ok z w)
    (hm : a.eval m = .map (some b)) (hx : a.eval x = .int q k) (hb : w.heap[b]? = some (.map (rawM q es) ck))
    (h : wpList P ops Q rest (a.put o.dst ((lookE k es).getD z)) w) : wpList P ops Q (o :: rest) a w := by
  refine wpList_plain hg fun K' hK' => ?_
  have hrun := run_look (k := k) ht hk hz hb
  unfold Oper.wp
  simp [execOp, hop, hm, hx, hrun, Result.andThen]
  exact hK' _ _ h
theorem wpL_store (w : World) (hg : o.guard = none) (m x v : Operand) (hop : o.op = Op.mapUpdate t m x v) (val : Value) (ht : P.underlying t = some (.map kt et)) (hk : P.underlying kt = some (.int q))
    (hm : a.eval m = .map (some b)) (hx : a.eval x = .int q k) (hv : a.eval v = val) (hb : w.heap[b]? = some (.map (rawM q es) ck))
    (h : wpList P ops Q rest (a.put o.dst undef) (setO w b (.map (rawM q (storedE k val ck es)) (clockE k ck es)))) : wpList P ops Q (o :: rest) a w := by
  refine wpList_plain hg fun K' hK' => ?_
  have hrun := run_store_map (k := k) val ht hk hb
  unfold Oper.wp
  simp [execOp, hop, hm, hx, hv, hrun, Result.andThen]
  exact hK' _ _ h
theorem wpL_drop (w : World) (hg : o.guard = none) (m x : Operand) (hop : o.op = Op.call { callee := Callee.builtin Builtin.delete, args := #[m, x], argTypes := #[t, kt] }) (ht : P.underlying t = some (.map kt et)) (hk : P.underlying kt = some (.int q))
    (hm : a.eval m = .map (some b)) (hx : a.eval x = .int q k) (hb : w.heap[b]? = some (.map (rawM q es) ck))
    (h : wpList P ops Q rest (a.put o.dst (.tuple #[])) (setO w b (.map (rawM q (drop_ k es)) ck))) : wpList P ops Q (o :: rest) a w := by
  refine wpList_plain hg fun K' hK' => ?_
  have hrun := run_drop_map (k := k) o.type ht hk hb
  unfold Oper.wp
  simp [execOp, hop, resolve, invoke, builtin, hm, hx, hrun, Result.andThen]
  exact hK' _ _ h
theorem wpL_len (w : World) (hg : o.guard = none) (m : Operand) (hop : o.op = Op.call { callee := Callee.builtin Builtin.len, args := #[m], argTypes := #[t] }) (ht : P.underlying t = some (.map kt et))
    (hm : a.eval m = .map (some b)) (hb : w.heap[b]? = some (.map (rawM q es) ck))
    (h : wpList P ops Q rest (a.put o.dst (.int .i64 (es.length : Int))) w) : wpList P ops Q (o :: rest) a w := by
  refine wpList_plain hg fun K' hK' => ?_
  have hrun := run_len_map o.type ht hb
  unfold Oper.wp
  simp [execOp, hop, resolve, invoke, builtin, hm, hrun, Result.andThen]
  exact hK' _ _ h
theorem wpL_range (w : World) (hg : o.guard = none) (m : Operand) (hop : o.op = Op.range t m) (ht : P.underlying t = some (.map kt et))
    (hm : a.eval m = .map (some b)) (hb : w.heap[b]? = some (.map (rawM q es) ck))
    (h : wpList P ops Q rest (a.put o.dst (.pointer (some ⟨w.heap.size, 0, none⟩))) (w.alloc (.mapIter (some b) ck #[] ck))) : wpList P ops Q (o :: rest) a w := by
  refine wpList_plain hg fun K' hK' => ?_
  have hrun : (Instr.range t (.map (some b))).run P w = .ok (.pointer (some ⟨w.heap.size, 0, none⟩)) (w.alloc (.mapIter (some b) ck #[] ck)) := by
    simp only [Instr.range, Sem.run_bind, run_underlying ht, run_getMap hb, Result.andThen]
    rfl
  unfold Oper.wp
  simp [execOp, hop, hm, hrun, Result.andThen]
  exact hK' _ _ h
theorem wpL_next (w : World) (hg : o.guard = none) (it : Operand) (hop : o.op = Op.next it false) (since : Nat) (seen : Array Nat)
    (hit : a.eval it = .pointer (some ⟨r, 0, none⟩)) (hr : w.heap[r]? = some (.mapIter (some b) since seen ck)) (hb : w.heap[b]? = some (.map (rawM q es) ck)) (hrb : r ≠ b) (hs : ∀ x ∈ es, x.2.2 < since) (hsc : since ≤ ck) (hn : es.Pairwise (fun x y => x.2.2 < y.2.2))
    (hDone : (∀ x ∈ es, x.2.2 ∈ seen) → wpList P ops Q rest (a.put o.dst (.tuple #[.bool false])) w)
    (hMore : ∀ x ∈ es, x.2.2 ∉ seen → ∀ w1, (w1 = w ∨ w1 = w.drew) → (Instr.entry (.pointer (some ⟨r, 0, none⟩))).run P (setO w1 r (.mapIter (some b) since (seen.push x.2.2) ck)) = .ok (.tuple #[.int q x.1, x.2.1]) (setO w1 r (.mapIter (some b) since (seen.push x.2.2) ck)) →
      wpList P ops Q rest (a.put o.dst (.tuple #[.bool true, .int q x.1, x.2.1])) (setO w1 r (.mapIter (some b) since (seen.push x.2.2) ck))) : wpList P ops Q (o :: rest) a w := by
  refine wpList_plain hg fun K' hK' => ?_
  unfold Oper.wp
  have hold : ∀ x ∈ (rawM q es).toList, x.born < since := by
    intro e he
    obtain ⟨x, hx, rfl⟩ := List.mem_map.1 (show e ∈ es.map (rawE q) by simpa [rawM] using he)
    exact hs x hx
  rcases run_next_at (P := P) w o.type r b since ck seen (rawM q es) ck hr hb hold hsc with ⟨h0, hrun⟩ | ⟨e, he, w1, hw1, hrun⟩
  · simp [execOp, hop, hit, hrun, Result.andThen]
    refine hK' _ _ (hDone fun x hx => ?_)
    refine Classical.byContradiction fun hn => ?_
    have : rawE q x ∈ (leftOf (rawM q es) seen) := by
      simp only [leftOf, Array.mem_filter]
      refine ⟨by simp only [rawM, List.mem_toArray]; exact List.mem_map.2 ⟨x, hx, rfl⟩, ?_⟩
      simpa [rawE] using hn
    have h1 := Array.size_pos_of_mem this
    omega
  · obtain ⟨h1, h2⟩ : e ∈ rawM q es ∧ e.born ∉ seen := by
      simp only [leftOf, Array.mem_toList_iff, Array.mem_filter] at he
      exact ⟨he.1, by simpa using he.2⟩
    obtain ⟨x, hx, rfl⟩ := List.mem_map.1 (show e ∈ es.map (rawE q) by simpa [rawM] using h1)
    simp [execOp, hop, hit, hrun, Result.andThen]
    have hr1 : w1.heap[r]? = some (.mapIter (some b) since seen ck) := by rcases hw1 with rfl | rfl <;> exact hr
    have hb1 : w1.heap[b]? = some (.map (rawM q es) ck) := by rcases hw1 with rfl | rfl <;> exact hb
    refine hK' _ _ (hMore x hx h2 w1 hw1 ?_)
    refine run_entry_at (P := P) _ r b since seen (rawM q es) ck (rawE q x) (setO_same hr1) ?_ ?_ ?_
    · rw [setO_far w1 _ (Ne.symm hrb)]; exact hb1
    · simp only [rawM]; exact List.mem_map.2 ⟨x, hx, rfl⟩
    · simp only [rawM, List.map_map]
      rw [List.nodup_iff_pairwise_ne, List.pairwise_map]
      exact hn.imp (fun h => by simp only [Function.comp, rawE]; omega)
end
end Go.Proofs.YtnoolgbbpekomaaGreatDoor.Fr
namespace Go.Proofs.YtnoolgbbpekomaaGreatDoor.Tr
open Go.RowKit YtnoolgbbpekomaaGreatDoorW.PrintWords YtnoolgbbpekomaaGreatDoorW.PrintLast YtnoolgbbpekomaaGreatDoorW.PrintMore Fr
set_option linter.unusedVariables false
set_option linter.unusedSimpArgs false
theorem up1 {w : World} {i : Nat} {o p : Obj} (h : w.heap[i]? = some o) : (w.alloc p).heap[i]? = some o := (Below.heap_alloc _ p _ (blk_lt h)).trans h
/-- A step of a way: a byte, or a byte that does not count. -/
abbrev Stp := Option Int
abbrev Wy := List Stp
structure Nd where
  path : Wy
  nb : Nat
  mb : Nat
  v : Value
  ids : List Int
def ptr (b : Nat) : Value := .pointer (some ⟨b, 0, none⟩)
def ptrO : Option Nat → Value
  | none => .pointer none
  | some b => ptr b
def at_ : List Nd → Wy → Option Nd
  | [], _ => none
  | n :: t, p => if n.path = p then some n else at_ t p
def nbAt (σ : List Nd) (p : Wy) : Option Nat := (at_ σ p).map (·.nb)
theorem at_some {p : Wy} {n : Nd} : ∀ {σ : List Nd}, at_ σ p = some n → n ∈ σ ∧ n.path = p
  | [], h => by simp [at_] at h
  | m :: t, h => by
    simp only [at_] at h
    split at h
    · rename_i e; injection h with h; subst h; exact ⟨List.mem_cons_self, e⟩
    · obtain ⟨h1, h2⟩ := at_some h; exact ⟨List.mem_cons_of_mem _ h1, h2⟩
theorem at_none {p : Wy} : ∀ {σ : List Nd}, at_ σ p = none ↔ ∀ n ∈ σ, n.path ≠ p
  | [] => by simp [at_]
  | m :: t => by
    have ih := at_none (p := p) (σ := t)
    simp only [at_]
    by_cases e : m.path = p
    · simp [e]
    · simp [e, ih]
abbrev Once (σ : List Nd) : Prop := σ.Pairwise (fun a b => a.path ≠ b.path)
theorem at_mem {n : Nd} : ∀ {σ : List Nd}, Once σ → n ∈ σ → at_ σ n.path = some n
  | [], _, h => by cases h
  | m :: t, ho, h => by
    have ⟨h1, h2⟩ := List.pairwise_cons.1 ho
    simp only [at_]
    rcases List.mem_cons.1 h with e | e
    · subst e; rw [if_pos rfl]
    · rw [if_neg (h1 n e)]; exact at_mem h2 e
theorem at_append (σ τ : List Nd) (p : Wy) : at_ (σ ++ τ) p = (at_ σ p).or (at_ τ p) := by
  induction σ with
  | nil => simp [at_]
  | cons m t ih =>
    simp only [List.cons_append, at_]
    by_cases e : m.path = p
    · simp [e]
    · simp [e, ih]
theorem nbAt_isSome {σ : List Nd} {p : Wy} : (nbAt σ p).isSome = (at_ σ p).isSome := by simp [nbAt]
structure MapOk (w : World) (σ : List Nd) (n : Nd) (es : List Ent) (ck : Nat) : Prop where
  blk : w.heap[n.mb]? = some (.map (rawM .u8 es) ck)
  once : es.Pairwise (fun a b => a.1 ≠ b.1)
  born : es.Pairwise (fun a b => a.2.2 < b.2.2)
  clock : ∀ x ∈ es, x.2.2 < ck
  look : ∀ c : Int, lookE c es = (nbAt σ (n.path ++ [some c])).map ptr
structure NodeOk (w : World) (base : Nat) (σ : List Nd) (n : Nd) : Prop where
  blk : w.heap[n.nb]? = some (.cells #[.map (some n.mb), ptrO (nbAt σ (n.path ++ [none])), n.v] 106 (0, 0))
  kids : ∃ es ck, MapOk w σ n es ck
  row : (Kd.int .u64).R 77 w base (fun _ => True) n.v n.ids
  lo : base ≤ n.nb ∧ base ≤ n.mb
structure St (w : World) (base : Nat) (σ : List Nd) : Prop where
  node : ∀ n ∈ σ, NodeOk w base σ n
  once : Once σ
  nbs : σ.Pairwise (fun a b => a.nb ≠ b.nb)
  mbs : σ.Pairwise (fun a b => a.mb ≠ b.mb)
  rows : σ.Pairwise (fun a b => NeRow a.v b.v)
  root : (at_ σ []).isSome
  closed : ∀ n ∈ σ, ∀ p e, n.path = p ++ [e] → (at_ σ p).isSome
/-- The blocks of a trie. -/
def Own (σ : List Nd) (i : Nat) : Prop := ∃ n ∈ σ, i = n.nb ∨ i = n.mb ∨ n.v.ownBlock = some i
theorem tn : ∀ q, q ∈ 77 :: (Kd.int IntKind.u64).E → q ≠ 106 := by
  intro q hq
  have : q ∈ [77] := hq
  simp at this
  omega
theorem St.own_lt {w : World} {base : Nat} {σ : List Nd} (h : St w base σ) {i : Nat} (hi : Own σ i) : base ≤ i ∧ i < w.heap.size := by
  obtain ⟨n, hn, hi⟩ := hi
  have ok := h.node n hn
  rcases hi with rfl | rfl | hi
  · exact ⟨ok.lo.1, blk_lt ok.blk⟩
  · obtain ⟨es, ck, hm⟩ := ok.kids
    exact ⟨ok.lo.2, blk_lt hm.blk⟩
  · exact ⟨Kd.R_base ok.row i hi, Kd.R_lt ok.row i hi⟩
/-- A trie behind another world that has its blocks. -/
theorem St.move {w w1 : World} {base : Nat} {σ : List Nd} (h : St w base σ) (hk : ∀ i, Own σ i → w1.heap[i]? = w.heap[i]?) : St w1 base σ := by
  refine ⟨fun n hn => ?_, h.once, h.nbs, h.mbs, h.rows, h.root, h.closed⟩
  have ok := h.node n hn
  obtain ⟨es, ck, hm⟩ := ok.kids
  refine ⟨(hk _ ⟨n, hn, .inl rfl⟩).trans ok.blk, ⟨es, ck, (hk _ ⟨n, hn, .inr (.inl rfl)⟩).trans hm.blk, hm.once, hm.born, hm.clock, hm.look⟩, ?_, ok.lo⟩
  exact Kd.R_mono (Kd.R_move (Kd.R_tight rfl ok.row) (fun k hkk => hk k ⟨n, hn, .inr (.inr hkk.symm)⟩)) (fun _ _ => trivial)
theorem St.kp {w w1 : World} {base : Nat} {σ : List Nd} {S : Nat → Prop} (h : St w base σ) (hk : Kp w w1 S) (hs : ∀ i, Own σ i → ¬ S i) : St w1 base σ :=
  h.move (fun i hi => hk.k i (h.own_lt hi).2 (hs i hi))
theorem St.below {w w1 : World} {base : Nat} {σ : List Nd} (h : St w base σ) (hb : Below w.heap.size w w1) : St w1 base σ :=
  h.move (fun i hi => hb.block i (h.own_lt hi).2)
/-- The numbers of one node are others. -/
def setV (nb : Nat) (v : Value) (ids : List Int) (σ : List Nd) : List Nd := σ.map fun m => if m.nb = nb then { m with v := v, ids := ids } else m
theorem at_setV (nb : Nat) (v : Value) (ids : List Int) (p : Wy) : ∀ σ : List Nd, at_ (setV nb v ids σ) p = (at_ σ p).map fun m => if m.nb = nb then { m with v := v, ids := ids } else m
  | [] => rfl
  | m :: t => by
    have ih := at_setV nb v ids p t
    simp only [setV, List.map_cons, at_] at ih ⊢
    have e : (if m.nb = nb then { m with v := v, ids := ids } else m : Nd).path = m.path := by split <;> rfl
    rw [e]
    by_cases h : m.path = p
    · simp [h]
    · simp only [h, if_false]; exact ih
theorem nbAt_setV (nb : Nat) (v : Value) (ids : List Int) (p : Wy) (σ : List Nd) : nbAt (setV nb v ids σ) p = nbAt σ p := by
  unfold nbAt
  rw [at_setV]
  cases at_ σ p with
  | none => rfl
  | some m => simp only [Option.map_some]; split <;> rfl
theorem MapOk.congr {w w1 : World} {σ τ : List Nd} {n m : Nd} {es : List Ent} {ck : Nat} (h : MapOk w σ n es ck) (hb : w1.heap[m.mb]? = w.heap[n.mb]?) (hl : ∀ c : Int, nbAt τ (m.path ++ [some c]) = nbAt σ (n.path ++ [some c])) : MapOk w1 τ m es ck :=
  ⟨hb.trans h.blk, h.once, h.born, h.clock, fun c => by rw [hl c]; exact h.look c⟩
theorem pw_ne {σ : List Nd} {f : Nd → Nat} (h : σ.Pairwise (fun a b => f a ≠ f b)) {a b : Nd} (ha : a ∈ σ) (hb : b ∈ σ) (e : f a = f b) : a = b := by
  induction σ with
  | nil => cases ha
  | cons x t ih =>
    have ⟨h1, h2⟩ := List.pairwise_cons.1 h
    rcases List.mem_cons.1 ha with ha | ha
    · rcases List.mem_cons.1 hb with hb | hb
      · rw [ha, hb]
      · exact absurd (by rw [← ha]; exact e) (h1 b hb)
    · rcases List.mem_cons.1 hb with hb | hb
      · exact absurd (by rw [← hb]; exact e.symm) (h1 a ha)
      · exact ih h2 ha hb
theorem pw_row {σ : List Nd} (h : σ.Pairwise (fun a b => NeRow a.v b.v)) {a b : Nd} (ha : a ∈ σ) (hb : b ∈ σ) (hne : a.nb ≠ b.nb) : NeRow a.v b.v := by
  induction σ with
  | nil => cases ha
  | cons x t ih =>
    have ⟨h1, h2⟩ := List.pairwise_cons.1 h
    rcases List.mem_cons.1 ha with ha | ha
    · rcases List.mem_cons.1 hb with hb | hb
      · rw [ha, hb] at hne; exact absurd rfl hne
      · rw [ha]; exact h1 b hb
    · rcases List.mem_cons.1 hb with hb | hb
      · rw [hb]; intro k hk hk2; exact h1 a ha k hk2 hk
      · exact ih h2 ha hb
theorem St.setV {w w2 : World} {base : Nat} {σ : List Nd} {n : Nd} {v : Value} {ids : List Int} (h : St w base σ) (hn : n ∈ σ)
    (hb : w2.heap[n.nb]? = some (.cells #[.map (some n.mb), ptrO (nbAt σ (n.path ++ [none])), v] 106 (0, 0)))
    (hk : ∀ i, Own σ i → i ≠ n.nb → n.v.ownBlock ≠ some i → w2.heap[i]? = w.heap[i]?)
    (hr : (Kd.int .u64).R 77 w2 base (fun _ => True) v ids) (hv : ∀ i, v.ownBlock = some i → n.v.ownBlock = some i ∨ w.heap.size ≤ i) : St w2 base (setV n.nb v ids σ) := by
  have okn := h.node n hn
  have hrow : ∀ m ∈ σ, m.nb ≠ n.nb → ∀ i, m.v.ownBlock = some i → n.v.ownBlock ≠ some i := fun m hm hne i hi => (pw_row h.rows hm hn hne) i hi
  have hnew : ∀ m ∈ σ, m.nb ≠ n.nb → NeRow v m.v := fun m hm hne i hi hi2 => by
    rcases hv i hi with h1 | h1
    · exact hrow m hm hne i hi2 h1
    · have := Kd.R_lt (h.node m hm).row i hi2; omega
  refine ⟨fun m hm => ?_, ?_, ?_, ?_, ?_, ?_, ?_⟩
  · obtain ⟨m0, hm0, rfl⟩ := List.mem_map.1 hm
    have ok := h.node m0 hm0
    by_cases e : m0.nb = n.nb
    · have e2 : m0 = n := pw_ne h.nbs hm0 hn e
      subst e2
      rw [if_pos rfl]
      obtain ⟨es, ck, hm⟩ := ok.kids
      have hmb : m0.mb ≠ m0.nb := fun e => by have := hm.blk; rw [e, ok.blk] at this; cases this
      have hmr : m0.v.ownBlock ≠ some m0.mb := fun e => by
        obtain ⟨_, _, _, q, _, cells, hc⟩ := (Kd.R_bound (Kd.R_tight rfl ok.row)).1 m0.mb e
        rw [hm.blk] at hc
        cases hc
      refine ⟨?_, ⟨es, ck, hm.congr ?_ (fun c => nbAt_setV _ _ _ _ _)⟩, hr, ok.lo⟩
      · rw [nbAt_setV]; exact hb
      · exact hk _ ⟨m0, hm0, .inr (.inl rfl)⟩ hmb hmr
    · rw [if_neg e]
      obtain ⟨es, ck, hm⟩ := ok.kids
      have hnr : ∀ i, (∃ o, w.heap[i]? = some o ∧ ∀ cells, o ≠ .cells cells 77 (0, 0)) → n.v.ownBlock ≠ some i := fun i ⟨o, ho, hne⟩ e2 => by
        obtain ⟨_, _, _, q, hq, cells, hc⟩ := (Kd.R_bound (Kd.R_tight rfl okn.row)).1 i e2
        have : q ∈ [77] := hq
        simp at this
        subst this
        rw [ho] at hc
        injection hc with hc
        exact hne cells hc
      refine ⟨?_, ⟨es, ck, hm.congr ?_ (fun c => nbAt_setV _ _ _ _ _)⟩, ?_, ok.lo⟩
      · rw [nbAt_setV]
        refine (hk _ ⟨m0, hm0, .inl rfl⟩ e (hnr _ ⟨_, ok.blk, fun cells h => by cases h⟩)).trans ok.blk
      · refine hk _ ⟨m0, hm0, .inr (.inl rfl)⟩ (fun e3 => ?_) (hnr _ ⟨_, hm.blk, fun cells h => by cases h⟩)
        have := hm.blk
        rw [e3, okn.blk] at this
        cases this
      · refine Kd.R_mono (Kd.R_move (Kd.R_tight rfl ok.row) (fun k hkk => ?_)) (fun _ _ => trivial)
        refine hk k ⟨m0, hm0, .inr (.inr hkk.symm)⟩ (fun e3 => ?_) (hrow m0 hm0 e k hkk.symm)
        have := Kd.R_ne ok.row okn.blk (by decide)
        rw [e3] at hkk
        exact this hkk
  · refine (List.pairwise_map.2 (h.once.imp ?_))
    intro a b hab
    have ea : ∀ m : Nd, (if m.nb = n.nb then { m with v := v, ids := ids } else m : Nd).path = m.path := fun m => by split <;> rfl
    rw [ea, ea]; exact hab
  · refine (List.pairwise_map.2 (h.nbs.imp ?_))
    intro a b hab
    have ea : ∀ m : Nd, (if m.nb = n.nb then { m with v := v, ids := ids } else m : Nd).nb = m.nb := fun m => by split <;> rfl
    rw [ea, ea]; exact hab
  · refine (List.pairwise_map.2 (h.mbs.imp ?_))
    intro a b hab
    have ea : ∀ m : Nd, (if m.nb = n.nb then { m with v := v, ids := ids } else m : Nd).mb = m.mb := fun m => by split <;> rfl
    rw [ea, ea]; exact hab
  · refine List.pairwise_map.2 ((List.Pairwise.and h.nbs h.rows).imp_of_mem ?_)
    intro a b ha hb ⟨hab, hrw⟩
    by_cases e1 : a.nb = n.nb
    · rw [if_pos e1]
      have e2 : b.nb ≠ n.nb := fun e2 => hab (e1.trans e2.symm)
      rw [if_neg e2]
      exact hnew b hb e2
    · rw [if_neg e1]
      by_cases e2 : b.nb = n.nb
      · rw [if_pos e2]
        intro k hk hk2
        exact hnew a ha e1 k hk2 hk
      · rw [if_neg e2]; exact hrw
  · rw [at_setV]; have := h.root; cases e : at_ σ [] with
    | none => rw [e] at this; cases this
    | some m => simp
  · intro m hm p e hp
    obtain ⟨m0, hm0, rfl⟩ := List.mem_map.1 hm
    have ea : (if m0.nb = n.nb then { m0 with v := v, ids := ids } else m0 : Nd).path = m0.path := by split <;> rfl
    rw [ea] at hp
    have := h.closed m0 hm0 p e hp
    rw [at_setV]
    cases e2 : at_ σ p with
    | none => rw [e2] at this; cases this
    | some m => simp
theorem app_inj {p q : Wy} {a b : Stp} (h : p ++ [a] = q ++ [b]) : p = q ∧ a = b := by
  have h1 := List.append_inj' h rfl
  exact ⟨h1.1, by simpa using h1.2⟩
theorem no_kid {w : World} {base : Nat} {σ : List Nd} (h : St w base σ) {p : Wy} (hp : at_ σ p = none) (e : Stp) : at_ σ (p ++ [e]) = none := by
  cases h2 : at_ σ (p ++ [e]) with
  | none => rfl
  | some m =>
    obtain ⟨m1, m2⟩ := at_some h2
    have := h.closed m m1 p e m2
    rw [hp] at this
    cases this
theorem nbAt_add {σ : List Nd} {m : Nd} (p : Wy) (hm : at_ σ m.path = none) : nbAt (σ ++ [m]) p = if p = m.path then some m.nb else nbAt σ p := by
  unfold nbAt
  rw [at_append]
  by_cases e : p = m.path
  · subst e
    rw [hm, if_pos rfl]
    simp [at_]
  · rw [if_neg e]
    simp only [at_]
    rw [if_neg (Ne.symm e)]
    simp
/-- A new child: its own blocks are new, and its parent leads to it. -/
theorem St.add {w w2 : World} {base : Nat} {σ : List Nd} {n m : Nd} {e : Stp} (h : St w base σ) (hn : n ∈ σ) (hp : m.path = n.path ++ [e]) (ha : at_ σ m.path = none)
    (hlo : w.heap.size ≤ m.nb ∧ w.heap.size ≤ m.mb)
    (hb : w2.heap[m.nb]? = some (.cells #[.map (some m.mb), .pointer none, m.v] 106 (0, 0))) (hmb : w2.heap[m.mb]? = some (.map (rawM .u8 []) 0))
    (hr : (Kd.int .u64).R 77 w2 base (fun _ => True) m.v m.ids) (hrn : ∀ i, m.v.ownBlock = some i → w.heap.size ≤ i)
    (hk : ∀ i, Own σ i → i ≠ n.nb → i ≠ n.mb → w2.heap[i]? = w.heap[i]?)
    (hN : w2.heap[n.nb]? = some (.cells #[.map (some n.mb), if e = none then ptr m.nb else ptrO (nbAt σ (n.path ++ [none])), n.v] 106 (0, 0)))
    (hM : ∀ es ck, MapOk w σ n es ck → ∃ es2 ck2, w2.heap[n.mb]? = some (.map (rawM .u8 es2) ck2) ∧ es2.Pairwise (fun a b => a.1 ≠ b.1) ∧ es2.Pairwise (fun a b => a.2.2 < b.2.2) ∧ (∀ x ∈ es2, x.2.2 < ck2) ∧ ∀ c : Int, lookE c es2 = if e = some c then some (ptr m.nb) else lookE c es) : St w2 base (σ ++ [m]) := by
  have okn := h.node n hn
  have hsz : base ≤ w.heap.size := by have := blk_lt okn.blk; have := okn.lo.1; omega
  have hroot : (at_ (σ ++ [m]) []).isSome := by rw [at_append]; have := h.root; cases e2 : at_ σ [] with
    | none => rw [e2] at this; cases this
    | some x => simp
  refine ⟨fun k hk2 => ?_, ?_, ?_, ?_, ?_, hroot, ?_⟩
  · rcases List.mem_append.1 hk2 with hk2 | hk2
    · have ok := h.node k hk2
      obtain ⟨es, ck, hm⟩ := ok.kids
      by_cases en : k.nb = n.nb
      · have e2 : k = n := pw_ne h.nbs hk2 hn en
        subst e2
        obtain ⟨es2, ck2, g1, g2, g3, g4, g5⟩ := hM es ck hm
        refine ⟨?_, ⟨es2, ck2, g1, g2, g3, g4, fun c => ?_⟩, ?_, ok.lo⟩
        · rw [nbAt_add _ ha, hN]
          by_cases ee : e = none
          · rw [if_pos ee, hp, ee, if_pos rfl]; rfl
          · rw [if_neg ee, hp, if_neg (fun h3 => ee (app_inj h3).2.symm)]
        · rw [g5 c, nbAt_add _ ha, hp]
          by_cases ee : e = some c
          · rw [if_pos ee, ee, if_pos rfl]; rfl
          · rw [if_neg ee, if_neg (fun h3 => ee (app_inj h3).2.symm)]; exact hm.look c
        · refine Kd.R_mono (Kd.R_move (Kd.R_tight rfl ok.row) (fun i hi => ?_)) (fun _ _ => trivial)
          refine hk i ⟨k, hk2, .inr (.inr hi.symm)⟩ (fun e3 => ?_) (fun e3 => ?_)
          · rw [e3] at hi; exact Kd.R_ne ok.row ok.blk (by decide) hi
          · obtain ⟨_, _, _, q, hq, cells, hc⟩ := (Kd.R_bound (Kd.R_tight rfl ok.row)).1 i hi.symm
            rw [e3, hm.blk] at hc
            cases hc
      · have hne : ∀ x : Stp, k.path ++ [x] ≠ m.path := fun x h3 => by
          rw [hp] at h3
          have := at_mem h.once hk2
          rw [(app_inj h3).1, at_mem h.once hn] at this
          injection this with this
          rw [this] at en
          exact en rfl
        have hmbn : k.mb ≠ n.mb := fun e3 => en (by rw [pw_ne h.mbs hk2 hn e3])
        obtain ⟨esn, ckn, hmn⟩ := okn.kids
        refine ⟨?_, ⟨es, ck, hm.congr ?_ (fun c => ?_)⟩, ?_, ok.lo⟩
        · rw [nbAt_add _ ha, if_neg (hne none)]
          refine (hk _ ⟨k, hk2, .inl rfl⟩ en (fun e3 => ?_)).trans ok.blk
          have := hmn.blk
          rw [← e3, ok.blk] at this
          cases this
        · refine hk _ ⟨k, hk2, .inr (.inl rfl)⟩ (fun e3 => ?_) hmbn
          have := hm.blk
          rw [e3, okn.blk] at this
          cases this
        · rw [nbAt_add _ ha, if_neg (hne (some c))]
        · refine Kd.R_mono (Kd.R_move (Kd.R_tight rfl ok.row) (fun i hi => ?_)) (fun _ _ => trivial)
          refine hk i ⟨k, hk2, .inr (.inr hi.symm)⟩ (fun e3 => ?_) (fun e3 => ?_)
          · rw [e3] at hi; exact Kd.R_ne ok.row okn.blk (by decide) hi
          · obtain ⟨_, _, _, q, hq, cells, hc⟩ := (Kd.R_bound (Kd.R_tight rfl ok.row)).1 i hi.symm
            rw [e3, hmn.blk] at hc
            cases hc
    · rw [List.mem_singleton.1 hk2]
      have hkid : ∀ x : Stp, nbAt (σ ++ [m]) (m.path ++ [x]) = none := fun x => by
        rw [nbAt_add _ ha, if_neg (by simp)]
        simp [nbAt, no_kid h ha x]
      refine ⟨?_, ⟨[], 0, hmb, .nil, .nil, fun x hx => (by cases hx), fun c => ?_⟩, hr, by omega⟩
      · rw [hkid none]; exact hb
      · rw [hkid (some c)]; rfl
  · refine List.pairwise_append.2 ⟨h.once, List.pairwise_singleton _ _, fun a ha2 b hb2 => ?_⟩
    rw [List.mem_singleton.1 hb2]
    exact at_none.1 ha a ha2
  · refine List.pairwise_append.2 ⟨h.nbs, List.pairwise_singleton _ _, fun a ha2 b hb2 => ?_⟩
    rw [List.mem_singleton.1 hb2]
    have := blk_lt (h.node a ha2).blk
    omega
  · refine List.pairwise_append.2 ⟨h.mbs, List.pairwise_singleton _ _, fun a ha2 b hb2 => ?_⟩
    rw [List.mem_singleton.1 hb2]
    obtain ⟨es, ck, hm⟩ := (h.node a ha2).kids
    have := blk_lt hm.blk
    omega
  · refine List.pairwise_append.2 ⟨h.rows, List.pairwise_singleton _ _, fun a ha2 b hb2 => ?_⟩
    rw [List.mem_singleton.1 hb2]
    intro i hi hi2
    have := Kd.R_lt (h.node a ha2).row i hi
    have := hrn i hi2
    omega
  · intro k hk2 p x hpx
    rw [at_append]
    have some_ : (at_ σ p).isSome → ((at_ σ p).or (at_ [m] p)).isSome := fun hs => by
      cases e2 : at_ σ p with
      | none => rw [e2] at hs; cases hs
      | some y => simp
    rcases List.mem_append.1 hk2 with hk2 | hk2
    · exact some_ (h.closed k hk2 p x hpx)
    · rw [List.mem_singleton.1 hk2, hp] at hpx
      have := (app_inj hpx).1
      refine some_ ?_
      rw [← this, at_mem h.once hn]
      rfl
theorem at_filter (q : Nd → Bool) (p : Wy) : ∀ {σ : List Nd}, Once σ → at_ (σ.filter q) p = (at_ σ p).filter q
  | [], _ => rfl
  | m :: t, h => by
    have ⟨h1, h2⟩ := List.pairwise_cons.1 h
    have ih := at_filter q p h2
    by_cases e : m.path = p
    · by_cases hq : q m = true
      · rw [List.filter_cons_of_pos hq]
        simp [at_, e, Option.filter, hq]
      · rw [List.filter_cons_of_neg hq, ih]
        have : at_ t p = none := at_none.2 (fun x hx e2 => h1 x hx (e.trans e2.symm))
        simp [at_, e, this, Option.filter, hq]
    · by_cases hq : q m = true
      · rw [List.filter_cons_of_pos hq]
        simp only [at_, e, if_false]
        exact ih
      · rw [List.filter_cons_of_neg hq]
        simp only [at_, e, if_false]
        exact ih
/-- A child without children goes. -/
theorem St.cut {w w2 : World} {base : Nat} {σ : List Nd} {n : Nd} {e : Stp} (h : St w base σ) (hn : n ∈ σ) (hleaf : ∀ k ∈ σ, ∀ x, k.path ≠ n.path ++ [e] ++ [x])
    (hk : ∀ i, Own σ i → i ≠ n.nb → i ≠ n.mb → w2.heap[i]? = w.heap[i]?)
    (hN : w2.heap[n.nb]? = some (.cells #[.map (some n.mb), if e = none then .pointer none else ptrO (nbAt σ (n.path ++ [none])), n.v] 106 (0, 0)))
    (hM : ∀ es ck, MapOk w σ n es ck → ∃ es2 ck2, w2.heap[n.mb]? = some (.map (rawM .u8 es2) ck2) ∧ es2.Pairwise (fun a b => a.1 ≠ b.1) ∧ es2.Pairwise (fun a b => a.2.2 < b.2.2) ∧ (∀ x ∈ es2, x.2.2 < ck2) ∧ ∀ c : Int, lookE c es2 = if e = some c then none else lookE c es) : St w2 base (σ.filter fun k => decide (k.path ≠ n.path ++ [e])) := by
  have okn := h.node n hn
  have hnb : ∀ p : Wy, nbAt (σ.filter fun k => decide (k.path ≠ n.path ++ [e])) p = if p = n.path ++ [e] then none else nbAt σ p := fun p => by
    unfold nbAt
    rw [at_filter _ _ h.once]
    cases e2 : at_ σ p with
    | none => simp
    | some m =>
      have := (at_some e2).2
      by_cases e3 : p = n.path ++ [e]
      · simp [Option.filter, this, e3]
      · simp [Option.filter, this, e3]
  refine ⟨fun k hk0 => ?_, h.once.filter _, h.nbs.filter _, h.mbs.filter _, h.rows.filter _, ?_, ?_⟩
  · obtain ⟨hk2, hkp⟩ := List.mem_filter.1 hk0
    clear hk0
    have hkp : k.path ≠ n.path ++ [e] := of_decide_eq_true hkp
    have ok := h.node k hk2
    obtain ⟨es, ck, hm⟩ := ok.kids
    by_cases en : k.nb = n.nb
    · have e2 : k = n := pw_ne h.nbs hk2 hn en
      subst e2
      obtain ⟨es2, ck2, g1, g2, g3, g4, g5⟩ := hM es ck hm
      refine ⟨?_, ⟨es2, ck2, g1, g2, g3, g4, fun c => ?_⟩, ?_, ok.lo⟩
      · rw [hnb, hN]
        by_cases ee : e = none
        · rw [if_pos ee, ee, if_pos rfl]; rfl
        · rw [if_neg ee, if_neg (fun h3 => ee (app_inj h3).2.symm)]
      · rw [g5 c, hnb]
        by_cases ee : e = some c
        · rw [if_pos ee, ee, if_pos rfl]; rfl
        · rw [if_neg ee, if_neg (fun h3 => ee (app_inj h3).2.symm)]; exact hm.look c
      · refine Kd.R_mono (Kd.R_move (Kd.R_tight rfl ok.row) (fun i hi => ?_)) (fun _ _ => trivial)
        refine hk i ⟨k, hk2, .inr (.inr hi.symm)⟩ (fun e3 => ?_) (fun e3 => ?_)
        · rw [e3] at hi; exact Kd.R_ne ok.row ok.blk (by decide) hi
        · obtain ⟨_, _, _, q, hq, cells, hc⟩ := (Kd.R_bound (Kd.R_tight rfl ok.row)).1 i hi.symm
          rw [e3, hm.blk] at hc
          cases hc
    · have hne : ∀ x : Stp, k.path ++ [x] ≠ n.path ++ [e] := fun x h3 => by
        have := at_mem h.once hk2
        rw [(app_inj h3).1, at_mem h.once hn] at this
        injection this with this
        rw [this] at en
        exact en rfl
      have hmbn : k.mb ≠ n.mb := fun e3 => en (by rw [pw_ne h.mbs hk2 hn e3])
      obtain ⟨esn, ckn, hmn⟩ := okn.kids
      refine ⟨?_, ⟨es, ck, hm.congr ?_ (fun c => ?_)⟩, ?_, ok.lo⟩
      · rw [hnb, if_neg (hne none)]
        refine (hk _ ⟨k, hk2, .inl rfl⟩ en (fun e3 => ?_)).trans ok.blk
        have := hmn.blk
        rw [← e3, ok.blk] at this
        cases this
      · refine hk _ ⟨k, hk2, .inr (.inl rfl)⟩ (fun e3 => ?_) hmbn
        have := hm.blk
        rw [e3, okn.blk] at this
        cases this
      · rw [hnb, if_neg (hne (some c))]
      · refine Kd.R_mono (Kd.R_move (Kd.R_tight rfl ok.row) (fun i hi => ?_)) (fun _ _ => trivial)
        refine hk i ⟨k, hk2, .inr (.inr hi.symm)⟩ (fun e3 => ?_) (fun e3 => ?_)
        · rw [e3] at hi; exact Kd.R_ne ok.row okn.blk (by decide) hi
        · obtain ⟨_, _, _, q, hq, cells, hc⟩ := (Kd.R_bound (Kd.R_tight rfl ok.row)).1 i hi.symm
          rw [e3, hmn.blk] at hc
          cases hc
  · rw [at_filter _ _ h.once]
    have := h.root
    cases e2 : at_ σ [] with
    | none => rw [e2] at this; cases this
    | some m =>
      have := (at_some e2).2
      simp [Option.filter, this]
  · intro k hk2 p x hpx
    obtain ⟨hk2, _⟩ := List.mem_filter.1 hk2
    rw [at_filter _ _ h.once]
    have := h.closed k hk2 p x hpx
    cases e2 : at_ σ p with
    | none => rw [e2] at this; cases this
    | some m =>
      have hm := (at_some e2).2
      have : p ≠ n.path ++ [e] := fun e3 => hleaf k hk2 x (by rw [hpx, e3])
      simp [Option.filter, hm, this]
end Go.Proofs.YtnoolgbbpekomaaGreatDoor.Tr
namespace Go.Proofs.YtnoolgbbpekomaaGreatDoor.Nn
open Go.RowKit YtnoolgbbpekomaaGreatDoorW.PrintWords YtnoolgbbpekomaaGreatDoorW.PrintLast YtnoolgbbpekomaaGreatDoorW.PrintMore Fr Tr
set_option linter.unusedVariables false
set_option linter.unusedSimpArgs false
theorem row_empty {w : World} {base b : Nat} (hb : w.heap[b]? = some (.cells #[] 77 (0, 0))) (hl : base ≤ b) : (Kd.int .u64).R 77 w base (fun _ => True) (.slice (some ⟨b, 0, none⟩) 0 0) [] :=
  Kd.R_of_own (xs := ([] : List Int)) ⟨rfl, .inr ⟨b, 0, #[], rfl, hl, hb, Nat.le_refl _, Nat.zero_le _, rfl, rfl⟩⟩ (fun _ _ => trivial)
set_option maxHeartbeats 400000 in
theorem newNode_calls (w : World) : Calls Tryz.prog 53 #[] w fun e w' => ∃ nb mb v, e = .returned (ptr nb) ∧ w.heap.size ≤ nb ∧ w.heap.size ≤ mb ∧ w'.heap[nb]? = some (.cells #[.map (some mb), .pointer none, v] 106 (0, 0)) ∧ w'.heap[mb]? = some (.map (rawM .u8 []) 0) ∧ (Kd.int .u64).R 77 w' w.heap.size (fun _ => True) v [] ∧ Below w.heap.size w w' := by
  have hmk := run_makeMap (P := Tryz.prog)
  have s1 : ∀ a : Obj, (w.alloc a).heap.size = w.heap.size + 1 := fun a => by simp [World.alloc_eq]
  have s2 : ∀ a b : Obj, ((w.alloc a).alloc b).heap.size = w.heap.size + 1 + 1 := fun a b => by simp [World.alloc_eq]
  have b1 : ∀ a b c : Obj, (((w.alloc a).alloc b).alloc c).heap[w.heap.size]? = some a := fun a b c => up1 (up1 (blk_new w a))
  have b2 : ∀ a b c : Obj, (((w.alloc a).alloc b).alloc c).heap[w.heap.size + 1]? = some b := fun a b c => by have := blk_new (w.alloc a) b; rw [s1] at this; exact up1 this
  have b3 : ∀ a b c : Obj, (((w.alloc a).alloc b).alloc c).heap[w.heap.size + 1 + 1]? = some c := fun a b c => by have := blk_new ((w.alloc a).alloc b) c; rw [s2] at this; exact this
  have H1 := Lib.hid s1
  have H2 := Lib.hid s2
  have H3 := Lib.hid b1
  have H4 := Lib.hid b2
  have H5 := Lib.hid b3
  clear s1 s2 b1 b2 b3
  go_enter Tryz.func53, Tryz.ntmps53
  go_wp2_with fail
  go_ret
  exact ⟨w.heap.size + 1 + 1, w.heap.size, _, rfl, by omega, Nat.le_refl _, H5.out _ _ _, H3.out _ _ _, row_empty (H4.out _ _ _) (by omega), (((Below.refl _ _).alloc (Nat.le_refl _) _).alloc (by simp) _).alloc (by simp; omega) _⟩
/-- A trie's own block: it leads to the root. -/
def Top (w : World) (tb : Nat) (σ : List Nd) : Prop := ∃ rb, w.heap[tb]? = some (.cells #[ptr rb] 90 (0, 0)) ∧ nbAt σ [] = some rb
theorem Top.below {w w1 : World} {tb : Nat} {σ : List Nd} (h : Top w tb σ) (hb : Below w.heap.size w w1) : Top w1 tb σ := by
  obtain ⟨rb, h1, h2⟩ := h
  exact ⟨rb, (hb.block tb (blk_lt h1)).trans h1, h2⟩
theorem one_st {w : World} {base nb mb : Nat} {v : Value} (h1 : base ≤ nb) (h2 : base ≤ mb) (hb : w.heap[nb]? = some (.cells #[.map (some mb), .pointer none, v] 106 (0, 0))) (hm : w.heap[mb]? = some (.map (rawM .u8 []) 0)) (hr : (Kd.int .u64).R 77 w base (fun _ => True) v []) : St w base [⟨[], nb, mb, v, []⟩] := by
  have hk : ∀ x : Stp, nbAt [⟨[], nb, mb, v, []⟩] ([] ++ [x]) = none := fun x => by simp [nbAt, at_]
  refine ⟨fun n hn => ?_, List.pairwise_singleton _ _, List.pairwise_singleton _ _, List.pairwise_singleton _ _, List.pairwise_singleton _ _, rfl, fun n hn p e hp => ?_⟩
  · rw [List.mem_singleton.1 hn]
    refine ⟨?_, ⟨[], 0, hm, .nil, .nil, fun x hx => (by cases hx), fun c => ?_⟩, hr, h1, h2⟩
    · rw [hk none]; exact hb
    · rw [hk (some c)]; rfl
  · rw [List.mem_singleton.1 hn] at hp
    simp at hp
set_option maxHeartbeats 400000 in
theorem newTrie_calls (w : World) : Calls Tryz.prog 43 #[] w fun e w' => ∃ tb nb mb v, e = .returned (ptr tb) ∧ w.heap.size ≤ tb ∧ Top w' tb [⟨[], nb, mb, v, []⟩] ∧ St w' w.heap.size [⟨[], nb, mb, v, []⟩] ∧ Below w.heap.size w w' := by
  have H0 := Lib.hid (newNode_calls w)
  go_enter Tryz.func43, Tryz.ntmps43
  go_wp2_with fail
  refine H0.out.mono ?_
  rintro e w1 ⟨nb, mb, v, rfl, h1, h2, h3, h4, h5, h6⟩
  have G1 := Lib.hid h1
  have G2 := Lib.hid h2
  have G3 := Lib.hid h3
  have G4 := Lib.hid h4
  have G5 := Lib.hid h5
  have G6 := Lib.hid h6
  clear h1 h2 h3 h4 h5 h6 H0
  simp only [ptr]
  go_wp2_with fail
  go_ret
  refine ⟨w1.heap.size, nb, mb, v, rfl, G6.out.size, ⟨nb, blk_new _ _, rfl⟩, one_st G1.out G2.out (up1 G3.out) (up1 G4.out) (Kd.R_alloc G5.out _), G6.out.alloc G6.out.size _⟩
set_option maxHeartbeats 400000 in
theorem assertTrue_calls (w : World) : Calls Tryz.prog 54 #[.bool true] w fun e w' => e = .returned (.tuple #[]) ∧ w = w' := by
  go_enter Tryz.func54, Tryz.ntmps54
  go_wp2
  go_end0
  exact ⟨rfl, rfl⟩
/-- No way leads on from here. -/
def Kidless (σ : List Nd) (p : Wy) : Prop := ∀ x : Stp, at_ σ (p ++ [x]) = none
theorem es_nil {w : World} {σ : List Nd} {n : Nd} {es : List Ent} {ck : Nat} (h : MapOk w σ n es ck) : es = [] ↔ ∀ c : Int, at_ σ (n.path ++ [some c]) = none := by
  constructor
  · intro e c
    have := h.look c
    rw [e] at this
    cases h2 : at_ σ (n.path ++ [some c]) with
    | none => rfl
    | some m => rw [nbAt, h2] at this; cases this
  · intro hn
    cases es with
    | nil => rfl
    | cons x t =>
      have := h.look x.1
      simp [lookE, nbAt, hn] at this
def EmptyPost (σ : List Nd) (n : Nd) (w : World) (e : Ending) (w' : World) : Prop := (∃ b, e = .returned (.bool b) ∧ (b = true ↔ Kidless σ n.path ∧ n.ids = [])) ∧ Drawn0 w w'
set_option maxHeartbeats 1000000 in
theorem isEmpty_calls {w : World} {base : Nat} {σ : List Nd} {n : Nd} (h : St w base σ) (hn : n ∈ σ) : Calls Tryz.prog 65 #[ptr n.nb] w (EmptyPost σ n w) := by
  have ok := h.node n hn
  obtain ⟨es, ck, hm⟩ := ok.kids
  obtain ⟨A, c, hv, hl, _⟩ := Kd.R_reads ok.row
  have hb := ok.blk
  have hes := es_nil hm
  have hsz : n.ids.length ≤ 9223372036854775807 := by
    have := Kd.own_of_R (enc := Value.int .u64) (h1 := fun _ => rfl) ok.row
    rcases this.2 with ⟨_, h2⟩ | ⟨g, cap, cur, _, _, _, h3, h4, _⟩
    · omega
    · simp only [maxLen] at h4; omega
  obtain ⟨ig, hig⟩ : ∃ ig, ig = nbAt σ (n.path ++ [none]) := ⟨_, rfl⟩
  have hkid : Kidless σ n.path ↔ es = [] ∧ ig = none := by
    rw [hes, hig]
    constructor
    · intro h; exact ⟨fun c => h (some c), by simp [nbAt, h none]⟩
    · rintro ⟨h1, h2⟩ x
      cases x with
      | none => simpa [nbAt] using h2
      | some c => exact h1 c
  have hgoal : ∀ b : Bool, (b = true ↔ (es = [] ∧ n.ids = []) ∧ ig = none) → (b = true ↔ Kidless σ n.path ∧ n.ids = []) := fun b hb => by
    rw [hb, hkid]
    exact ⟨fun h => ⟨⟨h.1.1, h.2⟩, h.1.2⟩, fun h => ⟨⟨h.1.1, h.2⟩, h.1.2⟩⟩
  have c0 := blk_cell hb 0
  have c1 := blk_cell hb 1
  have c2 := blk_cell hb 2
  rw [← hig, hv] at c0 c1 c2
  have HG := Lib.hid hgoal
  have HM := Lib.hid hm.blk
  clear hgoal hkid hig hes hm hb ok hn h
  simp only [ptr]
  simp at c0 c1 c2
  have d0 : w.cell? ⟨n.nb, 0, none⟩ = some (.map (some n.mb)) := c0
  have d1 : w.cell? ⟨n.nb, 1, none⟩ = some (ptrO ig) := c1
  have d2 : w.cell? ⟨n.nb, 2, none⟩ = some (.slice A n.ids.length c) := c2
  clear c0 c1 c2
  have fin : ∀ b : Bool, (b = true ↔ (es = [] ∧ n.ids = []) ∧ ig = none) → (∃ b2, Ending.returned (.bool b) = .returned (.bool b2) ∧ (b2 = true ↔ Kidless σ n.path ∧ n.ids = [])) := fun b hb => ⟨b, rfl, HG.out b hb⟩
  have FIN := Lib.hid fin
  clear fin
  by_cases he : es = []
  · have e1 : ((es.length : Int) == 0) = true := by simp [he]
    by_cases hi : n.ids = []
    · have e2 : ((n.ids.length : Int) == 0) = true := by simp [hi]
      have e2n : (n.ids.length == 0) = true := by simp [hi]
      cases ig with
      | none =>
        simp only [ptrO] at d1
        have F := Lib.hid (FIN.out true ⟨fun _ => ⟨⟨he, hi⟩, rfl⟩, fun _ => rfl⟩)
        clear he hi FIN
        go_enter Tryz.func65, Tryz.ntmps65
        go_wp2_with ((with_reducible refine gate_builtin (b := .len) (xs := #[.tmp 6]) rfl ?_); refine wpL_len _ rfl _ rfl Tryz.underlying104 rfl HM.out ?_)
        go_ret
        exact ⟨F.out, 0, rfl⟩
      | some b =>
        simp only [ptrO, ptr] at d1
        have F := Lib.hid (FIN.out false ⟨fun h => (by cases h), fun h => (by cases h.2)⟩)
        clear he hi FIN
        go_enter Tryz.func65, Tryz.ntmps65
        go_wp2_with ((with_reducible refine gate_builtin (b := .len) (xs := #[.tmp 6]) rfl ?_); refine wpL_len _ rfl _ rfl Tryz.underlying104 rfl HM.out ?_)
        go_ret
        exact ⟨F.out, 0, rfl⟩
    · have hp : 0 < n.ids.length := List.length_pos_iff.2 hi
      have e2 : ((n.ids.length : Int) == 0) = false := by simp [hi]
      have e2n : (n.ids.length == 0) = false := by simp [hi]
      have F := Lib.hid (FIN.out false ⟨fun h => (by cases h), fun h => absurd h.1.2 hi⟩)
      clear he hi FIN
      go_enter Tryz.func65, Tryz.ntmps65
      go_wp2_with ((with_reducible refine gate_builtin (b := .len) (xs := #[.tmp 6]) rfl ?_); refine wpL_len _ rfl _ rfl Tryz.underlying104 rfl HM.out ?_)
      go_ret
      exact ⟨F.out, 0, rfl⟩
  · have e1 : ((es.length : Int) == 0) = false := by simp [he]
    have F := Lib.hid (FIN.out false ⟨fun h => (by cases h), fun h => absurd h.1.1 he⟩)
    clear he FIN
    go_enter Tryz.func65, Tryz.ntmps65
    go_wp2_with ((with_reducible refine gate_builtin (b := .len) (xs := #[.tmp 6]) rfl ?_); refine wpL_len _ rfl _ rfl Tryz.underlying104 rfl HM.out ?_)
    go_ret
    exact ⟨F.out, 0, rfl⟩
end Go.Proofs.YtnoolgbbpekomaaGreatDoor.Nn
namespace Go.Proofs.YtnoolgbbpekomaaGreatDoor.Sd
open Fr Tr
set_option linter.unusedVariables false
set_option linter.unusedSimpArgs false
/-- What is left of a way behind another one. -/
def after : Wy → Wy → Option Wy
  | [], q => some q
  | _ :: _, [] => none
  | a :: p, b :: q => if a = b then after p q else none
theorem after_eq : ∀ {p q r : Wy}, after p q = some r ↔ q = p ++ r
  | [], q, r => by simp [after]
  | a :: p, [], r => by simp [after]
  | a :: p, b :: q, r => by
    simp only [after]
    by_cases e : a = b
    · rw [if_pos e, after_eq]; subst e; simp
    · rw [if_neg e]; simp [Ne.symm e]
theorem after_app (p s q : Wy) : after (p ++ s) q = (after p q).bind (after s) := by
  cases h : after p q with
  | some r =>
    rw [after_eq] at h
    subst h
    simp only [Option.bind_some]
    cases h2 : after s r with
    | some t => rw [after_eq] at h2 ⊢; rw [h2, List.append_assoc]
    | none =>
      cases h3 : after (p ++ s) (p ++ r) with
      | none => rfl
      | some t =>
        rw [after_eq, List.append_assoc] at h3
        rw [after_eq.2 (List.append_cancel_left h3)] at h2
        cases h2
  | none =>
    cases h3 : after (p ++ s) q with
    | none => rfl
    | some t =>
      rw [after_eq, List.append_assoc] at h3
      rw [after_eq.2 h3] at h
      cases h
theorem after_self (p : Wy) : after p p = some [] := after_eq.2 (by simp)
theorem after_one (x : Stp) : ∀ r : Wy, after [x] r = match r with | [] => none | y :: t => if x = y then some t else none
  | [] => rfl
  | y :: t => by simp [after]
theorem closed_pre {w : World} {base : Nat} {σ : List Nd} (h : St w base σ) : ∀ (d : Nat) (r q : Wy) (k : Nd), r.length = d → k ∈ σ → k.path = q ++ r → (at_ σ q).isSome
  | 0, r, q, k, hl, hk, hp => by
    have : r = [] := List.eq_nil_of_length_eq_zero hl
    subst this
    rw [List.append_nil] at hp
    rw [← hp, at_mem h.once hk]; rfl
  | d + 1, r, q, k, hl, hk, hp => by
    have hne : r ≠ [] := fun e => by rw [e] at hl; cases hl
    have e : r = r.dropLast ++ [r.getLast hne] := (List.dropLast_concat_getLast hne).symm
    have h1 := h.closed k hk (q ++ r.dropLast) (r.getLast hne) (by rw [hp, List.append_assoc]; congr 1)
    cases h2 : at_ σ (q ++ r.dropLast) with
    | none => rw [h2] at h1; cases h1
    | some m =>
      obtain ⟨m1, m2⟩ := at_some h2
      exact closed_pre h d r.dropLast q m (by rw [List.length_dropLast, hl]; rfl) m1 m2
/-! ### how many -/
def ind (b : Bool) : Nat := if b then 1 else 0
def cn (σ : List Nd) (p : Wy) : Nat := (σ.map fun k => ind (after p k.path).isSome).sum
theorem sum_add {α : Type} (f g : α → Nat) : ∀ l : List α, (l.map fun x => f x + g x).sum = (l.map f).sum + (l.map g).sum
  | [] => rfl
  | x :: t => by simp [sum_add f g t]; omega
theorem sum_swap {α β : Type} (f : α → β → Nat) (m : List β) : ∀ l : List α, (l.map fun x => (m.map fun y => f x y).sum).sum = (m.map fun y => (l.map fun x => f x y).sum).sum
  | [] => by
    induction m with
    | nil => rfl
    | cons y s ih => simpa using ih
  | x :: t => by
    rw [List.map_cons, List.sum_cons, sum_swap f m t, ← sum_add]
    rfl
theorem one_eq {σ : List Nd} (ho : Once σ) {n : Nd} (hn : n ∈ σ) : (σ.map fun k => ind (decide (k.path = n.path))).sum = 1 := by
  induction σ with
  | nil => cases hn
  | cons m t ih =>
    have ⟨h1, h2⟩ := List.pairwise_cons.1 ho
    rw [List.map_cons, List.sum_cons]
    rcases List.mem_cons.1 hn with e | e
    · subst e
      have : (t.map fun k => ind (decide (k.path = n.path))).sum = 0 := by
        have hz : ∀ k ∈ t, ind (decide (k.path = n.path)) = 0 := fun k hk => by simp [ind, Ne.symm (h1 k hk)]
        clear ih h2 h1 hn ho
        induction t with
        | nil => rfl
        | cons a s ih => rw [List.map_cons, List.sum_cons, hz a List.mem_cons_self, ih (fun k hk => hz k (List.mem_cons_of_mem _ hk))]
      rw [this]
      simp [ind]
    · rw [ih h2 e]
      simp [ind, h1 n e]
theorem key_sum {es : List Ent} (ho : es.Pairwise (fun a b => a.1 ≠ b.1)) (c : Int) : (es.map fun x => ind (decide (x.1 = c))).sum = ind (lookE c es).isSome := by
  induction es with
  | nil => rfl
  | cons x t ih =>
    have ⟨h1, h2⟩ := List.pairwise_cons.1 ho
    rw [List.map_cons, List.sum_cons, ih h2]
    simp only [lookE]
    by_cases e : x.1 = c
    · have : lookE c t = none := look_none.2 (fun y hy e2 => h1 y hy (by rw [e, e2]))
      simp [e, this, ind]
    · simp [e, ind]
theorem cn_step {w : World} {base : Nat} {σ : List Nd} {n : Nd} {es : List Ent} {ck : Nat} (h : St w base σ) (hn : n ∈ σ) (hm : MapOk w σ n es ck) :
    cn σ n.path = 1 + cn σ (n.path ++ [none]) + (es.map fun x => cn σ (n.path ++ [some x.1])).sum := by
  have each : ∀ k ∈ σ, ind (after n.path k.path).isSome = ind (decide (k.path = n.path)) + ind (after (n.path ++ [none]) k.path).isSome + (es.map fun x => ind (after (n.path ++ [some x.1]) k.path).isSome).sum := by
    intro k hk
    have hx : ∀ x : Stp, after (n.path ++ [x]) k.path = (after n.path k.path).bind (after [x]) := fun x => after_app _ _ _
    cases ha : after n.path k.path with
    | none =>
      have hz : (es.map fun x => ind (after (n.path ++ [some x.1]) k.path).isSome).sum = 0 := by
        have : (es.map fun x => ind (after (n.path ++ [some x.1]) k.path).isSome) = es.map fun _ => 0 := List.map_congr_left (fun x _ => by rw [hx, ha]; rfl)
        rw [this]
        clear this hx hm ha
        induction es with
        | nil => rfl
        | cons a s ih => simpa using ih
      have hne : k.path ≠ n.path := fun e => by rw [e, after_self] at ha; cases ha
      rw [hz, hx, ha]
      simp [ind, hne]
    | some r =>
      have hr := after_eq.1 ha
      cases r with
      | nil =>
        have hz : (es.map fun x => ind (after (n.path ++ [some x.1]) k.path).isSome).sum = 0 := by
          have : (es.map fun x => ind (after (n.path ++ [some x.1]) k.path).isSome) = es.map fun _ => 0 := List.map_congr_left (fun x _ => by rw [hx, ha]; rfl)
          rw [this]
          clear this hx hm ha
          induction es with
          | nil => rfl
          | cons a s ih => simpa using ih
        rw [hz, hx, ha]
        simp at hr
        simp [ind, hr, after]
      | cons y t =>
        have hne : k.path ≠ n.path := fun e => by rw [e, after_self] at ha; injection ha with ha; cases ha
        have hy : (at_ σ (n.path ++ [y])).isSome := closed_pre h t.length t (n.path ++ [y]) k rfl hk (by rw [hr]; simp)
        have e1 : (es.map fun x => ind (after (n.path ++ [some x.1]) k.path).isSome) = es.map fun x => ind (decide (some x.1 = y)) := List.map_congr_left (fun x _ => by
          rw [hx, ha, Option.bind_some, after_one]
          by_cases e : some x.1 = y
          · simp [e]
          · simp [e])
        rw [e1, hx, ha, Option.bind_some, after_one]
        cases y with
        | none =>
          have : (es.map fun x => ind (decide (some x.1 = (none : Stp)))).sum = 0 := by
            clear e1 hx hm
            induction es with
            | nil => rfl
            | cons a s ih => simpa [ind] using ih
          rw [this]
          simp [ind, hne]
        | some c =>
          have hl := hm.look c
          have hls : (lookE c es).isSome = true := by
            rw [hl, Option.isSome_map, nbAt_isSome]; exact hy
          have : (es.map fun x => ind (decide (some x.1 = (some c : Stp)))) = es.map fun x => ind (decide (x.1 = c)) := List.map_congr_left (fun x _ => by simp)
          rw [this, key_sum hm.once c, hls]
          simp [ind, hne]
  have e1 : cn σ n.path = (σ.map fun k => ind (decide (k.path = n.path)) + ind (after (n.path ++ [none]) k.path).isSome + (es.map fun x => ind (after (n.path ++ [some x.1]) k.path).isSome).sum).sum := by
    unfold cn
    rw [List.map_congr_left each]
  rw [e1, sum_add, sum_add, one_eq h.once hn, sum_swap]
  rfl
theorem cn_le (σ : List Nd) (p : Wy) : cn σ p ≤ σ.length := by
  unfold cn
  induction σ with
  | nil => simp
  | cons a t ih =>
    rw [List.map_cons, List.sum_cons, List.length_cons]
    have : ind (after p a.path).isSome ≤ 1 := by unfold ind; split <;> omega
    omega
theorem cn_none {σ : List Nd} {p : Wy} (hc : ∀ k ∈ σ, (after p k.path).isSome = false) : cn σ p = 0 := by
  unfold cn
  induction σ with
  | nil => rfl
  | cons a t ih => rw [List.map_cons, List.sum_cons, hc a List.mem_cons_self, ih (fun k hk => hc k (List.mem_cons_of_mem _ hk))]; rfl
theorem none_below {w : World} {base : Nat} {σ : List Nd} (h : St w base σ) {p : Wy} (hp : at_ σ p = none) : ∀ k ∈ σ, (after p k.path).isSome = false := fun k hk => by
  cases h2 : after p k.path with
  | none => rfl
  | some r =>
    have := closed_pre h r.length r p k rfl hk (after_eq.1 h2)
    rw [hp] at this
    cases this
theorem cn_root {w : World} {base : Nat} {σ : List Nd} (h : St w base σ) : cn σ [] = σ.length := by
  unfold cn
  clear h
  induction σ with
  | nil => rfl
  | cons a t ih => rw [List.map_cons, List.sum_cons, ih]; simp [after, ind]; omega
/-! ### a range over a map: what is still to come -/
def togo (es : List Ent) (seen : Array Nat) : List Ent := es.filter fun x => !seen.contains x.2.2
def unseen (es : List Ent) (seen : Array Nat) : Nat := (togo es seen).length
def todo (f : Ent → Nat) (es : List Ent) (seen : Array Nat) : Nat := ((togo es seen).map f).sum
theorem togo_start (es : List Ent) : togo es #[] = es := List.filter_eq_self.2 (by simp)
theorem togo_done {es : List Ent} {seen : Array Nat} (h : ∀ x ∈ es, x.2.2 ∈ seen) : togo es seen = [] := by
  unfold togo
  rw [List.filter_eq_nil_iff]
  intro x hx
  simp [h x hx]
theorem togo_push {es : List Ent} (hb : es.Pairwise (fun a b => a.2.2 < b.2.2)) {seen : Array Nat} {x : Ent} (hx : x ∈ es) (hs : x.2.2 ∉ seen) (f : Ent → Nat) :
    ((togo es seen).map f).sum = f x + ((togo es (seen.push x.2.2)).map f).sum := by
  unfold togo
  induction es with
  | nil => cases hx
  | cons y t ih =>
    have ⟨h1, h2⟩ := List.pairwise_cons.1 hb
    have same : ∀ s : List Ent, (∀ z ∈ s, z.2.2 ≠ x.2.2) → s.filter (fun x => !seen.contains x.2.2) = s.filter (fun z => !(seen.push x.2.2).contains z.2.2) := fun s hz => by
      refine List.filter_congr (fun z hzm => ?_)
      have := hz z hzm
      simp [Array.contains_eq_mem, Array.mem_push, this]
    rcases List.mem_cons.1 hx with e | e
    · subst e
      have hin : (fun z : Ent => !seen.contains z.2.2) x = true := by simp [Array.contains_eq_mem, hs]
      have hout : ¬ (fun z : Ent => !(seen.push x.2.2).contains z.2.2) x = true := by simp [Array.contains_eq_mem]
      rw [List.filter_cons_of_pos (p := fun z : Ent => !seen.contains z.2.2) hin, List.filter_cons_of_neg (p := fun z : Ent => !(seen.push x.2.2).contains z.2.2) hout, List.map_cons, List.sum_cons, same t (fun z hz => by have := h1 z hz; omega)]
    · have hne : y.2.2 ≠ x.2.2 := by have := h1 x e; omega
      have hq : (!(seen.push x.2.2).contains y.2.2) = (!seen.contains y.2.2) := by simp [Array.contains_eq_mem, Array.mem_push, hne]
      have ih := ih h2 e
      by_cases hy : (!seen.contains y.2.2) = true
      · rw [List.filter_cons_of_pos (p := fun z : Ent => !seen.contains z.2.2) hy, List.filter_cons_of_pos (p := fun z : Ent => !(seen.push x.2.2).contains z.2.2) (by rw [hq]; exact hy), List.map_cons, List.map_cons, List.sum_cons, List.sum_cons, ih]
        omega
      · rw [List.filter_cons_of_neg (p := fun z : Ent => !seen.contains z.2.2) hy, List.filter_cons_of_neg (p := fun z : Ent => !(seen.push x.2.2).contains z.2.2) (by rw [hq]; exact hy), ih]
theorem unseen_push {es : List Ent} (hb : es.Pairwise (fun a b => a.2.2 < b.2.2)) {seen : Array Nat} {x : Ent} (hx : x ∈ es) (hs : x.2.2 ∉ seen) : unseen es (seen.push x.2.2) < unseen es seen := by
  have := togo_push hb hx hs (fun _ => 1)
  have e : ∀ l : List Ent, (l.map fun _ => 1).sum = l.length := fun l => by induction l with
    | nil => rfl
    | cons a t ih => rw [List.map_cons, List.sum_cons, ih, List.length_cons]; omega
  rw [e, e] at this
  unfold unseen
  omega
end Go.Proofs.YtnoolgbbpekomaaGreatDoor.Sd
namespace Go.Proofs.YtnoolgbbpekomaaGreatDoor.No
open Go.RowKit YtnoolgbbpekomaaGreatDoorW.PrintWords YtnoolgbbpekomaaGreatDoorW.PrintLast YtnoolgbbpekomaaGreatDoorW.PrintMore Fr Tr Sd Nn
set_option linter.unusedVariables false
set_option linter.unusedSimpArgs false
def NumRel (w : World) (es : List Ent) (ck mb r : Nat) (f : Ent → Nat) (M : Nat) (k : Nat) (nv : Value) (wr : World) : Prop :=
  ∃ (n : Nat) (seen : Array Nat), nv = .int .i64 n ∧ n + todo f es seen = M ∧ wr.heap[r]? = some (.mapIter (some mb) ck seen ck) ∧ Below w.heap.size w wr ∧ k = unseen es seen
theorem setO_below {w w1 : World} (h : Below w.heap.size w w1) {r : Nat} (hr : w.heap.size ≤ r) (o : Obj) : Below w.heap.size w (setO w1 r o) :=
  (Kp.setO (S := fun _ => False) (Kp.of_below h _) (.inr hr) o).toBelow (fun _ x => x.elim)
theorem nil_calls (w : World) : Calls Tryz.prog 60 #[.pointer none] w fun e w' => e = .returned (.int .i64 0) ∧ Below w.heap.size w w' := by
  go_enter Tryz.func60, Tryz.ntmps60
  go_wp2_with fail
  go_ret
  exact ⟨rfl, Below.refl _ _⟩
def NumPost (w : World) (c : Nat) (e : Ending) (w' : World) : Prop := e = .returned (.int .i64 (c : Int)) ∧ Below w.heap.size w w'
set_option maxHeartbeats 1000000 in
theorem num_step {base : Nat} {σ : List Nd} (hs : σ.length ≤ 1000000000000) (w : World) (n : Nd) (h : St w base σ) (hn : n ∈ σ)
    (kid : ∀ (x : Stp) (m : Nd), at_ σ (n.path ++ [x]) = some m → ∀ w1, St w1 base σ → Calls Tryz.prog 60 #[ptr m.nb] w1 (NumPost w1 (cn σ (n.path ++ [x])))) : Calls Tryz.prog 60 #[ptr n.nb] w (NumPost w (cn σ n.path)) := by
    have ok := h.node n hn
    obtain ⟨es, ck, hm⟩ := ok.kids
    have hb := ok.blk
    have hstep := cn_step h hn hm
    have hle := cn_le σ n.path
    obtain ⟨f, hf⟩ : ∃ f : Ent → Nat, f = fun x => cn σ (n.path ++ [some x.1]) := ⟨_, rfl⟩
    rw [← hf] at hstep
    obtain ⟨c0, hc0⟩ : ∃ c, c = cn σ (n.path ++ [none]) := ⟨_, rfl⟩
    rw [← hc0] at hstep
    obtain ⟨ig, hig⟩ : ∃ ig, ig = at_ σ (n.path ++ [none]) := ⟨_, rfl⟩
    have e0 : nbAt σ (n.path ++ [none]) = ig.map (·.nb) := by rw [hig]; rfl
    rw [e0] at hb
    have q0 : w.cell? ⟨n.nb, 0, none⟩ = some (.map (some n.mb)) := blk_cell hb 0
    have q1 : w.cell? ⟨n.nb, 1, none⟩ = some (ptrO (ig.map (·.nb))) := blk_cell hb 1
    -- the first call
    have first : ∀ w1, St w1 base σ → Calls Tryz.prog 60 #[ptrO (ig.map (·.nb))] w1 (NumPost w1 c0) := fun w1 h1 => by
      cases hig2 : ig with
      | none =>
        have : c0 = 0 := by rw [hc0]; exact cn_none (none_below h (by rw [← hig, hig2]))
        rw [this]
        exact (nil_calls w1)
      | some m =>
        rw [hc0]
        exact kid none m (by rw [← hig, hig2]) w1 h1
    have kids : ∀ x ∈ es, ∃ b, x.2.1 = ptr b ∧ ∀ w1, St w1 base σ → Calls Tryz.prog 60 #[ptr b] w1 (NumPost w1 (f x)) := fun x hx => by
      have hl : lookE x.1 es = some x.2.1 := by
        have ho := hm.once
        clear hstep hm kid
        induction es with
        | nil => cases hx
        | cons y t ih =>
          have ⟨h1, h2⟩ := List.pairwise_cons.1 ho
          simp only [lookE]
          rcases List.mem_cons.1 hx with e | e
          · subst e; simp
          · rw [if_neg (h1 x e)]; exact ih e h2
      rw [hm.look x.1] at hl
      obtain ⟨b, hb2, he⟩ := Option.map_eq_some_iff.1 hl
      obtain ⟨m, hm2, hmb⟩ := Option.map_eq_some_iff.1 hb2
      refine ⟨b, he.symm, fun w1 h1 => ?_⟩
      rw [hf, ← hmb]
      exact kid (some x.1) m hm2 w1 h1
    have HS := Lib.hid h
    have FIRST := Lib.hid (first w h)
    have KIDS := Lib.hid kids
    have HM := Lib.hid hm
    have HSTEP := Lib.hid hstep
    have hle2 : 1 + c0 + (es.map f).sum ≤ 1000000000000 := by omega
    have HB := Lib.hid hb
    clear h hm hb ok kid first kids hig hc0 hf e0 hle
    obtain ⟨pv, hpv⟩ : ∃ pv, pv = ptrO (ig.map (·.nb)) := ⟨_, rfl⟩
    rw [← hpv] at q1 FIRST
    clear hpv
    obtain ⟨C, hC⟩ : ∃ C, C = cn σ n.path := ⟨_, rfl⟩
    rw [← hC] at HSTEP ⊢
    have HC := Lib.hid hC
    clear hC hstep
    simp only [ptr]
    go_enter Tryz.func60, Tryz.ntmps60
    go_wp2_with fail
    refine FIRST.out.mono ?_
    rintro e w1 ⟨rfl, hb1⟩
    have hs1 := HS.out.below hb1
    have HS1 := Lib.hid hs1
    have q01 : w1.cell? ⟨n.nb, 0, none⟩ = some (.map (some n.mb)) := (hb1.cell (World.block_lt_of_cell? w _ q0)).trans q0
    have hm1 : w1.heap[n.mb]? = some (.map (rawM .u8 es) ck) := (hb1.block _ (blk_lt HM.out.blk)).trans HM.out.blk
    have HM1 := Lib.hid hm1
    have HB1 := Lib.hid hb1
    have hc0 : c0 ≤ 1000000000000 := by omega
    clear q0 q1 hs1 hm1 hb1 FIRST HS
    go_wp2_with (at_range; refine wpL_range _ rfl _ rfl Tryz.underlying104 rfl HM1.out ?_; go_frame)
    have hrq : w1.heap.size ≠ n.mb := by have := blk_lt HM1.out; omega
    go_loopg [3] (unseen es #[]) (fun k nv wr => NumRel w1 es ck n.mb w1.heap.size f (c0 + (es.map f).sum) k nv wr)
    case atStart => exact ⟨c0, #[], rfl, by unfold todo; rw [togo_start], blk_new w1 _, (Below.refl _ _).alloc (Nat.le_refl _) _, rfl⟩
    case round =>
      obtain ⟨j, seen, rfl, hj, hit, hbl, hk⟩ := hrel
      have HJ := Lib.hid hj
      have HIT := Lib.hid hit
      have HBL := Lib.hid hbl
      have HK := Lib.hid hk
      have hmr : wr.heap[n.mb]? = some (.map (rawM .u8 es) ck) := (hbl.block _ (blk_lt HM1.out)).trans HM1.out
      have HMR := Lib.hid hmr
      have hjb : j ≤ 1000000000000 := by omega
      clear hj hit hbl hk hmr
      go_wp2_with (at_next; refine wpL_next _ rfl _ rfl ck seen rfl HIT.out HMR.out hrq HM.out.clock (Nat.le_refl _) HM.out.born (fun hdone => ?_) (fun x hx hns w6 hw6 hen => ?_))
      · have hjs := HJ.out
        unfold todo at hjs
        rw [togo_done hdone] at hjs
        have hfin : ((j : Int) + 1) = (C : Int) := by
          have := HSTEP.out
          simp at hjs
          omega
        have HF := Lib.hid hfin
        clear hjs hfin hdone
        go_wp2_with fail
        go_ret
        refine ⟨?_, HB1.out.trans (HBL.out.mono HB1.out.size)⟩
        rw [← HF.out]
        rfl
      · have h2 := togo_push HM.out.born hx hns f
        have h3 := unseen_push HM.out.born hx hns
        obtain ⟨b, hxb, hcall⟩ := KIDS.out x hx
        have bl6 : Below w1.heap.size w1 (setO w6 w1.heap.size (Obj.mapIter (some n.mb) ck (seen.push x.2.2) ck)) := by
          rcases hw6 with rfl | rfl
          · exact setO_below HBL.out (Nat.le_refl _) _
          · exact setO_below HBL.out.drew (Nat.le_refl _) _
        have hi6 : (setO w6 w1.heap.size (Obj.mapIter (some n.mb) ck (seen.push x.2.2) ck)).heap[w1.heap.size]? = some (.mapIter (some n.mb) ck (seen.push x.2.2) ck) := by
          rcases hw6 with rfl | rfl
          · exact setO_same HIT.out
          · exact setO_same (w := wr.drew) HIT.out
        have hfx : j + f x ≤ 1000000000000 := by
          have := HJ.out
          unfold todo at this
          omega
        have H2 := Lib.hid h2
        have H3 := Lib.hid h3
        have HI6 := Lib.hid hi6
        have BL6 := Lib.hid bl6
        have CALL := Lib.hid (hcall _ (HS1.out.below bl6))
        rw [hxb] at hen ⊢
        simp only [ptr] at hen ⊢ CALL
        clear h2 h3 hi6 bl6 hcall hxb hns
        obtain ⟨W6, hW6⟩ : ∃ W6, W6 = setO w6 w1.heap.size (Obj.mapIter (some n.mb) ck (seen.push x.2.2) ck) := ⟨_, rfl⟩
        rw [← hW6] at hen HI6 BL6 CALL ⊢
        clear hW6
        go_wp2_with fail
        refine CALL.out.mono ?_
        rintro e w7 ⟨rfl, hb7⟩
        have HB7 := Lib.hid hb7
        clear hb7
        go_wp2_with fail
        go_roundg (unseen es (seen.push x.2.2))
        case measure => have := HK.out; have := H3.out; omega
        case rel =>
          refine ⟨j + f x, seen.push x.2.2, by go_num, ?_, (HB7.out.block _ (blk_lt HI6.out)).trans HI6.out, BL6.out.trans (HB7.out.mono BL6.out.size), rfl⟩
          have := HJ.out
          have := H2.out
          unfold todo at *
          omega
theorem num_calls {base : Nat} {σ : List Nd} (hs : σ.length ≤ 1000000000000) (d : Nat) : ∀ (w : World) (n : Nd), St w base σ → n ∈ σ → (∀ k ∈ σ, k.path.length ≤ n.path.length + d) → Calls Tryz.prog 60 #[ptr n.nb] w (NumPost w (cn σ n.path)) := by
  induction d with
  | zero =>
    intro w n h hn hd
    refine num_step hs w n h hn (fun x m hm w1 h1 => ?_)
    obtain ⟨m1, m2⟩ := at_some hm
    have := hd m m1
    rw [m2, List.length_append] at this
    have e : [x].length = 1 := rfl
    omega
  | succ d ih =>
    intro w n h hn hd
    refine num_step hs w n h hn (fun x m hm w1 h1 => ?_)
    obtain ⟨m1, m2⟩ := at_some hm
    have := ih w1 m h1 m1 (fun k hk => by have := hd k hk; rw [m2, List.length_append]; simp; omega)
    rw [m2] at this
    exact this
theorem nodes_calls {w : World} {base tb : Nat} {σ : List Nd} (h : St w base σ) (ht : Top w tb σ) (hs : σ.length ≤ 1000000000000) : Calls Tryz.prog 49 #[ptr tb] w fun e w' => e = .returned (.int .i64 (σ.length : Int)) ∧ Below w.heap.size w w' := by
  obtain ⟨rb, h1, h2⟩ := ht
  obtain ⟨n, hn, hnb⟩ := Option.map_eq_some_iff.1 h2
  obtain ⟨n1, n2⟩ := at_some hn
  obtain ⟨D, hD⟩ : ∃ D, ∀ k ∈ σ, k.path.length ≤ D := by
    clear h hs h2 hn n1
    induction σ with
    | nil => exact ⟨0, fun k hk => by cases hk⟩
    | cons a t ih =>
      obtain ⟨D, hD⟩ := ih
      exact ⟨max D a.path.length, fun k hk => by
        rcases List.mem_cons.1 hk with e | e
        · rw [e]; omega
        · have := hD k e; omega⟩
  have hc := num_calls hs D w n h n1 (fun k hk => by have := hD k hk; omega)
  rw [n2, cn_root h] at hc
  rw [← hnb] at h1
  obtain ⟨L, hL⟩ : ∃ L, L = σ.length := ⟨_, rfl⟩
  rw [← hL] at hc ⊢
  have HC := Lib.hid hc
  clear hL hs
  have q : w.cell? ⟨tb, 0, none⟩ = some (ptr n.nb) := blk_cell h1 0
  clear hc h1 h2 hn n1 n2 hnb hD
  simp only [ptr] at q HC ⊢
  go_enter Tryz.func49, Tryz.ntmps49
  go_wp2_with fail
  refine HC.out.mono ?_
  rintro e w7 ⟨rfl, hb7⟩
  have HB7 := Lib.hid hb7
  clear hb7
  go_wp2_with fail
  go_ret
  exact ⟨by first | rfl | (simp; done), HB7.out⟩
end Go.Proofs.YtnoolgbbpekomaaGreatDoor.No
namespace Go.Proofs.YtnoolgbbpekomaaGreatDoor.Rp
open Go.RowKit YtnoolgbbpekomaaGreatDoorW.PrintWords YtnoolgbbpekomaaGreatDoorW.PrintLast YtnoolgbbpekomaaGreatDoorW.PrintMore Fr Tr Sd Nn
set_option linter.unusedVariables false
set_option linter.unusedSimpArgs false
/-- There are numbers at or below a way. -/
def alive (σ : List Nd) (p : Wy) : Bool := σ.any fun k => (after p k.path).isSome && !k.ids.isEmpty
def prn (σ : List Nd) (p : Wy) (D : Stp → Bool) : List Nd := σ.filter fun k => match after p k.path with
  | some (x :: _) => if D x then alive σ k.path else true
  | _ => true
/-- What is left when all below a way is without empty nodes. -/
def sweep (σ : List Nd) (p : Wy) : List Nd := prn σ p (fun _ => true)
theorem alive_iff {σ : List Nd} {p : Wy} : alive σ p = true ↔ ∃ k ∈ σ, (after p k.path).isSome = true ∧ k.ids ≠ [] := by
  simp only [alive, List.any_eq_true, Bool.and_eq_true, Bool.not_eq_true', List.isEmpty_eq_false_iff]
theorem alive_up {σ : List Nd} {p s : Wy} (h : alive σ (p ++ s) = true) : alive σ p = true := by
  obtain ⟨k, h1, h2, h3⟩ := alive_iff.1 h
  refine alive_iff.2 ⟨k, h1, ?_, h3⟩
  rw [after_app] at h2
  cases e : after p k.path with
  | none => rw [e] at h2; cases h2
  | some r => rfl
theorem prn_none (σ : List Nd) (p : Wy) : prn σ p (fun _ => false) = σ := by
  unfold prn
  rw [List.filter_eq_self]
  intro k hk
  split <;> rfl
theorem prn_sub {σ : List Nd} {p : Wy} {D : Stp → Bool} {k : Nd} (h : k ∈ prn σ p D) : k ∈ σ := (List.mem_filter.1 h).1
theorem prn_self {σ : List Nd} {p : Wy} {D : Stp → Bool} {k : Nd} (h : k ∈ σ) (hk : k.path = p) : k ∈ prn σ p D := by
  refine List.mem_filter.2 ⟨h, ?_⟩
  rw [hk, after_self]
theorem prn_free {σ : List Nd} {p : Wy} {D : Stp → Bool} {k : Nd} (h : k ∈ σ) {x : Stp} {t : Wy} (hk : after p k.path = some (x :: t)) (hD : D x = false) : k ∈ prn σ p D := by
  refine List.mem_filter.2 ⟨h, ?_⟩
  rw [hk]
  simp [hD]
/-- Below a child that is still to come all is as it was. -/
theorem alive_part {σ : List Nd} {p : Wy} {D : Stp → Bool} {x : Stp} {t : Wy} (hD : D x = false) : alive (prn σ p D) (p ++ x :: t) = alive σ (p ++ x :: t) := by
  rw [Bool.eq_iff_iff, alive_iff, alive_iff]
  constructor
  · rintro ⟨k, h1, h2, h3⟩; exact ⟨k, prn_sub h1, h2, h3⟩
  · rintro ⟨k, h1, h2, h3⟩
    refine ⟨k, ?_, h2, h3⟩
    obtain ⟨r, hr⟩ := Option.isSome_iff_exists.1 h2
    have := after_eq.1 hr
    exact prn_free h1 (x := x) (t := t ++ r) (after_eq.2 (by rw [this, List.append_assoc]; rfl)) hD
def orD (D : Stp → Bool) (x : Stp) : Stp → Bool := fun y => D y || decide (y = x)
/-- One child more: what its call leaves. -/
theorem prn_step {σ : List Nd} {p : Wy} {D : Stp → Bool} {x : Stp} (hD : D x = false) (b : Bool) (hb : b = !(alive (prn σ p D) (p ++ [x]))) :
    ((sweep (prn σ p D) (p ++ [x])).filter fun k => !(b && decide (k.path = p ++ [x]))) = prn σ p (orD D x) := by
  have ha : alive (prn σ p D) (p ++ [x]) = alive σ (p ++ [x]) := alive_part hD
  have hall : ∀ t : Wy, alive (prn σ p D) (p ++ x :: t) = alive σ (p ++ x :: t) := fun t => alive_part hD
  obtain ⟨A, hA⟩ : ∃ A : Wy → Bool, A = alive (prn σ p D) := ⟨_, rfl⟩
  have e0 : sweep (prn σ p D) (p ++ [x]) = (prn σ p D).filter (fun k => match after (p ++ [x]) k.path with | some (_ :: _) => A k.path | _ => true) := by
    rw [hA]
    unfold sweep
    rw [prn]
    refine List.filter_congr (fun k _ => ?_)
    split <;> simp
  rw [e0]
  rw [← hA] at ha hb hall
  clear e0 hA
  unfold prn
  rw [List.filter_filter, List.filter_filter]
  refine List.filter_congr (fun k hk => ?_)
  rw [after_app]
  have pe : ∀ q : Wy, after p k.path = some q → (k.path = p ++ [x] ↔ q = [x]) := fun q hq => by
    rw [after_eq.1 hq]
    exact ⟨fun h => List.append_cancel_left h, fun h => by rw [h]⟩
  cases e : after p k.path with
  | none =>
    have hne : k.path ≠ p ++ [x] := fun h => by rw [h, (after_eq.2 rfl : after p (p ++ [x]) = some [x])] at e; cases e
    simp [hne]
  | some r =>
    have hpe := pe r e
    cases r with
    | nil =>
      have hne : k.path ≠ p ++ [x] := fun h => by have := hpe.1 h; cases this
      simp [hne, after]
    | cons y t =>
      rw [Option.bind_some, after_one]
      by_cases hy : x = y
      · subst hy
        have hp : k.path = p ++ x :: t := after_eq.1 e
        cases t with
        | nil =>
          have heq : k.path = p ++ [x] := hp
          simp only [if_true, heq]
          rw [hb]
          rw [ha]
          simp [hD, orD]
        | cons z s =>
          have hne : k.path ≠ p ++ [x] := fun h => by have := hpe.1 h; simp at this
          have ha2 : A k.path = alive σ k.path := by rw [hp]; exact hall _
          simp [hne, hD, orD, ha2]
      · have hne : k.path ≠ p ++ [x] := fun h => by have := hpe.1 h; injection this with h1; exact hy h1.symm
        simp [hy, hne, orD, Ne.symm hy]
theorem prn_skip {σ : List Nd} {p : Wy} {D : Stp → Bool} {x : Stp} (h : ∀ k ∈ σ, ∀ t, after p k.path ≠ some (x :: t)) : prn σ p (orD D x) = prn σ p D := by
  unfold prn
  refine List.filter_congr (fun k hk => ?_)
  cases e : after p k.path with
  | none => rfl
  | some r =>
    cases r with
    | nil => rfl
    | cons y t =>
      have : y ≠ x := fun h2 => h k hk t (by rw [e, h2])
      simp [orD, this]
theorem prn_all {σ : List Nd} {p : Wy} {D : Stp → Bool} (h : ∀ k ∈ σ, ∀ x t, after p k.path = some (x :: t) → D x = true) : prn σ p D = sweep σ p := by
  unfold sweep prn
  refine List.filter_congr (fun k hk => ?_)
  cases e : after p k.path with
  | none => rfl
  | some r =>
    cases r with
    | nil => rfl
    | cons y t => simp [h k hk y t e]
theorem prn_congr {σ : List Nd} {p : Wy} {D E : Stp → Bool} (h : ∀ x, D x = E x) : prn σ p D = prn σ p E := by
  have : D = E := funext h
  rw [this]
/-- Nothing leads on, and there are no numbers: nothing was alive. -/
theorem empty_iff {w : World} {base : Nat} {σ : List Nd} (h : St w base σ) {n : Nd} (hn : n ∈ σ) : (Kidless (sweep σ n.path) n.path ∧ n.ids = []) ↔ alive σ n.path = false := by
  constructor
  · rintro ⟨h1, h2⟩
    cases ha : alive σ n.path with
    | false => rfl
    | true =>
      obtain ⟨k, k1, k2, k3⟩ := alive_iff.1 ha
      obtain ⟨r, hr⟩ := Option.isSome_iff_exists.1 k2
      have hp := after_eq.1 hr
      cases r with
      | nil =>
        rw [List.append_nil] at hp
        have e1 := at_mem h.once k1
        rw [hp, at_mem h.once hn] at e1
        injection e1 with e1
        rw [e1] at h2
        exact absurd h2 k3
      | cons x t =>
        have hm : (at_ σ (n.path ++ [x])).isSome := closed_pre h t.length t (n.path ++ [x]) k rfl k1 (by rw [hp]; simp)
        obtain ⟨m, hm⟩ := Option.isSome_iff_exists.1 hm
        obtain ⟨m1, m2⟩ := at_some hm
        have h3 := at_none.1 (h1 x) m
        refine absurd m2 (h3 (List.mem_filter.2 ⟨m1, ?_⟩))
        rw [m2, (after_eq.2 rfl : after n.path (n.path ++ [x]) = some [x])]
        simp only [if_true]
        refine alive_iff.2 ⟨k, k1, ?_, k3⟩
        rw [hp, show n.path ++ x :: t = (n.path ++ [x]) ++ t by simp, after_eq.2 rfl]
        rfl
  · intro ha
    have hno : ∀ k ∈ σ, (after n.path k.path).isSome = true → k.ids = [] := fun k k1 k2 => by
      cases hk : k.ids with
      | nil => rfl
      | cons a s =>
        have := alive_iff.2 ⟨k, k1, k2, by rw [hk]; simp⟩
        rw [ha] at this
        cases this
    refine ⟨fun x => at_none.2 (fun m hm hp => ?_), hno n hn (by rw [after_self]; rfl)⟩
    obtain ⟨m1, m2⟩ := List.mem_filter.1 hm
    rw [hp, (after_eq.2 rfl : after n.path (n.path ++ [x]) = some [x])] at m2
    simp only [if_true] at m2
    have := alive_up m2
    rw [ha] at this
    cases this
/-! ### the blocks of what lies at or below a way -/
def OwnB (σ : List Nd) (p : Wy) (i : Nat) : Prop := ∃ n ∈ σ, (after p n.path).isSome = true ∧ (i = n.nb ∨ i = n.mb ∨ n.v.ownBlock = some i)
theorem OwnB.own {σ : List Nd} {p : Wy} {i : Nat} (h : OwnB σ p i) : Own σ i := by
  obtain ⟨n, h1, _, h3⟩ := h
  exact ⟨n, h1, h3⟩
theorem OwnB.sub {σ τ : List Nd} {p q : Wy} {i : Nat} (h : OwnB τ (p ++ q) i) (hs : ∀ k ∈ τ, k ∈ σ) : OwnB σ p i := by
  obtain ⟨n, h1, h2, h3⟩ := h
  refine ⟨n, hs n h1, ?_, h3⟩
  rw [after_app] at h2
  cases e : after p n.path with
  | none => rw [e] at h2; cases h2
  | some r => rfl
theorem no_self (p : Wy) (x : Stp) : (after (p ++ [x]) p).isSome = false := by
  cases e : after (p ++ [x]) p with
  | none => rfl
  | some r =>
    have := congrArg List.length (after_eq.1 e)
    simp at this
/-- A node's own blocks are none of those of its children. -/
theorem not_below {w : World} {base : Nat} {σ : List Nd} (h : St w base σ) {n : Nd} (hn : n ∈ σ) (x : Stp) : ¬ OwnB σ (n.path ++ [x]) n.nb ∧ ¬ OwnB σ (n.path ++ [x]) n.mb := by
  have okn := h.node n hn
  obtain ⟨es, ck, hm⟩ := okn.kids
  have hne : ∀ k ∈ σ, (after (n.path ++ [x]) k.path).isSome = true → k.nb ≠ n.nb := fun k hk h2 e => by
    have := pw_ne h.nbs hk hn e
    rw [this, no_self] at h2
    cases h2
  constructor
  · rintro ⟨k, h1, h2, h3⟩
    rcases h3 with e | e | e
    · exact hne k h1 h2 e.symm
    · obtain ⟨es2, ck2, hm2⟩ := (h.node k h1).kids
      have := hm2.blk
      rw [← e, okn.blk] at this
      cases this
    · exact Kd.R_ne (h.node k h1).row okn.blk (by decide) e.symm
  · rintro ⟨k, h1, h2, h3⟩
    rcases h3 with e | e | e
    · have := (h.node k h1).blk
      rw [← e, hm.blk] at this
      cases this
    · exact hne k h1 h2 (by rw [pw_ne h.mbs h1 hn e.symm])
    · obtain ⟨_, _, _, q, hq, cells, hc⟩ := (Kd.R_bound (Kd.R_tight rfl (h.node k h1).row)).1 n.mb e
      rw [hm.blk] at hc
      cases hc
theorem rawE_inj {q : IntKind} : ∀ {es fs : List Ent}, rawM q es = rawM q fs → es = fs := by
  intro es fs h
  have h2 : es.map (rawE q) = fs.map (rawE q) := by simpa [rawM] using h
  refine List.map_inj_right (f := rawE q) ?_ |>.1 h2
  rintro ⟨a, b, c⟩ ⟨a2, b2, c2⟩ h
  simp only [rawE, MapEntry.mk.injEq, Value.int.injEq] at h
  simp [h.1.2, h.2.1, h.2.2]
theorem drop_sub (k : Int) : ∀ es : List Ent, (drop_ k es).Sublist es
  | [] => .slnil
  | x :: t => by
    simp only [drop_]
    split
    · exact List.sublist_cons_self _ _
    · exact (drop_sub k t).cons_cons x
theorem mem_drop {k : Int} {y : Ent} : ∀ {es : List Ent}, es.Pairwise (fun a b => a.1 ≠ b.1) → (y ∈ drop_ k es ↔ y ∈ es ∧ y.1 ≠ k)
  | [], _ => by simp [drop_]
  | x :: t, h => by
    have ⟨h1, h2⟩ := List.pairwise_cons.1 h
    simp only [drop_]
    by_cases e : x.1 = k
    · simp only [e, if_true, List.mem_cons]
      constructor
      · intro hy; exact ⟨.inr hy, fun e2 => h1 y hy (by rw [e, e2])⟩
      · rintro ⟨hy | hy, hn⟩
        · subst hy; exact absurd e hn
        · exact hy
    · simp only [e, if_false, List.mem_cons, mem_drop h2]
      constructor
      · rintro (hy | ⟨hy, hn⟩)
        · subst hy; exact ⟨.inl rfl, e⟩
        · exact ⟨.inr hy, hn⟩
      · rintro ⟨hy | hy, hn⟩
        · exact .inl hy
        · exact .inr ⟨hy, hn⟩
theorem look_drop (k : Int) {es : List Ent} (ho : es.Pairwise (fun a b => a.1 ≠ b.1)) (c : Int) : lookE c (drop_ k es) = if k = c then none else lookE c es := by
  induction es with
  | nil => simp [drop_, lookE]
  | cons x t ih =>
    have ⟨h1, h2⟩ := List.pairwise_cons.1 ho
    simp only [drop_]
    by_cases e : x.1 = k
    · rw [if_pos e]
      by_cases ec : k = c
      · rw [if_pos ec]
        exact look_none.2 (fun y hy e2 => h1 y hy (by rw [e, ec, e2]))
      · rw [if_neg ec]
        simp only [lookE]
        rw [if_neg (by rw [e]; exact ec)]
    · rw [if_neg e]
      simp only [lookE, ih h2]
      by_cases ec : k = c
      · rw [if_neg (by rw [← ec]; exact e), if_pos ec, if_pos ec]
      · rw [if_neg ec, if_neg ec]
theorem mem_look {es : List Ent} (ho : es.Pairwise (fun a b => a.1 ≠ b.1)) {x : Ent} (hx : x ∈ es) : lookE x.1 es = some x.2.1 := by
  induction es with
  | nil => cases hx
  | cons y t ih =>
    have ⟨h1, h2⟩ := List.pairwise_cons.1 ho
    simp only [lookE]
    rcases List.mem_cons.1 hx with e | e
    · subst e; simp
    · rw [if_neg (h1 x e)]; exact ih h2 e
theorem look_mem {k : Int} {v : Value} : ∀ {es : List Ent}, lookE k es = some v → ∃ x ∈ es, x.1 = k ∧ x.2.1 = v
  | [], h => by simp [lookE] at h
  | x :: t, h => by
    simp only [lookE] at h
    split at h
    · rename_i e; injection h with h; exact ⟨x, List.mem_cons_self, e, h⟩
    · obtain ⟨y, h1, h2⟩ := look_mem h; exact ⟨y, List.mem_cons_of_mem _ h1, h2⟩
/-- The children that have been gone over: the one that does not count, and those seen. -/
def doneD (es : List Ent) (seen : Array Nat) : Stp → Bool
  | none => true
  | some c => es.any fun x => decide (x.1 = c) && seen.contains x.2.2
theorem doneD_push {es : List Ent} (ho : es.Pairwise (fun a b => a.1 ≠ b.1)) (hb : es.Pairwise (fun a b => a.2.2 < b.2.2)) {seen : Array Nat} {x : Ent} (hx : x ∈ es) (y : Stp) : doneD es (seen.push x.2.2) y = orD (doneD es seen) (some x.1) y := by
  cases y with
  | none => simp [doneD, orD]
  | some c =>
    rw [Bool.eq_iff_iff]
    simp only [doneD, orD, List.any_eq_true, Bool.and_eq_true, decide_eq_true_eq, Array.contains_eq_mem, Array.mem_push, Bool.or_eq_true, Option.some.injEq]
    constructor
    · rintro ⟨z, z1, z2, z3⟩
      rcases z3 with z3 | z3
      · exact .inl ⟨z, z1, z2, z3⟩
      · have : z = x := by
          clear ho z2
          induction es with
          | nil => cases hx
          | cons a t ih =>
            have ⟨h1, h2⟩ := List.pairwise_cons.1 hb
            rcases List.mem_cons.1 z1 with e | e
            · rcases List.mem_cons.1 hx with e2 | e2
              · rw [e, e2]
              · have := h1 x e2; rw [← e] at this; omega
            · rcases List.mem_cons.1 hx with e2 | e2
              · have := h1 z e; rw [← e2] at this; omega
              · exact ih h2 e2 e
        right
        rw [← z2, this]
    · rintro (⟨z, z1, z2, z3⟩ | e)
      · exact ⟨z, z1, z2, .inl z3⟩
      · exact ⟨x, hx, e.symm, .inr rfl⟩
theorem doneD_free {es : List Ent} (ho : es.Pairwise (fun a b => a.1 ≠ b.1)) {seen : Array Nat} {x : Ent} (hx : x ∈ es) (hs : x.2.2 ∉ seen) : doneD es seen (some x.1) = false := by
  rw [Bool.eq_false_iff]
  intro h
  simp only [doneD, List.any_eq_true, Bool.and_eq_true, decide_eq_true_eq, Array.contains_eq_mem] at h
  obtain ⟨z, z1, z2, z3⟩ := h
  have : z = x := by
    clear hs
    induction es with
    | nil => cases hx
    | cons a t ih =>
      have ⟨h1, h2⟩ := List.pairwise_cons.1 ho
      rcases List.mem_cons.1 z1 with e | e
      · rcases List.mem_cons.1 hx with e2 | e2
        · rw [e, e2]
        · exact absurd (by rw [← e, z2]) (h1 x e2)
      · rcases List.mem_cons.1 hx with e2 | e2
        · exact absurd (by rw [← e2, z2]) (h1 z e)
        · exact ih h2 e2 e
  rw [this] at z3
  exact hs z3
end Go.Proofs.YtnoolgbbpekomaaGreatDoor.Rp
namespace Go.Proofs.YtnoolgbbpekomaaGreatDoor.Rw
open Go.RowKit YtnoolgbbpekomaaGreatDoorW.PrintWords YtnoolgbbpekomaaGreatDoorW.PrintLast YtnoolgbbpekomaaGreatDoorW.PrintMore Fr Tr Sd Nn Rp No
set_option linter.unusedVariables false
set_option linter.unusedSimpArgs false
def RePost (w : World) (base : Nat) (σ : List Nd) (n : Nd) (e : Ending) (w' : World) : Prop :=
  ∃ b, e = .returned (.bool b) ∧ b = !(alive σ n.path) ∧ St w' base (sweep σ n.path) ∧ Kp w w' (OwnB σ n.path)
def RelA (w : World) (base : Nat) (σ : List Nd) (n : Nd) (wc : World) : Prop := St wc base (prn σ n.path (doneD [] #[])) ∧ Kp w wc (OwnB σ n.path)
def RelB (w : World) (base : Nat) (σ : List Nd) (n : Nd) (es : List Ent) (ck r : Nat) (k : Nat) (wr : World) : Prop :=
  ∃ (seen : Array Nat) (es2 : List Ent), St wr base (prn σ n.path (doneD es seen)) ∧ wr.heap[r]? = some (.mapIter (some n.mb) ck seen ck) ∧ wr.heap[n.mb]? = some (.map (rawM .u8 es2) ck) ∧ es2.Sublist es ∧ (∀ x ∈ es, x.2.2 ∉ seen → x ∈ es2) ∧ Kp w wr (OwnB σ n.path) ∧ k = unseen es seen
theorem doneD_nil (es : List Ent) (y : Stp) : doneD es #[] y = orD (fun _ => false) none y := by
  cases y with
  | none => simp [doneD, orD]
  | some c =>
    simp [doneD, orD]
theorem own_lt {w : World} {base : Nat} {σ : List Nd} (h : St w base σ) {p : Wy} {i : Nat} (hi : OwnB σ p i) : i < w.heap.size := (h.own_lt hi.own).2
/-- The map's entry of a child that has gone. -/
theorem dropped {w w2 : World} {σ : List Nd} {n : Nd} {es : List Ent} {ck : Nat} {c : Int} (hb : w.heap[n.mb]? = some (.map (rawM .u8 es) ck)) (hb2 : w2.heap[n.mb]? = some (.map (rawM .u8 (drop_ c es)) ck)) : ∀ es0 ck0, MapOk w σ n es0 ck0 → ∃ es2 ck2, w2.heap[n.mb]? = some (.map (rawM .u8 es2) ck2) ∧ es2.Pairwise (fun a b => a.1 ≠ b.1) ∧ es2.Pairwise (fun a b => a.2.2 < b.2.2) ∧ (∀ x ∈ es2, x.2.2 < ck2) ∧ ∀ d : Int, lookE d es2 = if (some c : Stp) = some d then none else lookE d es0 := by
  intro es0 ck0 hm
  have h1 := hm.blk
  rw [hb] at h1
  injection h1 with h1
  injection h1 with h1 h2
  have := rawE_inj h1
  subst this
  subst h2
  refine ⟨_, _, hb2, hm.once.sublist (drop_sub _ _), hm.born.sublist (drop_sub _ _), fun x hx => hm.clock x ((drop_sub _ _).subset hx), fun d => ?_⟩
  rw [look_drop c hm.once d]
  by_cases e : c = d
  · simp [e]
  · simp [e]
theorem same_map {w w2 : World} {σ : List Nd} {n : Nd} (hb : w2.heap[n.mb]? = w.heap[n.mb]?) : ∀ es0 ck0, MapOk w σ n es0 ck0 → ∃ es2 ck2, w2.heap[n.mb]? = some (.map (rawM .u8 es2) ck2) ∧ es2.Pairwise (fun a b => a.1 ≠ b.1) ∧ es2.Pairwise (fun a b => a.2.2 < b.2.2) ∧ (∀ x ∈ es2, x.2.2 < ck2) ∧ ∀ d : Int, lookE d es2 = if (none : Stp) = some d then none else lookE d es0 := by
  intro es0 ck0 hm
  exact ⟨es0, ck0, hb.trans hm.blk, hm.once, hm.born, hm.clock, fun d => by simp⟩
theorem filt_id (σ : List Nd) (p : Wy) : (σ.filter fun k => !(false && decide (k.path = p))) = σ := by
  rw [List.filter_eq_self]
  intro k _
  rfl
theorem filt_ne (σ : List Nd) (p : Wy) : (σ.filter fun k => !(true && decide (k.path = p))) = σ.filter fun k => decide (k.path ≠ p) := by
  refine List.filter_congr (fun k _ => ?_)
  simp
/-- Nothing lies below a child that was not alive. -/
theorem leaf_of {w : World} {base : Nat} {τ : List Nd} (h : St w base τ) {q : Wy} (ha : alive τ q = false) : ∀ k ∈ sweep τ q, ∀ x, k.path ≠ q ++ [x] := by
  intro k hk x hp
  obtain ⟨k1, k2⟩ := List.mem_filter.1 hk
  rw [hp, (after_eq.2 rfl : after q (q ++ [x]) = some [x])] at k2
  simp only [if_true] at k2
  have := alive_up k2
  rw [ha] at this
  cases this
theorem key_one {es : List Ent} (ho : es.Pairwise (fun a b => a.1 ≠ b.1)) {x y : Ent} (hx : x ∈ es) (hy : y ∈ es) (e : x.1 = y.1) : x = y := by
  induction es with
  | nil => cases hx
  | cons a t ih =>
    have ⟨h1, h2⟩ := List.pairwise_cons.1 ho
    rcases List.mem_cons.1 hx with e1 | e1
    · rcases List.mem_cons.1 hy with e2 | e2
      · rw [e1, e2]
      · exact absurd (by rw [← e1]; exact e) (h1 y e2)
    · rcases List.mem_cons.1 hy with e2 | e2
      · exact absurd (by rw [← e2]; exact e.symm) (h1 x e1)
      · exact ih h2 e1 e2
theorem round_ {w : World} {base : Nat} {σ : List Nd} {n : Nd} {es es2 : List Ent} {ck r : Nat} {seen : Array Nat} {wr W6 : World} {x : Ent} (h : St w base σ) (hn : n ∈ σ)
    (ho : es.Pairwise (fun a b => a.1 ≠ b.1)) (hbn : es.Pairwise (fun a b => a.2.2 < b.2.2)) (hrr : w.heap.size ≤ r)
    (h1 : St wr base (prn σ n.path (doneD es seen))) (h3 : wr.heap[n.mb]? = some (.map (rawM .u8 es2) ck)) (h4 : es2.Sublist es) (h5 : ∀ x ∈ es, x.2.2 ∉ seen → x ∈ es2) (h6 : Kp w wr (OwnB σ n.path))
    (hx : x ∈ es2) (hs : x.2.2 ∉ seen) (g1 : ∀ i, i ≠ r → W6.heap[i]? = wr.heap[i]?) (g2 : W6.heap[r]? = some (.mapIter (some n.mb) ck (seen.push x.2.2) ck)) (g3 : Kp w W6 (OwnB σ n.path)) :
    ∃ m, x.2.1 = ptr m.nb ∧ at_ (prn σ n.path (doneD es seen)) (n.path ++ [some x.1]) = some m ∧ St W6 base (prn σ n.path (doneD es seen)) ∧ W6.cell? ⟨n.nb, 0, none⟩ = some (.map (some n.mb)) ∧
      ∀ w7 b, b = !(alive (prn σ n.path (doneD es seen)) m.path) → St w7 base (sweep (prn σ n.path (doneD es seen)) m.path) → Kp W6 w7 (OwnB (prn σ n.path (doneD es seen)) m.path) →
        (b = false → RelB w base σ n es ck r (unseen es (seen.push x.2.2)) w7) ∧ (b = true → w7.heap[n.mb]? = some (.map (rawM .u8 es2) ck) ∧ w7.cell? ⟨n.nb, 0, none⟩ = some (.map (some n.mb)) ∧ RelB w base σ n es ck r (unseen es (seen.push x.2.2)) (setO w7 n.mb (.map (rawM .u8 (drop_ x.1 es2)) ck))) := by
  have hxe := h4.subset hx
  have hD := doneD_free ho hxe hs
  have hnp : n ∈ prn σ n.path (doneD es seen) := prn_self hn rfl
  have okr := h1.node n hnp
  obtain ⟨es3, ck3, hm⟩ := okr.kids
  have he3 : es3 = es2 ∧ ck3 = ck := by
    have := hm.blk
    rw [h3] at this
    injection this with this
    injection this with e1 e2
    exact ⟨(rawE_inj e1).symm, e2.symm⟩
  obtain ⟨rfl, rfl⟩ := he3
  have hown : ∀ i, Own (prn σ n.path (doneD es seen)) i → i < w.heap.size := fun i hi => by
    obtain ⟨k, k1, k2⟩ := hi
    exact (h.own_lt ⟨k, prn_sub k1, k2⟩).2
  have hl := hm.look x.1
  rw [mem_look hm.once hx] at hl
  obtain ⟨b, hb2, he⟩ := Option.map_eq_some_iff.1 hl.symm
  obtain ⟨m, hm2, hmb⟩ := Option.map_eq_some_iff.1 hb2
  obtain ⟨m1, m2⟩ := at_some hm2
  have s6 : St W6 base (prn σ n.path (doneD es seen)) := h1.move (fun i hi => g1 i (by have := hown i hi; omega))
  have hnr : n.nb ≠ r := by have := hown n.nb ⟨n, hnp, .inl rfl⟩; omega
  have hmr : n.mb ≠ r := by have := hown n.mb ⟨n, hnp, .inr (.inl rfl)⟩; omega
  refine ⟨m, by rw [hmb]; exact he.symm, hm2, s6, blk_cell ((g1 _ hnr).trans okr.blk) 0, fun w7 b hb s7 k7 => ?_⟩
  rw [m2] at hb s7 k7
  have hps := prn_step hD b hb
  have hnb := not_below s6 hnp (some x.1)
  have b7 : w7.heap[n.nb]? = wr.heap[n.nb]? := (k7.k _ (blk_lt ((g1 _ hnr).trans okr.blk)) hnb.1).trans (g1 _ hnr)
  have mb7 : w7.heap[n.mb]? = some (.map (rawM .u8 es3) ck3) := (k7.k _ (blk_lt ((g1 _ hmr).trans hm.blk)) hnb.2).trans ((g1 _ hmr).trans hm.blk)
  have r7 : w7.heap[r]? = some (.mapIter (some n.mb) ck3 (seen.push x.2.2) ck3) := (k7.k _ (blk_lt g2) (fun hi => by have := hown r hi.own; omega)).trans g2
  have kp7 : Kp w w7 (OwnB σ n.path) := g3.trans k7 (fun i hi => .inl (hi.sub (fun k hk => prn_sub hk)))
  have hnn : n ∈ sweep (prn σ n.path (doneD es seen)) (n.path ++ [some x.1]) := by
    refine List.mem_filter.2 ⟨hnp, ?_⟩
    have := no_self n.path (some x.1)
    cases e : after (n.path ++ [some x.1]) n.path with
    | none => rfl
    | some q => rw [e] at this; cases this
  refine ⟨fun hbf => ?_, fun hbt => ⟨mb7, blk_cell (b7.trans okr.blk) 0, ?_⟩⟩
  · rw [hbf, filt_id] at hps
    refine ⟨seen.push x.2.2, es3, ?_, r7, mb7, h4, fun y hy hns => h5 y hy (fun hin => hns (Array.mem_push.2 (.inl hin))), kp7, rfl⟩
    rw [prn_congr (doneD_push ho hbn hxe), ← hps]
    exact s7
  · have ok7 := s7.node n hnn
    have hbm : n.nb ≠ n.mb := fun e => by rw [e, mb7] at b7; rw [← e, okr.blk] at b7; cases b7
    have hl := leaf_of s6 (q := n.path ++ [some x.1]) (by cases ha : alive (prn σ n.path (doneD es seen)) (n.path ++ [some x.1]) with | false => rfl | true => rw [ha, hbt] at hb; cases hb)
    have hcut := s7.cut (w2 := setO w7 n.mb (.map (rawM .u8 (drop_ x.1 es3)) ck3)) (e := some x.1) hnn hl
      (fun i hi h1 h2 => setO_far w7 _ h2) ((setO_far w7 _ hbm).trans ok7.blk) (dropped mb7 (setO_same mb7))
    rw [hbt, filt_ne] at hps
    refine ⟨seen.push x.2.2, drop_ x.1 es3, ?_, (setO_far w7 _ (Ne.symm hmr)).trans r7, setO_same mb7, (drop_sub _ _).trans h4, fun y hy hns => ?_, kp7.setO (.inl ⟨n, hn, by rw [after_self]; rfl, .inr (.inl rfl)⟩) _, rfl⟩
    · rw [prn_congr (doneD_push ho hbn hxe), ← hps]
      exact hcut
    · have hy2 := h5 y hy (fun hin => hns (Array.mem_push.2 (.inl hin)))
      refine (mem_drop hm.once).2 ⟨hy2, fun e => hns ?_⟩
      have : y = x := by
        exact key_one ho hy hxe e
      rw [this]
      exact Array.mem_push.2 (.inr rfl)
set_option maxHeartbeats 2000000 in
theorem re_step {w : World} {base : Nat} {σ : List Nd} {n : Nd} (hlen : σ.length ≤ 1000000000000) (h : St w base σ) (hn : n ∈ σ)
    (kid : ∀ (τ : List Nd) (x : Stp) (m : Nd) (w1 : World), τ.length ≤ σ.length → (∀ k ∈ τ, k ∈ σ) → at_ τ (n.path ++ [x]) = some m → St w1 base τ → Calls Tryz.prog 56 #[ptr m.nb] w1 (RePost w1 base τ m)) : Calls Tryz.prog 56 #[ptr n.nb] w (RePost w base σ n) := by
  have ok := h.node n hn
  have hb := ok.blk
  obtain ⟨ig, hig⟩ : ∃ ig, ig = at_ σ (n.path ++ [none]) := ⟨_, rfl⟩
  have e0 : nbAt σ (n.path ++ [none]) = ig.map (·.nb) := by rw [hig]; rfl
  have q1 : w.cell? ⟨n.nb, 1, none⟩ = some (ptrO (ig.map (·.nb))) := by rw [← e0]; exact blk_cell hb 1
  -- the first half: the child that does not count
  have base1 : ig = none → RelA w base σ n w := fun hi => by
    refine ⟨?_, Kp.refl _ _⟩
    rw [prn_congr (doneD_nil []), prn_skip (fun k hk t he => ?_), prn_none]
    · exact h
    · have := closed_pre h t.length t (n.path ++ [none]) k rfl hk (by rw [after_eq.1 he]; simp)
      rw [← hig, hi] at this
      cases this
  have stepA : ∀ m, ig = some m → ∀ w1 b, b = !(alive σ m.path) → St w1 base (sweep σ m.path) → Kp w w1 (OwnB σ m.path) → (b = false → RelA w base σ n w1) ∧ (b = true → w1.cell? ⟨n.nb, 1, none⟩ = some (ptrO (ig.map (·.nb))) ∧ w1.frozen? ⟨n.nb, 1, none⟩ = false ∧ RelA w base σ n (w1.setCell ⟨n.nb, 1, none⟩ (.pointer none))) := by
    intro m hi w1 b hb2 hs1 hk1
    rw [hig] at hi
    obtain ⟨m1, m2⟩ := at_some hi
    rw [m2] at hb2 hs1 hk1
    have hps := prn_step (σ := σ) (p := n.path) (D := fun _ => false) (x := none) rfl b (by rw [prn_none]; exact hb2)
    rw [prn_none] at hps
    have hn2 : n ∈ sweep σ (n.path ++ [none]) := by
      refine List.mem_filter.2 ⟨hn, ?_⟩
      have := no_self n.path none
      cases e : after (n.path ++ [none]) n.path with
      | none => rfl
      | some r => rw [e] at this; cases this
    have hkn := hk1.mono (S2 := OwnB σ n.path) (fun i hi => hi.sub (fun k hk => hk))
    refine ⟨fun hbf => ?_, fun hbt => ?_⟩
    · rw [hbf, filt_id] at hps
      exact ⟨by rw [prn_congr (doneD_nil []), ← hps]; exact hs1, hkn⟩
    · have okn := hs1.node n hn2
      have hnb := (not_below h hn none).1
      have hbk : w1.heap[n.nb]? = w.heap[n.nb]? := hk1.k _ (blk_lt hb) hnb
      have c1 : w1.cell? ⟨n.nb, 1, none⟩ = some (ptrO (ig.map (·.nb))) := by
        rw [← e0]; exact blk_cell (hbk.trans hb) 1
      refine ⟨c1, blk_frozen okn.blk 1, ?_, hkn.setCell (.inl ⟨n, hn, by rw [after_self]; rfl, .inl rfl⟩) _⟩
      have hl := leaf_of h (q := n.path ++ [none]) (by cases ha : alive σ (n.path ++ [none]) with | false => rfl | true => rw [ha, hbt] at hb2; cases hb2)
      have hcut := hs1.cut (w2 := w1.setCell ⟨n.nb, 1, none⟩ (.pointer none)) (e := none) hn2 hl
        (fun i hi h1 h2 => Below.heap_setCell w1 _ _ i h1) (blk_put okn.blk 1 _ rfl)
        (same_map (Below.heap_setCell w1 _ _ _ (fun e3 => by
          obtain ⟨es, ck, hm⟩ := okn.kids
          have := hm.blk
          rw [e3, okn.blk] at this
          cases this)))
      rw [prn_congr (doneD_nil []), ← hps, hbt, filt_ne]
      exact hcut
  have first : ∀ m, ig = some m → Calls Tryz.prog 56 #[ptr m.nb] w (RePost w base σ m) := fun m hi => kid σ none m w (Nat.le_refl _) (fun k hk => hk) (by rw [← hig, hi]) h
  -- the second half, from whatever the first one leaves
  have rest : ∀ wc, RelA w base σ n wc → ∃ es ck, wc.heap[n.mb]? = some (.map (rawM .u8 es) ck) ∧ wc.cell? ⟨n.nb, 0, none⟩ = some (.map (some n.mb)) ∧ es.Pairwise (fun a b => a.1 ≠ b.1) ∧ es.Pairwise (fun a b => a.2.2 < b.2.2) ∧ (∀ x ∈ es, x.2.2 < ck) ∧ w.heap.size ≤ wc.heap.size ∧
      (∀ o, (wc.alloc o).heap[wc.heap.size]? = some (.mapIter (some n.mb) ck #[] ck) → RelB w base σ n es ck wc.heap.size (unseen es #[]) (wc.alloc o)) ∧
      (∀ wr seen es2, St wr base (prn σ n.path (doneD es seen)) → wr.heap[n.mb]? = some (.map (rawM .u8 es2) ck) → es2.Sublist es → (∀ x ∈ es, x.2.2 ∉ seen → x ∈ es2) → Kp w wr (OwnB σ n.path) → (∀ x ∈ es2, x.2.2 ∈ seen) → St wr base (sweep σ n.path) ∧ n ∈ sweep σ n.path) := by
    intro wc ⟨hs, hk⟩
    have hnp : n ∈ prn σ n.path (doneD [] #[]) := prn_self hn rfl
    have okc := hs.node n hnp
    obtain ⟨es, ck, hm⟩ := okc.kids
    have hD : ∀ y, doneD es #[] y = doneD [] #[] y := fun y => by rw [doneD_nil, doneD_nil]
    refine ⟨es, ck, hm.blk, blk_cell okc.blk 0, hm.once, hm.born, hm.clock, hk.size, fun o hr => ?_, fun wr seen es2 h1 h2 h3 h4 h5 h6 => ⟨?_, ?_⟩⟩
    · refine ⟨#[], es, ?_, hr, up1 hm.blk, List.Sublist.refl _, fun x hx _ => hx, hk.alloc _, rfl⟩
      rw [prn_congr hD]
      exact hs.below ((Below.refl _ _).alloc (Nat.le_refl _) _)
    · rw [← prn_all (D := doneD es seen) (fun k hk2 x t he => ?_)]
      · exact h1
      · cases x with
        | none => rfl
        | some c =>
          -- its key is one of those at the start
          have hkp : k ∈ prn σ n.path (doneD [] #[]) := prn_free hk2 he (by simp [doneD])
          have := closed_pre hs t.length t (n.path ++ [some c]) k rfl hkp (by rw [after_eq.1 he]; simp)
          have hl := hm.look c
          rw [nbAt] at hl
          obtain ⟨y, hy⟩ := Option.isSome_iff_exists.1 this
          rw [hy] at hl
          obtain ⟨x2, x3, x4, _⟩ := look_mem hl
          simp only [doneD, List.any_eq_true, Bool.and_eq_true, decide_eq_true_eq, Array.contains_eq_mem]
          refine ⟨x2, x3, x4, ?_⟩
          refine Classical.byContradiction fun hns => ?_
          exact hns (h6 x2 (h4 x2 x3 hns))
    · refine prn_self hn rfl
  have mid : ∀ wr, St wr base (sweep σ n.path) → n ∈ sweep σ n.path → Kp w wr (OwnB σ n.path) → ∀ e w', EmptyPost (sweep σ n.path) n wr e w' → RePost w base σ n e w' := by
    rintro wr hs1 hn1 hk1 e w' ⟨⟨b, rfl, hb2⟩, m, rfl⟩
    refine ⟨b, rfl, ?_, ?_, hk1.drewN m⟩
    · rw [empty_iff h hn] at hb2
      cases ha : alive σ n.path with
      | false => rw [ha] at hb2; simpa using hb2
      | true => rw [ha] at hb2; cases b with
        | false => rfl
        | true => exact absurd (hb2.1 rfl) (by simp)
    · exact hs1.move (fun i _ => rfl)
  have hlast : ∀ wr, St wr base (sweep σ n.path) → n ∈ sweep σ n.path → Calls Tryz.prog 65 #[ptr n.nb] wr (EmptyPost (sweep σ n.path) n wr) := fun wr h1 h2 => isEmpty_calls h1 h2
  have HBASE := Lib.hid base1
  have HSTEPA := Lib.hid stepA
  have HFIRST := Lib.hid first
  have HREST := Lib.hid rest
  have HMID := Lib.hid mid
  have HLAST := Lib.hid hlast
  have HKID := Lib.hid kid
  have HS := Lib.hid h
  have HN := Lib.hid hn
  have HLEN := Lib.hid hlen
  clear base1 stepA first rest mid hlast kid h hn ok hb hig e0 hlen
  simp only [ptr]
  go_enter Tryz.func56, Tryz.ntmps56
  go_upto_region 1 with (fail)
  go_cut [11] (fun v11 wc => v11 = .bool ig.isSome ∧ w = wc)
  case first =>
    cases ig with
    | none =>
      simp only [Option.map_none, ptrO] at q1
      go_wp2_with fail
      go_meet
      case rel => exact ⟨rfl, rfl⟩
    | some m =>
      simp only [Option.map_some, ptrO, ptr] at q1
      go_wp2_with fail
      go_meet
      case rel => exact ⟨rfl, rfl⟩
  case rest =>
    obtain ⟨rfl, rfl⟩ := hcut
    go_upto_if 11 with (fail)
    go_cut [] (fun wc => RelA w base σ n wc)
    case first =>
      cases ig with
      | none =>
        simp only [Option.map_none, ptrO] at q1
        go_wp2_with fail
        go_meet
        case rel => exact HBASE.out trivial
      | some m =>
        simp only [Option.map_some, ptrO, ptr] at q1
        have F := Lib.hid (HFIRST.out m rfl)
        simp only [ptr] at F
        go_wp2_with fail
        refine F.out.mono ?_
        rintro e w1 ⟨b, rfl, hb2, hs1, hk1⟩
        have A := Lib.hid (HSTEPA.out m rfl w1 b hb2 hs1 hk1)
        clear hb2 hs1 hk1
        cases b with
        | false =>
          go_wp2_with fail
          go_meet
          case rel => exact A.out.1 trivial
        | true =>
          obtain ⟨a1, a2, a3⟩ := A.out.2 rfl
          have A3 := Lib.hid a3
          clear A a3
          go_wp2_with fail
          go_meet
          case rel => exact A3.out
    case rest =>
      obtain ⟨es, ck, r1, r2, r3, r4, r5, r6, r7, r8⟩ := HREST.out wc hcut
      have R1 := Lib.hid r1
      have R3 := Lib.hid r3
      have R4 := Lib.hid r4
      have R5 := Lib.hid r5
      have R7 := Lib.hid r7
      have R8 := Lib.hid r8
      have hrq : wc.heap.size ≠ n.mb := by have := blk_lt r1; omega
      clear r1 r3 r4 r5 r7 r8 hcut HREST q1
      go_wp2_with (at_range; refine wpL_range _ rfl _ rfl Tryz.underlying104 rfl R1.out ?_; go_frame)
      go_loopg [] (unseen es #[]) (fun k wr => RelB w base σ n es ck wc.heap.size k wr)
      case atStart => exact R7.out _ (blk_new wc _)
      case round =>
        obtain ⟨seen, es2, h1, h2, h3, h4, h5, h6, h7⟩ := hrel
        have H1 := Lib.hid h1
        have H2 := Lib.hid h2
        have H3 := Lib.hid h3
        have H4 := Lib.hid h4
        have H5 := Lib.hid h5
        have H6 := Lib.hid h6
        have H7 := Lib.hid h7
        clear h1 h2 h3 h4 h5 h6 h7
        go_wp2_with (at_next; refine wpL_next _ rfl _ rfl ck seen rfl H2.out H3.out hrq (fun x hx => R5.out x (H4.out.subset hx)) (Nat.le_refl _) (R4.out.sublist H4.out) (fun hdone => ?_) (fun x hx hns w6 hw6 hen => ?_))
        · obtain ⟨f1, f2⟩ := R8.out wr seen es2 H1.out H3.out H4.out H5.out H6.out hdone
          have F1 := Lib.hid f1
          have F2 := Lib.hid f2
          have C := Lib.hid (HLAST.out wr f1 f2)
          simp only [ptr] at C
          clear f1 f2 hdone
          go_wp2_with fail
          refine C.out.mono ?_
          intro e w1 hE
          have G := HMID.out wr F1.out F2.out H6.out e w1 hE
          obtain ⟨b, rfl, g1, g2, g3⟩ := G
          have G1 := Lib.hid g1
          have G2 := Lib.hid g2
          have G3 := Lib.hid g3
          clear g1 g2 g3 hE
          go_wp2_with fail
          go_ret
          exact ⟨b, rfl, G1.out, G2.out, G3.out⟩
        · have k6 : Kp w (setO w6 wc.heap.size (Obj.mapIter (some n.mb) ck (seen.push x.2.2) ck)) (OwnB σ n.path) := by
            rcases hw6 with rfl | rfl
            · exact H6.out.setO (.inr r6) _
            · exact (H6.out.drew).setO (.inr r6) _
          have hi6 : (setO w6 wc.heap.size (Obj.mapIter (some n.mb) ck (seen.push x.2.2) ck)).heap[wc.heap.size]? = some (.mapIter (some n.mb) ck (seen.push x.2.2) ck) := by
            rcases hw6 with rfl | rfl
            · exact setO_same H2.out
            · exact setO_same (w := wr.drew) H2.out
          have hg6 : ∀ i, i ≠ wc.heap.size → (setO w6 wc.heap.size (Obj.mapIter (some n.mb) ck (seen.push x.2.2) ck)).heap[i]? = wr.heap[i]? := fun i hi => by
            rcases hw6 with rfl | rfl
            · exact setO_far _ _ hi
            · exact setO_far wr.drew _ hi
          have h3u := unseen_push R4.out (H4.out.subset hx) hns
          obtain ⟨m, hxm, hat, hs6, hc6, hnext⟩ := round_ HS.out HN.out R3.out R4.out r6 H1.out H3.out H4.out H5.out H6.out hx hns hg6 hi6 k6
          have NEXT := Lib.hid hnext
          have H3U := Lib.hid h3u
          have hlenp : (prn σ n.path (doneD es seen)).length ≤ σ.length := List.length_filter_le _ _
          have CALL := Lib.hid (HKID.out _ (some x.1) m _ hlenp (fun k hk => prn_sub hk) hat hs6)
          rw [hxm] at hen ⊢
          simp only [ptr] at hen CALL ⊢
          clear hnext h3u hxm hat hs6 hx hns hg6 hi6 k6 hlenp
          obtain ⟨W6, hW6⟩ : ∃ W6, W6 = setO w6 wc.heap.size (Obj.mapIter (some n.mb) ck (seen.push x.2.2) ck) := ⟨_, rfl⟩
          rw [← hW6] at hen CALL NEXT hc6 ⊢
          clear hW6 hw6
          go_wp2_with fail
          refine CALL.out.mono ?_
          rintro e w7 ⟨b, rfl, hb2, hs7, hk7⟩
          have N7 := Lib.hid (NEXT.out w7 b hb2 hs7 hk7)
          clear hb2 hs7 hk7
          cases b with
          | false =>
            go_wp2_with fail
            go_roundg (unseen es (seen.push x.2.2))
            case measure => have := H7.out; have := H3U.out; omega
            case rel => exact N7.out.1 trivial
          | true =>
            obtain ⟨n1, n2, n3⟩ := N7.out.2 rfl
            have N1 := Lib.hid n1
            have N3 := Lib.hid n3
            clear N7 n1 n3
            go_wp2_with (at_delete; refine wpL_drop _ rfl _ _ rfl Tryz.underlying104 Tryz.underlying5 rfl rfl N1.out ?_)
            go_roundg (unseen es (seen.push x.2.2))
            case measure => have := H7.out; have := H3U.out; omega
            case rel => exact N3.out
theorem re_calls {base : Nat} (d : Nat) : ∀ (σ : List Nd) (w : World) (n : Nd), σ.length ≤ 1000000000000 → St w base σ → n ∈ σ → (∀ k ∈ σ, k.path.length ≤ n.path.length + d) → Calls Tryz.prog 56 #[ptr n.nb] w (RePost w base σ n) := by
  induction d with
  | zero =>
    intro σ w n hl h hn hd
    refine re_step hl h hn (fun τ x m w1 _ hs hm h1 => ?_)
    obtain ⟨m1, m2⟩ := at_some hm
    have := hd m (hs m m1)
    rw [m2, List.length_append] at this
    have e : [x].length = 1 := rfl
    omega
  | succ d ih =>
    intro σ w n hl h hn hd
    refine re_step hl h hn (fun τ x m w1 hl2 hs hm h1 => ?_)
    obtain ⟨m1, m2⟩ := at_some hm
    refine ih τ w1 m (by omega) h1 m1 (fun k hk => ?_)
    have := hd k (hs k hk)
    rw [m2, List.length_append]
    have e : [x].length = 1 := rfl
    omega
end Go.Proofs.YtnoolgbbpekomaaGreatDoor.Rw
namespace Go.Proofs.YtnoolgbbpekomaaGreatDoor.Gp
open Go.RowKit YtnoolgbbpekomaaGreatDoorW.PrintWords YtnoolgbbpekomaaGreatDoorW.PrintLast YtnoolgbbpekomaaGreatDoorW.PrintMore Fr Tr Sd Nn Rp
set_option linter.unusedVariables false
set_option linter.unusedSimpArgs false
/-- A key begins as a way goes, the bytes that do not count left aside. -/
def mat : Wy → List Int → Bool
  | [], _ => true
  | _ :: _, [] => false
  | none :: r, _ :: k => mat r k
  | some c :: r, b :: k => decide (c = b) && mat r k
def Hit (σ : List Nd) (p : Wy) (key : List Int) (i : Int) : Prop := ∃ k ∈ σ, ∃ r, after p k.path = some r ∧ mat r key = true ∧ i ∈ k.ids
theorem hit_nil {σ : List Nd} (ho : Once σ) {n : Nd} (hn : n ∈ σ) (i : Int) : Hit σ n.path [] i ↔ i ∈ n.ids := by
  constructor
  · rintro ⟨k, k1, r, k2, k3, k4⟩
    cases r with
    | nil =>
      have e := after_eq.1 k2
      rw [List.append_nil] at e
      have e1 := at_mem ho k1
      rw [e, at_mem ho hn] at e1
      injection e1 with e1
      rw [e1]; exact k4
    | cons x t => simp [mat] at k3
  · intro h; exact ⟨n, hn, [], after_self _, rfl, h⟩
theorem hit_cons {σ : List Nd} (ho : Once σ) {n : Nd} (hn : n ∈ σ) (b : Int) (key : List Int) (i : Int) : Hit σ n.path (b :: key) i ↔ i ∈ n.ids ∨ Hit σ (n.path ++ [none]) key i ∨ Hit σ (n.path ++ [some b]) key i := by
  constructor
  · rintro ⟨k, k1, r, k2, k3, k4⟩
    cases r with
    | nil => exact .inl ((hit_nil ho hn i).1 ⟨k, k1, [], k2, rfl, k4⟩)
    | cons x t =>
      have e := after_eq.1 k2
      have e2 : ∀ y : Stp, y = x → after (n.path ++ [y]) k.path = some t := fun y hy => after_eq.2 (by rw [e, hy]; simp)
      cases x with
      | none => exact .inr (.inl ⟨k, k1, t, e2 none rfl, k3, k4⟩)
      | some c =>
        simp only [mat, Bool.and_eq_true, decide_eq_true_eq] at k3
        exact .inr (.inr ⟨k, k1, t, e2 (some b) (by rw [k3.1]), k3.2, k4⟩)
  · rintro (h | ⟨k, k1, r, k2, k3, k4⟩ | ⟨k, k1, r, k2, k3, k4⟩)
    · exact ⟨n, hn, [], after_self _, rfl, h⟩
    · exact ⟨k, k1, none :: r, after_eq.2 (by rw [after_eq.1 k2]; simp), k3, k4⟩
    · exact ⟨k, k1, some b :: r, after_eq.2 (by rw [after_eq.1 k2]; simp), by simp [mat, k3], k4⟩
theorem no_hit {w : World} {base : Nat} {σ : List Nd} (h : St w base σ) {p : Wy} (hp : at_ σ p = none) (key : List Int) (i : Int) : ¬ Hit σ p key i := by
  rintro ⟨k, k1, r, k2, _, _⟩
  have := none_below h hp k k1
  rw [k2] at this
  cases this
/-! ### a set in memory -/
structure SetOk (w : World) (mb : Nat) (es : List Ent) (ck : Nat) : Prop where
  blk : w.heap[mb]? = some (.map (rawM .u64 es) ck)
  once : es.Pairwise (fun a b => a.1 ≠ b.1)
  born : es.Pairwise (fun a b => a.2.2 < b.2.2)
  clock : ∀ x ∈ es, x.2.2 < ck
def Has (es : List Ent) (i : Int) : Prop := (lookE i es).isSome = true
theorem has_mem {es : List Ent} {i : Int} : Has es i ↔ ∃ x ∈ es, x.1 = i := by
  unfold Has
  constructor
  · intro h
    obtain ⟨v, hv⟩ := Option.isSome_iff_exists.1 h
    obtain ⟨x, h1, h2, _⟩ := look_mem hv
    exact ⟨x, h1, h2⟩
  · rintro ⟨x, h1, h2⟩
    cases e : lookE i es with
    | some v => rfl
    | none => exact absurd h2 (look_none.1 e x h1)
theorem look_put (k : Int) (v : Value) : ∀ (es : List Ent) (i : Int), (lookE i (putE k v es)).isSome = (lookE i es).isSome
  | [], i => rfl
  | x :: t, i => by
    simp only [putE]
    by_cases e : x.1 = k
    · rw [if_pos e]
      simp only [lookE]
      split <;> rfl
    · rw [if_neg e]
      simp only [lookE]
      split
      · rfl
      · exact look_put k v t i
theorem put_keys (k : Int) (v : Value) : ∀ es : List Ent, (putE k v es).map (fun x => (x.1, x.2.2)) = es.map (fun x => (x.1, x.2.2))
  | [] => rfl
  | x :: t => by
    simp only [putE]
    split
    · rfl
    · simp [put_keys k v t]
theorem look_app (i k : Int) (v : Value) (c : Nat) (es : List Ent) : (lookE i (es ++ [(k, v, c)])).isSome = ((lookE i es).isSome || decide (k = i)) := by
  induction es with
  | nil => simp [lookE]; split <;> simp_all
  | cons x t ih =>
    simp only [List.cons_append, lookE]
    split
    · simp
    · exact ih
theorem has_store (i k : Int) (v : Value) (ck : Nat) (es : List Ent) : Has (storedE k v ck es) i ↔ Has es i ∨ i = k := by
  unfold Has storedE
  split
  · rename_i h
    rw [look_put]
    exact ⟨.inl, fun h2 => h2.elim id (fun e => by rw [e]; exact h)⟩
  · rw [look_app]
    simp only [Bool.or_eq_true, decide_eq_true_eq]
    exact ⟨fun h => h.imp id Eq.symm, fun h => h.imp id Eq.symm⟩
theorem SetOk.store {w : World} {mb ck : Nat} {es : List Ent} (h : SetOk w mb es ck) (k : Int) (v : Value) : SetOk (setO w mb (.map (rawM .u64 (storedE k v ck es)) (clockE k ck es))) mb (storedE k v ck es) (clockE k ck es) := by
  refine ⟨setO_same h.blk, ?_, ?_, ?_⟩
  · unfold storedE
    split
    · have e := put_keys k v es
      have h1 : (es.map (fun x => (x.1, x.2.2))).Pairwise (fun a b => a.1 ≠ b.1) := List.pairwise_map.2 h.once
      rw [← e] at h1
      have h2 := List.pairwise_map.1 h1
      exact h2
    · rename_i hn
      refine List.pairwise_append.2 ⟨h.once, List.pairwise_singleton _ _, fun a ha b hb e => hn ?_⟩
      rw [List.mem_singleton.1 hb] at e
      exact has_mem.2 ⟨a, ha, e⟩
  · unfold storedE
    split
    · have e := put_keys k v es
      have h1 : (es.map (fun x => (x.1, x.2.2))).Pairwise (fun a b => a.2 < b.2) := List.pairwise_map.2 h.born
      rw [← e] at h1
      have h2 := List.pairwise_map.1 h1
      exact h2
    · refine List.pairwise_append.2 ⟨h.born, List.pairwise_singleton _ _, fun a ha b hb => ?_⟩
      rw [List.mem_singleton.1 hb]
      exact h.clock a ha
  · unfold storedE clockE
    split
    · intro x hx
      have e := put_keys k v es
      have h1 : (x.1, x.2.2) ∈ (putE k v es).map (fun x => (x.1, x.2.2)) := List.mem_map.2 ⟨x, hx, rfl⟩
      rw [e] at h1
      obtain ⟨y, hy, e2⟩ := List.mem_map.1 h1
      have := h.clock y hy
      have e3 : y.2.2 = x.2.2 := (Prod.mk.inj e2).2
      omega
    · intro x hx
      rcases List.mem_append.1 hx with hx | hx
      · have := h.clock x hx; omega
      · rw [List.mem_singleton.1 hx]; exact Nat.lt_succ_self _
theorem SetOk.move {w w1 : World} {mb ck : Nat} {es : List Ent} (h : SetOk w mb es ck) (hb : w1.heap[mb]? = w.heap[mb]?) : SetOk w1 mb es ck := ⟨hb.trans h.blk, h.once, h.born, h.clock⟩
/-- The set at mb is P; nothing older has changed. -/
def IsSet (w : World) (mb : Nat) (P : Int → Prop) : Prop := ∃ es ck, SetOk w mb es ck ∧ ∀ i, Has es i ↔ P i
theorem IsSet.congr {w : World} {mb : Nat} {P Q : Int → Prop} (h : IsSet w mb P) (e : ∀ i, P i ↔ Q i) : IsSet w mb Q := by
  obtain ⟨es, ck, h1, h2⟩ := h
  exact ⟨es, ck, h1, fun i => (h2 i).trans (e i)⟩
theorem IsSet.move {w w1 : World} {mb : Nat} {P : Int → Prop} (h : IsSet w mb P) (hb : w1.heap[mb]? = w.heap[mb]?) : IsSet w1 mb P := by
  obtain ⟨es, ck, h1, h2⟩ := h
  exact ⟨es, ck, h1.move hb, h2⟩
theorem IsSet.lt {w : World} {mb : Nat} {P : Int → Prop} (h : IsSet w mb P) : mb < w.heap.size := by
  obtain ⟨es, ck, h1, _⟩ := h
  exact blk_lt h1.blk
/-- Gone over in a range. -/
def Seen (es : List Ent) (seen : Array Nat) (i : Int) : Prop := ∃ x ∈ es, x.1 = i ∧ x.2.2 ∈ seen
theorem seen_done {es : List Ent} {seen : Array Nat} (h : ∀ x ∈ es, x.2.2 ∈ seen) (i : Int) : Seen es seen i ↔ Has es i := by
  rw [has_mem]
  exact ⟨fun ⟨x, h1, h2, _⟩ => ⟨x, h1, h2⟩, fun ⟨x, h1, h2⟩ => ⟨x, h1, h2, h x h1⟩⟩
theorem seen_push {es : List Ent} (hb : es.Pairwise (fun a b => a.2.2 < b.2.2)) {seen : Array Nat} {x : Ent} (hx : x ∈ es) (i : Int) : Seen es (seen.push x.2.2) i ↔ Seen es seen i ∨ i = x.1 := by
  constructor
  · rintro ⟨z, z1, z2, z3⟩
    rcases Array.mem_push.1 z3 with z3 | z3
    · exact .inl ⟨z, z1, z2, z3⟩
    · have : z = x := by
        clear z2
        induction es with
        | nil => cases hx
        | cons a t ih =>
          have ⟨h1, h2⟩ := List.pairwise_cons.1 hb
          rcases List.mem_cons.1 z1 with e | e
          · rcases List.mem_cons.1 hx with e2 | e2
            · rw [e, e2]
            · have := h1 x e2; rw [← e] at this; omega
          · rcases List.mem_cons.1 hx with e2 | e2
            · have := h1 z e; rw [← e2] at this; omega
            · exact ih h2 e2 e
      rw [← z2, this]; exact .inr rfl
  · rintro (⟨z, z1, z2, z3⟩ | e)
    · exact ⟨z, z1, z2, Array.mem_push.2 (.inl z3)⟩
    · exact ⟨x, hx, e.symm, Array.mem_push.2 (.inr rfl)⟩
theorem seen_none (es : List Ent) (i : Int) : ¬ Seen es #[] i := by
  rintro ⟨x, _, _, h⟩
  simp at h
end Go.Proofs.YtnoolgbbpekomaaGreatDoor.Gp
namespace Go.Proofs.YtnoolgbbpekomaaGreatDoor.Gw
open Go.RowKit YtnoolgbbpekomaaGreatDoorW.PrintWords YtnoolgbbpekomaaGreatDoorW.PrintLast YtnoolgbbpekomaaGreatDoorW.PrintMore Fr Tr Sd Nn Rp No Gp
set_option linter.unusedVariables false
set_option linter.unusedSimpArgs false
def GetPost (w : World) (σ : List Nd) (p : Wy) (key : List Int) (e : Ending) (w' : World) : Prop :=
  ∃ mb, e = .returned (.map (some mb)) ∧ w.heap.size ≤ mb ∧ IsSet w' mb (Hit σ p key) ∧ Below w.heap.size w w'
theorem zero87 (w : World) : (zeroValue 87).run Tryz.prog w = .ok (.pointer none) w := by kernel_rfl
/-- The numbers of a node, put in one behind the other. -/
def RelI (w : World) (mb : Nat) (ids : List Int) (k : Nat) (jv : Value) (wr : World) : Prop :=
  ∃ j : Nat, jv = .int .i64 j ∧ j ≤ ids.length ∧ IsSet wr mb (fun i => i ∈ ids.take j) ∧ Below w.heap.size w wr ∧ k = ids.length - j
def RelM (w : World) (mb r it : Nat) (es : List Ent) (ck : Nat) (P : Int → Prop) (k : Nat) (wr : World) : Prop :=
  ∃ seen : Array Nat, wr.heap[it]? = some (.mapIter (some r) ck seen ck) ∧ IsSet wr mb (fun i => P i ∨ Seen es seen i) ∧ Below w.heap.size w wr ∧ wr.heap[r]? = some (.map (rawM .u64 es) ck) ∧ k = unseen es seen
theorem ids_at {w : World} {base : Nat} {v : Value} {ids : List Int} (h : (Kd.int .u64).R 77 w base (fun _ => True) v ids) : ∃ A c, v = .slice A ids.length c ∧ ids.length ≤ 9223372036854775807 ∧ ∀ j, j < ids.length → ∃ ad, A = some ad ∧ w.cell? (ad.add j) = some (.int .u64 (ids.getD j 0)) := by
  obtain ⟨A, c, h1, h2, h3⟩ := Kd.R_reads h
  refine ⟨A, c, h1, ?_, fun j hj => ?_⟩
  · have := Kd.own_of_R (enc := Value.int .u64) (h1 := fun _ => rfl) h
    rcases this.2 with ⟨_, h2⟩ | ⟨g, cap, cur, _, _, _, h3, h4, _⟩
    · omega
    · simp only [maxLen] at h4; omega
  · obtain ⟨ad, e1, e2⟩ := Kd.at_int h3 (j : Int) (by omega) (by omega)
    refine ⟨ad, e1, ?_⟩
    have e3 : rd ids (j : Int) = ids.getD j 0 := by simp [rd]
    rw [e3] at e2
    simpa using e2
theorem set_new (w : World) : IsSet (w.alloc (.map #[] 0)) w.heap.size (fun _ => False) :=
  ⟨[], 0, ⟨blk_new w _, .nil, .nil, fun x hx => by cases hx⟩, fun i => by simp [Has, lookE]⟩
theorem und58 : Tryz.prog.underlying 58 = some (.slice (Tryz.prog.elem 58)) := by kernel_rfl
theorem size58 (w : World) : (sizeOf (Tryz.prog.elem 58)).run Tryz.prog w = .ok 1 w := by kernel_rfl
set_option maxHeartbeats 2000000 in
set_option maxRecDepth 100000 in
theorem get_step {w : World} {base tb cap : Nat} {σ : List Nd} {n : Nd} {A : Option Addr} {key : List Int} (h : St w base σ) (hn : n ∈ σ) (hkb : ∀ b ∈ key, 0 ≤ b ∧ b < 256) (hC : (Kd.int .u8).C w A key.length key) (hcap : key.length ≤ cap) (hc47 : cap ≤ 9223372036854775807)
    (kid : key ≠ [] → ∀ (x : Stp) (m : Nd) (A2 : Option Addr) (cap2 : Nat) (w1 : World), at_ σ (n.path ++ [x]) = some m → St w1 base σ → (Kd.int .u8).C w1 A2 key.tail.length key.tail → key.tail.length ≤ cap2 → cap2 ≤ 9223372036854775807 → Calls Tryz.prog 66 #[ptr tb, ptr m.nb, .slice A2 key.tail.length cap2] w1 (GetPost w1 σ m.path key.tail)) :
    Calls Tryz.prog 66 #[ptr tb, ptr n.nb, .slice A key.length cap] w (GetPost w σ n.path key) := by
  have hmk := run_makeMap (P := Tryz.prog)
  have ok := h.node n hn
  obtain ⟨Ai, ci, hv, hil, hids⟩ := ids_at ok.row
  have hb := ok.blk
  obtain ⟨esn, ckn, hmn⟩ := ok.kids
  have HMN := Lib.hid hmn
  clear hmn
  rw [hv] at hb
  have q2 : w.cell? ⟨n.nb, 2, none⟩ = some (.slice Ai n.ids.length ci) := blk_cell hb 2
  have hlt : n.nb < w.heap.size := blk_lt hb
  have HT := Lib.hid (assertTrue_calls w)
  have HS := Lib.hid h
  have HN := Lib.hid hn
  have HKB := Lib.hid hkb
  have HC := Lib.hid hC
  have HKID := Lib.hid kid
  have HIDS := Lib.hid hids
  have HB := Lib.hid hb
  clear h hn hkb hC kid ok hv hids hb
  obtain ⟨ids, hi⟩ : ∃ ids, ids = n.ids := ⟨_, rfl⟩
  rw [← hi] at HIDS q2 hil
  have HI := Lib.hid hi
  clear hi
  simp only [ptr]
  go_enter Tryz.func66, Tryz.ntmps66
  go_wp2_with fail
  refine HT.out.mono ?_
  rintro e w' ⟨rfl, rfl⟩
  go_wp2_with fail
  go_loopg [24] (ids.length) (fun k jv wr => RelI w w.heap.size ids k jv wr)
  case atStart => exact ⟨0, rfl, Nat.zero_le _, (set_new w).congr (fun i => by simp), (Below.refl _ _).alloc (Nat.le_refl _) _, rfl⟩
  case round =>
    obtain ⟨j, rfl, hj, hset, hbl, hk⟩ := hrel
    have HBL := Lib.hid hbl
    have HK := Lib.hid hk
    have hmlt := hset.lt
    by_cases hlt2 : j < ids.length
    · obtain ⟨ad, hA, hcell⟩ := HIDS.out j hlt2
      obtain ⟨es, ck, hs1, hs2⟩ := hset
      have hcw : wr.cell? (ad.add j) = some (.int .u64 (ids.getD j 0)) := (hbl.cell (World.block_lt_of_cell? w _ hcell)).trans hcell
      subst hA
      have HS1 := Lib.hid hs1
      have HS2 := Lib.hid hs2
      have hd : decide (j < ids.length) = true := decide_eq_true hlt2
      clear hs1 hs2 hk hbl hcell
      go_wp2_with (at_mapUpdate; refine wpL_store _ rfl _ _ _ rfl (.agg #[]) Tryz.underlying94 Tryz.underlying77 rfl rfl rfl HS1.out.blk ?_)
      go_roundg (ids.length - (j + 1))
      case measure => have := HK.out; omega
      case rel =>
        refine ⟨j + 1, by go_num, hlt2, ⟨_, _, HS1.out.store _ _, fun i => ?_⟩, setO_below HBL.out (Nat.le_refl _) _, rfl⟩
        have e : ids.getD j 0 = ids[j] := by simp [List.getD_eq_getElem?_getD, hlt2]
        have e2 : ids.take (j + 1) = ids.take j ++ [ids[j]] := by rw [List.take_add_one, List.getElem?_eq_getElem hlt2]; rfl
        rw [has_store, HS2.out i]
        show (i ∈ ids.take j ∨ i = _) ↔ i ∈ ids.take (j + 1)
        rw [e2, List.mem_append, List.mem_singleton]
    · have hjl : j = ids.length := by omega
      subst hjl
      rw [List.take_length] at hset
      have HSET := Lib.hid hset
      have hd : decide (ids.length < ids.length) = false := decide_eq_false (Nat.lt_irrefl _)
      clear hset hk hbl hlt2 hj
      by_cases hkn : key = []
      · subst hkn
        have hfin := HSET.out.congr (Q := Hit σ n.path []) (fun i => by rw [hit_nil HS.out.once HN.out, HI.out])
        have HF := Lib.hid hfin
        clear hfin
        go_wp2_with fail
        go_ret
        exact ⟨_, rfl, Nat.le_refl _, HF.out, HBL.out⟩
      · obtain ⟨b, kt, rfl⟩ : ∃ b kt, key = b :: kt := by
          cases key with
          | nil => exact absurd rfl hkn
          | cons b kt => exact ⟨b, kt, rfl⟩
        obtain ⟨ig, hig⟩ : ∃ ig, ig = at_ σ (n.path ++ [none]) := ⟨_, rfl⟩
        have e0 : nbAt σ (n.path ++ [none]) = ig.map (·.nb) := by rw [hig]; rfl
        have hbk := (HBL.out.block _ hlt).trans HB.out
        rw [e0] at hbk
        have q0 : wr.cell? ⟨n.nb, 0, none⟩ = some (.map (some n.mb)) := blk_cell hbk 0
        have q1 : wr.cell? ⟨n.nb, 1, none⟩ = some (ptrO (ig.map (·.nb))) := blk_cell hbk 1
        have HIG := Lib.hid hig
        have hs1 := HS.out.below HBL.out
        have HS1 := Lib.hid hs1
        have hlen : (b :: kt).length = kt.length + 1 := rfl
        clear hig e0 hbk hs1 hkn q2 HIDS
        -- the key without its first byte
        obtain ⟨A2, c2, hc2, hc2b, hC2, hsl⟩ : ∃ A2 c2, kt.length ≤ c2 ∧ c2 ≤ 9223372036854775807 ∧ (∀ W, Below w.heap.size w W → (Kd.int .u8).C W A2 kt.length kt) ∧ ∀ W, (Instr.slice 58 (.slice A (kt.length + 1) cap) (some (.int .i64 1)) none none).run Tryz.prog W = .ok (.slice A2 kt.length c2) W := by
          have hcap2 : (b :: kt).length ≤ cap := hcap
          refine ⟨if cap = 1 then A else A.map (·.add (1 * 1)), cap - 1, by simp at hcap2; omega, by omega, fun W hW => ?_, fun W => ?_⟩
          · have hd := Kd.C_drop (m := 1) HC.out (by simp) hcap2
            exact Kd.C_below hd hW
          · rw [run_slice_l W 58 A (kt.length + 1) cap und58 .i64 1 (by omega) (by omega), size58]
            rfl
        have HC2 := Lib.hid hC2
        clear hC2
        rw [hlen] at hcap ⊢
        clear hlen
        go_upto_region 10 with (fail)
        go_cut [40] (fun v40 wc => v40 = .bool ig.isSome ∧ wr = wc)
        case first =>
          cases ig with
          | none =>
            simp only [Option.map_none, ptrO] at q1
            go_wp2_with fail
            go_meet
            case rel => exact ⟨rfl, rfl⟩
          | some m =>
            simp only [Option.map_some, ptrO, ptr] at q1
            go_wp2_with fail
            go_meet
            case rel => exact ⟨rfl, rfl⟩
        case rest =>
          obtain ⟨rfl, rfl⟩ := hcut
          go_upto_if 40 with (fail)
          go_cut [] (fun wc => Below w.heap.size w wc ∧ IsSet wc w.heap.size (fun i => i ∈ ids ∨ Hit σ (n.path ++ [none]) kt i))
          case first =>
            cases ig with
            | none =>
              go_wp2_with fail
              go_meet
              case rel => exact ⟨HBL.out, HSET.out.congr (fun i => ⟨.inl, fun h => h.elim id (fun h => absurd h (no_hit HS.out HIG.out.symm kt i))⟩)⟩
            | some m =>
              simp only [Option.map_some, ptrO, ptr] at q1
              go_upto_region 11 with (fail)
              go_still_tail 7, (by kernel_rfl)
              change wpList _ _ _ _ _ wr.drew
              have K := Lib.hid (HKID.out (by simp) none m A2 c2 wr.drew HIG.out.symm (HS1.out.below (Below.refl _ _).drew) (HC2.out _ HBL.out.drew) hc2 hc2b)
              simp only [ptr] at K
              go_wp2_with fail
              refine K.out.mono ?_
              rintro e w2 ⟨r, rfl, hr, hset2, hb2⟩
              have hb3 : Below w.heap.size w w2 := HBL.out.drew.trans (hb2.mono (by simp; omega))
              have hset3 := HSET.out.move (hb2.block w.heap.size (by simpa using HSET.out.lt))
              obtain ⟨es, ck, hs2, hs3⟩ := hset2
              have HB3 := Lib.hid hb3
              have HSET3 := Lib.hid hset3
              have HS2 := Lib.hid hs2
              have HS3 := Lib.hid hs3
              have hrw : wr.heap.size ≤ r := by simpa using hr
              have hrr : w.heap.size ≠ r := by omega
              have hrw2 : r < w2.heap.size := blk_lt hs2.blk
              have hw2s : w.heap.size < w2.heap.size := hset3.lt
              clear hb2 hb3 hset3 hs2 hs3 hr K
              go_wp2_with (at_range; refine wpL_range _ rfl _ rfl Tryz.underlying94 rfl HS2.out.blk ?_; go_frame)
              have hitr : w2.heap.size ≠ r := by omega
              go_loopg [] (unseen es #[]) (fun k wx => RelM w w.heap.size r w2.heap.size es ck (fun i => i ∈ ids) k wx)
              case atStart => exact ⟨#[], blk_new w2 _, (HSET3.out.move (Below.heap_alloc _ _ _ hw2s)).congr (fun i => ⟨.inl, fun h => h.elim id (fun h => absurd h (seen_none es i))⟩), HB3.out.alloc HB3.out.size _, up1 HS2.out.blk, rfl⟩
              case round =>
                obtain ⟨seen, hit, hs4, hb4, hr4, hk4⟩ := hrel
                have HIT := Lib.hid hit
                have HS4 := Lib.hid hs4
                have HB4 := Lib.hid hb4
                have HR4 := Lib.hid hr4
                have HK4 := Lib.hid hk4
                clear hit hs4 hb4 hr4 hk4
                go_upto_region 14 with (at_next; refine wpL_next _ rfl _ rfl ck seen rfl HIT.out HR4.out hitr HS2.out.clock (Nat.le_refl _) HS2.out.born (fun hdone => ?_) (fun x hx hns w6 hw6 hen => ?_))
                · have HD := Lib.hid hdone
                  clear hdone
                  go_wp2_with fail
                  go_meet
                  case rel => exact ⟨HB4.out, HS4.out.congr (fun i => by rw [seen_done HD.out i, HS3.out i]; exact (by rw [(at_some HIG.out.symm).2]; exact Iff.rfl))⟩
                · have bl6 : Below w.heap.size w (setO w6 w2.heap.size (Obj.mapIter (some r) ck (seen.push x.2.2) ck)) := by
                    rcases hw6 with rfl | rfl
                    · exact setO_below HB4.out (by omega) _
                    · exact setO_below HB4.out.drew (by omega) _
                  have hi6 : (setO w6 w2.heap.size (Obj.mapIter (some r) ck (seen.push x.2.2) ck)).heap[w2.heap.size]? = some (.mapIter (some r) ck (seen.push x.2.2) ck) := by
                    rcases hw6 with rfl | rfl
                    · exact setO_same HIT.out
                    · exact setO_same (w := wr.drew) HIT.out
                  have hg6 : ∀ i, i ≠ w2.heap.size → (setO w6 w2.heap.size (Obj.mapIter (some r) ck (seen.push x.2.2) ck)).heap[i]? = wr.heap[i]? := fun i hi => by
                    rcases hw6 with rfl | rfl
                    · exact setO_far _ _ hi
                    · exact setO_far wr.drew _ hi
                  have hr6 := (hg6 r (Ne.symm hitr)).trans HR4.out
                  have h3u := unseen_push HS2.out.born hx hns
                  obtain ⟨es5, ck5, g1, g2⟩ := HS4.out.move (hg6 w.heap.size (by omega))
                  have G1 := Lib.hid g1
                  have G2 := Lib.hid g2
                  have BL6 := Lib.hid bl6
                  have HI6 := Lib.hid hi6
                  have HR6 := Lib.hid hr6
                  have H3U := Lib.hid h3u
                  have SP := Lib.hid (fun i => seen_push HS2.out.born (seen := seen) hx i)
                  clear bl6 hi6 hg6 hr6 h3u g1 g2 hns hx
                  obtain ⟨W6, hW6⟩ : ∃ W6, W6 = setO w6 w2.heap.size (Obj.mapIter (some r) ck (seen.push x.2.2) ck) := ⟨_, rfl⟩
                  rw [← hW6] at hen G1 BL6 HI6 HR6 ⊢
                  clear hW6 hw6
                  go_wp2_with (at_mapUpdate; refine wpL_store _ rfl _ _ _ rfl (.agg #[]) Tryz.underlying94 Tryz.underlying77 rfl rfl rfl G1.out.blk ?_)
                  go_roundg (unseen es (seen.push x.2.2))
                  case measure => have := HK4.out; have := H3U.out; omega
                  case rel =>
                    refine ⟨seen.push x.2.2, (setO_far W6 _ (by omega)).trans HI6.out, ⟨_, _, G1.out.store _ _, fun i => ?_⟩, setO_below BL6.out (Nat.le_refl _) _, (setO_far W6 _ (Ne.symm hrr)).trans HR6.out, rfl⟩
                    rw [has_store, G2.out i]
                    exact or_assoc.trans (or_congr Iff.rfl (SP.out i).symm)
          case rest =>
            obtain ⟨hbc, hsc⟩ := hcut
            obtain ⟨ad, hA, hcell⟩ := Kd.at_int HC.out 0 (Int.le_refl _) (by simp)
            subst hA
            have hc0 : wc.cell? ad = some (.int .u8 b) := by
              have h5 := (hbc.cell (World.block_lt_of_cell? w _ hcell)).trans hcell
              simpa [rd, Addr.add] using h5
            have qc0 : wc.cell? ⟨n.nb, 0, none⟩ = some (.map (some n.mb)) := blk_cell ((hbc.block _ hlt).trans HB.out) 0
            have hmc : wc.heap[n.mb]? = some (.map (rawM .u8 esn) ckn) := (hbc.block _ (blk_lt HMN.out.blk)).trans HMN.out.blk
            obtain ⟨cg, hcg⟩ : ∃ cg, cg = at_ σ (n.path ++ [some b]) := ⟨_, rfl⟩
            have hlk : (lookE b esn).getD (.pointer none) = ptrO (cg.map (·.nb)) := by
              rw [HMN.out.look b, nbAt, ← hcg]
              cases cg <;> rfl
            have HBC := Lib.hid hbc
            have HSC := Lib.hid hsc
            have HMC := Lib.hid hmc
            have HCG := Lib.hid hcg
            have HLK := Lib.hid hlk
            have hzero : 0 < kt.length + 1 := Nat.succ_pos _
            clear hbc hsc hmc hcg hlk q0 q1 hcell
            go_upto_region 16 with (fail)
            go_cut [12] (fun v12 wd => v12 = ptrO (cg.map (·.nb)) ∧ Below w.heap.size w wd ∧ IsSet wd w.heap.size (fun i => i ∈ ids ∨ Hit σ (n.path ++ [none]) kt i))
            case first =>
              go_still_tail 7, (by kernel_rfl)
              change wpList _ _ _ _ _ wc.drew
              go_wp2_with (at_lookup; refine wpL_look _ rfl _ _ rfl (.pointer none) Tryz.underlying104 Tryz.underlying5 (zero87 _) rfl rfl HMC.out ?_; rw [HLK.out])
              go_meet
              case rel => exact ⟨rfl, HBC.out.drew, HSC.out.move rfl⟩
            case rest =>
              obtain ⟨wd, rfl⟩ : ∃ wd, wd = wc := ⟨_, rfl⟩
              obtain ⟨rfl, hbd, hsd⟩ := hcut
              have HBD := Lib.hid hbd
              have HSD := Lib.hid hsd
              clear hbd hsd
              go_upto_region 17 with (fail)
              go_cut [67] (fun v67 we => v67 = .bool cg.isSome ∧ wd = we)
              case first =>
                cases cg with
                | none =>
                  simp only [Option.map_none, ptrO]
                  go_wp2_with fail
                  go_meet
                  case rel => exact ⟨rfl, rfl⟩
                | some m =>
                  simp only [Option.map_some, ptrO, ptr]
                  go_wp2_with fail
                  go_meet
                  case rel => exact ⟨rfl, rfl⟩
              case rest =>
                obtain ⟨rfl, rfl⟩ := hcut
                go_upto_if 67 with (fail)
                go_cut [] (fun we => Below w.heap.size w we ∧ IsSet we w.heap.size (Hit σ n.path (b :: kt)))
                case first =>
                  cases cg with
                  | none =>
                    go_wp2_with fail
                    go_meet
                    case rel => exact ⟨HBD.out, HSD.out.congr (fun i => by
                      rw [hit_cons HS.out.once HN.out, HI.out]
                      exact ⟨fun h => h.elim .inl (fun h => .inr (.inl h)), fun h => h.elim .inl (fun h => h.elim .inr (fun h => absurd h (no_hit HS.out HCG.out.symm kt i)))⟩)⟩
                  | some m =>
                    simp only [Option.map_some, ptrO, ptr]
                    have K := Lib.hid (HKID.out (by simp) (some b) m A2 c2 wd HCG.out.symm (HS.out.below HBD.out) (HC2.out _ HBD.out) hc2 hc2b)
                    simp only [ptr] at K
                    go_wp2_with fail
                    refine K.out.mono ?_
                    rintro e w2 ⟨r, rfl, hr, hset2, hb2⟩
                    have hb3 : Below w.heap.size w w2 := HBD.out.trans (hb2.mono HBD.out.size)
                    have hset3 := HSD.out.move (hb2.block w.heap.size (by simpa using HSD.out.lt))
                    obtain ⟨es, ck, hs2, hs3⟩ := hset2
                    have HB3 := Lib.hid hb3
                    have HSET3 := Lib.hid hset3
                    have HS2 := Lib.hid hs2
                    have HS3 := Lib.hid hs3
                    have hrw : wd.heap.size ≤ r := by simpa using hr
                    have hrr : w.heap.size ≠ r := by have := HSD.out.lt; omega
                    have hrw2 : r < w2.heap.size := blk_lt hs2.blk
                    have hw2s : w.heap.size < w2.heap.size := hset3.lt
                    clear hb2 hb3 hset3 hs2 hs3 hr K
                    go_wp2_with (at_range; refine wpL_range _ rfl _ rfl Tryz.underlying94 rfl HS2.out.blk ?_; go_frame)
                    have hitr : w2.heap.size ≠ r := by omega
                    go_loopg [] (unseen es #[]) (fun k wx => RelM w w.heap.size r w2.heap.size es ck (fun i => i ∈ ids ∨ Hit σ (n.path ++ [none]) kt i) k wx)
                    case atStart => exact ⟨#[], blk_new w2 _, (HSET3.out.move (Below.heap_alloc _ _ _ hw2s)).congr (fun i => ⟨.inl, fun h => h.elim id (fun h => absurd h (seen_none es i))⟩), HB3.out.alloc HB3.out.size _, up1 HS2.out.blk, rfl⟩
                    case round =>
                      obtain ⟨seen, hit, hs4, hb4, hr4, hk4⟩ := hrel
                      have HIT := Lib.hid hit
                      have HS4 := Lib.hid hs4
                      have HB4 := Lib.hid hb4
                      have HR4 := Lib.hid hr4
                      have HK4 := Lib.hid hk4
                      clear hit hs4 hb4 hr4 hk4
                      go_upto_region 21 with (at_next; refine wpL_next _ rfl _ rfl ck seen rfl HIT.out HR4.out hitr HS2.out.clock (Nat.le_refl _) HS2.out.born (fun hdone => ?_) (fun x hx hns w6 hw6 hen => ?_))
                      · have HD := Lib.hid hdone
                        clear hdone
                        go_wp2_with fail
                        go_meet
                        case rel => exact ⟨HB4.out, HS4.out.congr (fun i => by rw [seen_done HD.out i, HS3.out i]; exact (by rw [(at_some HCG.out.symm).2, hit_cons HS.out.once HN.out, ← HI.out]; exact or_assoc))⟩
                      · have bl6 : Below w.heap.size w (setO w6 w2.heap.size (Obj.mapIter (some r) ck (seen.push x.2.2) ck)) := by
                          rcases hw6 with rfl | rfl
                          · exact setO_below HB4.out (by omega) _
                          · exact setO_below HB4.out.drew (by omega) _
                        have hi6 : (setO w6 w2.heap.size (Obj.mapIter (some r) ck (seen.push x.2.2) ck)).heap[w2.heap.size]? = some (.mapIter (some r) ck (seen.push x.2.2) ck) := by
                          rcases hw6 with rfl | rfl
                          · exact setO_same HIT.out
                          · exact setO_same (w := wr.drew) HIT.out
                        have hg6 : ∀ i, i ≠ w2.heap.size → (setO w6 w2.heap.size (Obj.mapIter (some r) ck (seen.push x.2.2) ck)).heap[i]? = wr.heap[i]? := fun i hi => by
                          rcases hw6 with rfl | rfl
                          · exact setO_far _ _ hi
                          · exact setO_far wr.drew _ hi
                        have hr6 := (hg6 r (Ne.symm hitr)).trans HR4.out
                        have h3u := unseen_push HS2.out.born hx hns
                        obtain ⟨es5, ck5, g1, g2⟩ := HS4.out.move (hg6 w.heap.size (by omega))
                        have G1 := Lib.hid g1
                        have G2 := Lib.hid g2
                        have BL6 := Lib.hid bl6
                        have HI6 := Lib.hid hi6
                        have HR6 := Lib.hid hr6
                        have H3U := Lib.hid h3u
                        have SP := Lib.hid (fun i => seen_push HS2.out.born (seen := seen) hx i)
                        clear bl6 hi6 hg6 hr6 h3u g1 g2 hns hx
                        obtain ⟨W6, hW6⟩ : ∃ W6, W6 = setO w6 w2.heap.size (Obj.mapIter (some r) ck (seen.push x.2.2) ck) := ⟨_, rfl⟩
                        rw [← hW6] at hen G1 BL6 HI6 HR6 ⊢
                        clear hW6 hw6
                        go_wp2_with (at_mapUpdate; refine wpL_store _ rfl _ _ _ rfl (.agg #[]) Tryz.underlying94 Tryz.underlying77 rfl rfl rfl G1.out.blk ?_)
                        go_roundg (unseen es (seen.push x.2.2))
                        case measure => have := HK4.out; have := H3U.out; omega
                        case rel =>
                          refine ⟨seen.push x.2.2, (setO_far W6 _ (by omega)).trans HI6.out, ⟨_, _, G1.out.store _ _, fun i => ?_⟩, setO_below BL6.out (Nat.le_refl _) _, (setO_far W6 _ (Ne.symm hrr)).trans HR6.out, rfl⟩
                          rw [has_store, G2.out i]
                          exact or_assoc.trans (or_congr Iff.rfl (SP.out i).symm)
                case rest =>
                  obtain ⟨hbe, hse⟩ := hcut
                  have HBE := Lib.hid hbe
                  have HSE := Lib.hid hse
                  clear hbe hse
                  go_wp2_with fail
                  go_ret
                  exact ⟨_, rfl, Nat.le_refl _, HSE.out, HBE.out⟩
theorem get_all {base tb : Nat} {σ : List Nd} (key : List Int) : ∀ (n : Nd) (A : Option Addr) (cap : Nat) (w : World), (∀ b ∈ key, 0 ≤ b ∧ b < 256) → St w base σ → n ∈ σ → (Kd.int .u8).C w A key.length key → key.length ≤ cap → cap ≤ 9223372036854775807 → Calls Tryz.prog 66 #[ptr tb, ptr n.nb, .slice A key.length cap] w (GetPost w σ n.path key) := by
  induction key with
  | nil =>
    intro n A cap w hkb h hn hC hcap hc47
    exact get_step h hn hkb hC hcap hc47 (fun hne => absurd rfl hne)
  | cons b kt ih =>
    intro n A cap w hkb h hn hC hcap hc47
    refine get_step h hn hkb hC hcap hc47 (fun _ x m A2 cap2 w1 hm h1 hC2 hc2 hc2b => ?_)
    obtain ⟨m1, m2⟩ := at_some hm
    exact ih m A2 cap2 w1 (fun c hc => hkb c (List.mem_cons_of_mem _ hc)) h1 m1 hC2 hc2 hc2b
theorem getTop_calls {w : World} {base tb cap : Nat} {σ : List Nd} {A : Option Addr} {key : List Int} (h : St w base σ) (ht : Top w tb σ) (hkb : ∀ b ∈ key, 0 ≤ b ∧ b < 256) (hC : (Kd.int .u8).C w A key.length key) (hcap : key.length ≤ cap) (hc47 : cap ≤ 9223372036854775807) :
    Calls Tryz.prog 57 #[ptr tb, .slice A key.length cap] w (GetPost w σ [] key) := by
  obtain ⟨rb, h1, h2⟩ := ht
  obtain ⟨n, hn, hnb⟩ := Option.map_eq_some_iff.1 h2
  obtain ⟨n1, n2⟩ := at_some hn
  have hc := get_all (tb := tb) key n A cap w hkb h n1 hC hcap hc47
  rw [n2] at hc
  rw [← hnb] at h1
  have HC := Lib.hid hc
  have q : w.cell? ⟨tb, 0, none⟩ = some (ptr n.nb) := blk_cell h1 0
  clear hc h1 h2 hn n1 n2 hnb hkb hC h
  simp only [ptr] at q HC ⊢
  go_enter Tryz.func57, Tryz.ntmps57
  go_wp2_with fail
  refine HC.out.mono ?_
  rintro e w7 ⟨mb, rfl, g1, g2, g3⟩
  have G2 := Lib.hid g2
  have G3 := Lib.hid g3
  clear g2 g3
  go_wp2_with fail
  go_ret
  exact ⟨mb, rfl, g1, G2.out, G3.out⟩
end Go.Proofs.YtnoolgbbpekomaaGreatDoor.Gw
