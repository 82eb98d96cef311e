/- impl.RunTrie: the turns. ParseIgnoreBytes, impl.Holes: the walks. What a trie tells, by what it holds alone: plain. The text of places: numbers in decimal, parts between commas and dashes: plain. One span of places: what its text says: plain. The text of spans: what it says: plain. A word with a letter is refused: plain. A text of spans with a word behind it is refused: plain. The turns of a trie, by the list of what it holds: plain. The contracts of impl.RunTrie and impl.Holes, as the laws' walks want them. -/
import Derived.Test.YtnoolgbbpekomaaGreatDoorProg
import Derived.Below
import Derived.Deep.Draws
import Derived.Deep.AppendLies
import Derived.Maps.AppendAt
import Derived.OwnWalk
import Derived.Laws.BytesArg
import Derived.Laws.MakeOwn
import Derived.Laws.OwnMore
import Derived.Deep.OwnRows
import Derived.Tactics
import Derived.Lib.ConvBytes
import Derived.Laws.Slices
import Derived.WalkKit
import Derived.KernelRfl
import Derived.RowKit3
import Derived.Deep.LoopGhost
import Derived.Deep.QuietTactic
import Derived.BigQuiet
import Derived.WideLaws
import Derived.Deep.DeepCutAuto
import Derived.Deep.CutBlock
import Derived.Deep.RegionHeld3
import Derived.Laws.Rows
import Derived.Lib.AppendStr
import Derived.ArgAppend
import Derived.Laws.IdiomCopy
import Derived.OrdersHeld
import Derived.Laws.BitsLemmas
import Derived.RowKit
import Derived.Test.YtnoolgbbpekomaaGreatDoorWWords
import Derived.Test.YtnoolgbbpekomaaGreatDoorWLast
import Derived.Test.YtnoolgbbpekomaaGreatDoorWQPut
import Derived.Test.YtnoolgbbpekomaaGreatDoorWApart
import Derived.Test.YtnoolgbbpekomaaGreatDoorWArr
import Derived.Test.YtnoolgbbpekomaaGreatDoorWZeros
import Derived.Test.YtnoolgbbpekomaaGreatDoorWFoot
import Derived.Test.YtnoolgbbpekomaaGreatDoorWKept
import Derived.Test.YtnoolgbbpekomaaGreatDoorWShare
import Derived.Test.YtnoolgbbpekomaaGreatDoorWN
import Derived.Test.YtnoolgbbpekomaaGreatDoorWNEv
import Derived.Test.YtnoolgbbpekomaaGreatDoorWMore
import Derived.Test.YtnoolgbbpekomaaGreatDoorMc
import Derived.Test.YtnoolgbbpekomaaGreatDoorMb
namespace Go.Proofs.YtnoolgbbpekomaaGreatDoor.T
open Go.RowKit YtnoolgbbpekomaaGreatDoorW.PrintWords YtnoolgbbpekomaaGreatDoorW.PrintLast YtnoolgbbpekomaaGreatDoorW.PrintMore
attribute [local go_sem] max2_int min2_int max_two min_two max_three min_three max_four min_four   -- for this text's walks alone
set_option linter.unusedVariables false
set_option linter.unusedSimpArgs false



def errW : Option Int → Value
  | none => .nilIface
  | some c => .iface 148 (.int .i64 c)
theorem errW_none : errW none = .nilIface := rfl
theorem errW_some (c : Int) : errW (some c) = .iface 148 (.int .i64 c) := rfl

theorem info3 : (Tryz.prog.info? 3).map (fun i => (i.zero, i.size, i.bytes)) = some (some (.int .i64 0), 1, 8) := by kernel_rfl
theorem info4 : (Tryz.prog.info? 4).map (fun i => (i.zero, i.size, i.bytes)) = some (some (.bool false), 1, 1) := by kernel_rfl
theorem info5 : (Tryz.prog.info? 5).map (fun i => (i.zero, i.size, i.bytes)) = some (some (.int .u8 0), 1, 1) := by kernel_rfl
theorem info9 : (Tryz.prog.info? 9).map (fun i => (i.zero, i.size, i.bytes)) = some (some (.string ⟨#[]⟩), 1, 16) := by kernel_rfl
theorem info42 : (Tryz.prog.info? 42).map (fun i => (i.zero, i.size, i.bytes)) = some (some (.agg #[(.bool false), (.string ⟨#[]⟩), (.slice none 0 0), (.int .i64 0)]), 4, 56) := by kernel_rfl
theorem info44 : (Tryz.prog.info? 44).map (fun i => (i.zero, i.size, i.bytes)) = some (some (.slice none 0 0), 1, 24) := by kernel_rfl
theorem info64 : (Tryz.prog.info? 64).map (fun i => (i.zero, i.size, i.bytes)) = some (some (.agg #[(.int .i64 0), (.string ⟨#[]⟩), (.string ⟨#[]⟩), (.int .i64 0)]), 4, 48) := by kernel_rfl
-- the values' own types
/-! #### struct type 67 -/
structure S67 where
  f0 : Int
  f1 : Int
def z67 : S67 := ⟨(0 : Int), (0 : Int)⟩
def k67 : Kd S67 := Kd.iso (Kd.pair (Kd.int .i64) (Kd.int .i64)) (fun x : S67 => (x.f0, x.f1))
theorem k67_heap : Kd.Heap k67 := Kd.heap_iso _ (Kd.heap_pair (Kd.heap_int .i64) (Kd.heap_int .i64))
theorem k67_open {w : World} {x : S67} {cs : List Value} (h : k67.K w x cs) : cs = [.int .i64 x.f0, .int .i64 x.f1] := by
  obtain ⟨_, _, rfl, rfl, rfl⟩ := h
  exact rfl
theorem k67_openM {w : World} {base : Nat} {ok : Nat → Prop} {x : S67} {cs : List Value} (h : k67.M w base ok x cs) : cs = [.int .i64 x.f0, .int .i64 x.f1] := by
  obtain ⟨_, _, rfl, rfl, rfl⟩ := h
  exact rfl
theorem k67_mk (w : World) (x : S67)  : k67.K w x [.int .i64 x.f0, .int .i64 x.f1] := ⟨[.int .i64 x.f0], [.int .i64 x.f1], rfl, rfl, rfl⟩
theorem k67_mkM (w : World) (base : Nat) (ok : Nat → Prop) (x : S67)  : k67.M w base ok x [.int .i64 x.f0, .int .i64 x.f1] := ⟨[.int .i64 x.f0], [.int .i64 x.f1], rfl, rfl, rfl⟩
theorem k67_mkF (W : World) (ok : Nat → Prop) (x : S67) : Kd.FK k67 W ok x [.int .i64 x.f0, .int .i64 x.f1] := fun W2 _ => k67_mk W2 x
def rd_T67 (xs : List S67) (i : Int) : S67 := xs.getD i.toNat z67
theorem at_T67 {w : World} {A : Option Addr} {n : Nat} {xs : List S67} (h : Kd.C k67 w A n xs) (i : Int) (h0 : 0 ≤ i) (h1 : i < n) : ∃ ad , A = some ad ∧ w.cell? (ad.add (i.toNat * 2)) = some (.int .i64 (rd_T67 xs i).f0) ∧ w.cell? ⟨(ad.add (i.toNat * 2)).block, (ad.add (i.toNat * 2)).off + 1, none⟩ = some (.int .i64 (rd_T67 xs i).f1) := by
  obtain ⟨ad, c, e, _, hK, hc0⟩ := Kd.C_get h z67 i h0 h1
  have hc : ∀ j u, c[j]? = some u → w.cell? (ad.add (i.toNat * 2 + j)) = some u := hc0
  obtain rfl := k67_open hK
  exact ⟨ad, e, hc 0 _ rfl, by rw [← add_field _ _ 1 (by omega)]; exact hc 1 _ rfl⟩

def rd_L8 (xs : List (List Int)) (i : Int) : (List Int) := xs.getD i.toNat ([] : List Int)
theorem at_L8 {w : World} {A : Option Addr} {n : Nat} {xs : List (List Int)} (h : Kd.C (Kd.slice 3 (Kd.int .i64)) w A n xs) (i : Int) (h0 : 0 ≤ i) (h1 : i < n) : ∃ ad A0 c0, A = some ad ∧ w.cell? (ad.add i.toNat) = some (.slice A0 (rd_L8 xs i).length c0) ∧ (rd_L8 xs i).length ≤ c0 ∧ (Kd.int .i64).C w A0 (rd_L8 xs i).length (rd_L8 xs i) := by
  obtain ⟨ad, c, e, _, hK, hc0⟩ := Kd.C_get h ([] : List Int) i h0 h1
  have hc : ∀ j u, c[j]? = some u → w.cell? (ad.add (i.toNat * 1 + j)) = some u := hc0
  obtain ⟨A0, c0, rfl, l0, g0⟩ := hK
  exact ⟨ad, A0, c0, e, by have hq := hc 0 _ rfl; rwa [Nat.mul_one, Nat.add_zero] at hq, l0, g0⟩
/-! #### struct type 64 -/
structure S64 where
  f0 : Int
  f1 : ByteArray
  f2 : ByteArray
  f3 : Int
def z64 : S64 := ⟨(0 : Int), (⟨#[]⟩ : ByteArray), (⟨#[]⟩ : ByteArray), (0 : Int)⟩
def k64 : Kd S64 := Kd.iso (Kd.pair (Kd.int .i64) (Kd.pair Kd.string (Kd.pair Kd.string (Kd.int .i64)))) (fun x : S64 => (x.f0, x.f1, x.f2, x.f3))
theorem k64_heap : Kd.Heap k64 := Kd.heap_iso _ (Kd.heap_pair (Kd.heap_int .i64) (Kd.heap_pair Kd.heap_string (Kd.heap_pair Kd.heap_string (Kd.heap_int .i64))))
theorem k64_open {w : World} {x : S64} {cs : List Value} (h : k64.K w x cs) : cs = [.int .i64 x.f0, .string x.f1, .string x.f2, .int .i64 x.f3] := by
  obtain ⟨_, _, rfl, rfl, ⟨_, _, rfl, rfl, ⟨_, _, rfl, rfl, rfl⟩⟩⟩ := h
  exact rfl
theorem k64_openM {w : World} {base : Nat} {ok : Nat → Prop} {x : S64} {cs : List Value} (h : k64.M w base ok x cs) : cs = [.int .i64 x.f0, .string x.f1, .string x.f2, .int .i64 x.f3] := by
  obtain ⟨_, _, rfl, rfl, ⟨_, _, rfl, rfl, ⟨_, _, rfl, rfl, rfl⟩⟩⟩ := h
  exact rfl
theorem k64_mk (w : World) (x : S64)  : k64.K w x [.int .i64 x.f0, .string x.f1, .string x.f2, .int .i64 x.f3] := ⟨[.int .i64 x.f0], [.string x.f1, .string x.f2, .int .i64 x.f3], rfl, rfl, ⟨[.string x.f1], [.string x.f2, .int .i64 x.f3], rfl, rfl, ⟨[.string x.f2], [.int .i64 x.f3], rfl, rfl, rfl⟩⟩⟩
theorem k64_mkM (w : World) (base : Nat) (ok : Nat → Prop) (x : S64)  : k64.M w base ok x [.int .i64 x.f0, .string x.f1, .string x.f2, .int .i64 x.f3] := ⟨[.int .i64 x.f0], [.string x.f1, .string x.f2, .int .i64 x.f3], rfl, rfl, ⟨[.string x.f1], [.string x.f2, .int .i64 x.f3], rfl, rfl, ⟨[.string x.f2], [.int .i64 x.f3], rfl, rfl, rfl⟩⟩⟩
theorem k64_mkF (W : World) (ok : Nat → Prop) (x : S64) : Kd.FK k64 W ok x [.int .i64 x.f0, .string x.f1, .string x.f2, .int .i64 x.f3] := fun W2 _ => k64_mk W2 x
def rd_T64 (xs : List S64) (i : Int) : S64 := xs.getD i.toNat z64
theorem at_T64 {w : World} {A : Option Addr} {n : Nat} {xs : List S64} (h : Kd.C k64 w A n xs) (i : Int) (h0 : 0 ≤ i) (h1 : i < n) : ∃ ad , A = some ad ∧ w.cell? (ad.add (i.toNat * 4)) = some (.int .i64 (rd_T64 xs i).f0) ∧ w.cell? ⟨(ad.add (i.toNat * 4)).block, (ad.add (i.toNat * 4)).off + 1, none⟩ = some (.string (rd_T64 xs i).f1) ∧ w.cell? ⟨(ad.add (i.toNat * 4)).block, (ad.add (i.toNat * 4)).off + 2, none⟩ = some (.string (rd_T64 xs i).f2) ∧ w.cell? ⟨(ad.add (i.toNat * 4)).block, (ad.add (i.toNat * 4)).off + 3, none⟩ = some (.int .i64 (rd_T64 xs i).f3) := by
  obtain ⟨ad, c, e, _, hK, hc0⟩ := Kd.C_get h z64 i h0 h1
  have hc : ∀ j u, c[j]? = some u → w.cell? (ad.add (i.toNat * 4 + j)) = some u := hc0
  obtain rfl := k64_open hK
  exact ⟨ad, e, hc 0 _ rfl, by rw [← add_field _ _ 1 (by omega)]; exact hc 1 _ rfl, by rw [← add_field _ _ 2 (by omega)]; exact hc 2 _ rfl, by rw [← add_field _ _ 3 (by omega)]; exact hc 3 _ rfl⟩

def rd_L11 (xs : List (List S67)) (i : Int) : (List S67) := xs.getD i.toNat ([] : List S67)
theorem at_L11 {w : World} {A : Option Addr} {n : Nat} {xs : List (List S67)} (h : Kd.C (Kd.slice 67 k67) w A n xs) (i : Int) (h0 : 0 ≤ i) (h1 : i < n) : ∃ ad A0 c0, A = some ad ∧ w.cell? (ad.add i.toNat) = some (.slice A0 (rd_L11 xs i).length c0) ∧ (rd_L11 xs i).length ≤ c0 ∧ k67.C w A0 (rd_L11 xs i).length (rd_L11 xs i) := by
  obtain ⟨ad, c, e, _, hK, hc0⟩ := Kd.C_get h ([] : List S67) i h0 h1
  have hc : ∀ j u, c[j]? = some u → w.cell? (ad.add (i.toNat * 1 + j)) = some u := hc0
  obtain ⟨A0, c0, rfl, l0, g0⟩ := hK
  exact ⟨ad, A0, c0, e, by have hq := hc 0 _ rfl; rwa [Nat.mul_one, Nat.add_zero] at hq, l0, g0⟩

/-! #### struct type 42 -/
structure S42 where
  f0 : Bool
  f1 : ByteArray
  f2 : (List S67)
  f3 : Int
def z42 : S42 := ⟨false, (⟨#[]⟩ : ByteArray), ([] : List S67), (0 : Int)⟩
def k42 : Kd S42 := Kd.iso (Kd.pair Kd.bool (Kd.pair Kd.string (Kd.pair (Kd.slice 67 k67) (Kd.int .i64)))) (fun x : S42 => (x.f0, x.f1, x.f2, x.f3))
theorem k42_heap : Kd.Heap k42 := Kd.heap_iso _ (Kd.heap_pair Kd.heap_bool (Kd.heap_pair Kd.heap_string (Kd.heap_pair (Kd.heap_slice 67 k67_heap) (Kd.heap_int .i64))))
theorem k42_open {w : World} {x : S42} {cs : List Value} (h : k42.K w x cs) : ∃ A2 c2, cs = [.bool x.f0, .string x.f1, .slice A2 x.f2.length c2, .int .i64 x.f3] ∧ x.f2.length ≤ c2 ∧ k67.C w A2 x.f2.length x.f2 := by
  obtain ⟨_, _, rfl, rfl, ⟨_, _, rfl, rfl, ⟨_, _, rfl, ⟨A2, c2, rfl, l2, g2⟩, rfl⟩⟩⟩ := h
  exact ⟨A2, c2, rfl, l2, g2⟩
theorem k42_openM {w : World} {base : Nat} {ok : Nat → Prop} {x : S42} {cs : List Value} (h : k42.M w base ok x cs) : ∃ v2, cs = [.bool x.f0, .string x.f1, v2, .int .i64 x.f3] ∧ k67.R 67 w base ok v2 x.f2 := by
  obtain ⟨_, _, rfl, rfl, ⟨_, _, rfl, rfl, ⟨_, _, rfl, ⟨v2, rfl, g2⟩, rfl⟩⟩⟩ := h
  exact ⟨v2, rfl, g2⟩
theorem k42_mk (w : World) (x : S42) {A2 : Option Addr} {c2 : Nat} (l2 : x.f2.length ≤ c2) (g2 : k67.C w A2 x.f2.length x.f2) : k42.K w x [.bool x.f0, .string x.f1, .slice A2 x.f2.length c2, .int .i64 x.f3] := ⟨[.bool x.f0], [.string x.f1, .slice A2 x.f2.length c2, .int .i64 x.f3], rfl, rfl, ⟨[.string x.f1], [.slice A2 x.f2.length c2, .int .i64 x.f3], rfl, rfl, ⟨[.slice A2 x.f2.length c2], [.int .i64 x.f3], rfl, ⟨A2, c2, rfl, l2, g2⟩, rfl⟩⟩⟩
theorem k42_mkM (w : World) (base : Nat) (ok : Nat → Prop) (x : S42) {v2 : Value} (g2 : k67.R 67 w base ok v2 x.f2) : k42.M w base ok x [.bool x.f0, .string x.f1, v2, .int .i64 x.f3] := ⟨[.bool x.f0], [.string x.f1, v2, .int .i64 x.f3], rfl, rfl, ⟨[.string x.f1], [v2, .int .i64 x.f3], rfl, rfl, ⟨[v2], [.int .i64 x.f3], rfl, ⟨v2, rfl, g2⟩, rfl⟩⟩⟩
theorem k42_openF {W : World} {ok : Nat → Prop} {x : S42} {cs : List Value} (h : Kd.FK k42 W ok x cs) : ∃ A2 c2, cs = [.bool x.f0, .string x.f1, .slice A2 x.f2.length c2, .int .i64 x.f3] ∧ x.f2.length ≤ c2 ∧ Kd.F k67 W ok A2 x.f2.length x.f2 := by
  obtain ⟨A2, c2, rfl, l2, _⟩ := k42_open (Kd.FK_now h)
  exact ⟨A2, c2, rfl, l2, (fun W' hW => by obtain ⟨A2_, c2_, he, l2_, g2_⟩ := k42_open (h W' hW); injection (Option.some.inj (show some (Value.slice A2 x.f2.length c2) = some (Value.slice A2_ x.f2.length c2_) from congrArg (fun l => l[2]?) he)) with ha_ _ _; rw [ha_]; exact g2_)⟩
theorem k42_mkF (W : World) (ok : Nat → Prop) (x : S42) {A2 : Option Addr} {c2 : Nat} (l2 : x.f2.length ≤ c2) (g2 : Kd.F k67 W ok A2 x.f2.length x.f2) : Kd.FK k42 W ok x [.bool x.f0, .string x.f1, .slice A2 x.f2.length c2, .int .i64 x.f3] := fun W2 hW => k42_mk W2 x l2 (g2 W2 hW)
def rd_T42 (xs : List S42) (i : Int) : S42 := xs.getD i.toNat z42
theorem at_T42 {w : World} {A : Option Addr} {n : Nat} {xs : List S42} (h : Kd.C k42 w A n xs) (i : Int) (h0 : 0 ≤ i) (h1 : i < n) : ∃ ad A2 c2, A = some ad ∧ w.cell? (ad.add (i.toNat * 4)) = some (.bool (rd_T42 xs i).f0) ∧ w.cell? ⟨(ad.add (i.toNat * 4)).block, (ad.add (i.toNat * 4)).off + 1, none⟩ = some (.string (rd_T42 xs i).f1) ∧ w.cell? ⟨(ad.add (i.toNat * 4)).block, (ad.add (i.toNat * 4)).off + 2, none⟩ = some (.slice A2 (rd_T42 xs i).f2.length c2) ∧ w.cell? ⟨(ad.add (i.toNat * 4)).block, (ad.add (i.toNat * 4)).off + 3, none⟩ = some (.int .i64 (rd_T42 xs i).f3) ∧ (rd_T42 xs i).f2.length ≤ c2 ∧ k67.C w A2 (rd_T42 xs i).f2.length (rd_T42 xs i).f2 := by
  obtain ⟨ad, c, e, _, hK, hc0⟩ := Kd.C_get h z42 i h0 h1
  have hc : ∀ j u, c[j]? = some u → w.cell? (ad.add (i.toNat * 4 + j)) = some u := hc0
  obtain ⟨A2, c2, rfl, l2, g2⟩ := k42_open hK
  exact ⟨ad, A2, c2, e, hc 0 _ rfl, by rw [← add_field _ _ 1 (by omega)]; exact hc 1 _ rfl, by rw [← add_field _ _ 2 (by omega)]; exact hc 2 _ rfl, by rw [← add_field _ _ 3 (by omega)]; exact hc 3 _ rfl, l2, g2⟩

end Go.Proofs.YtnoolgbbpekomaaGreatDoor.T
namespace Go.Proofs.YtnoolgbbpekomaaGreatDoor.Rt
open Go.RowKit YtnoolgbbpekomaaGreatDoorW.PrintWords YtnoolgbbpekomaaGreatDoorW.PrintLast YtnoolgbbpekomaaGreatDoorW.PrintMore Fr Tr Nn YtnoolgbbpekomaaGreatDoor.Id Gp No Sd Rp Rw YtnoolgbbpekomaaGreatDoor.Pi Pj Pk Fx Fy Fw Fz Fv Ad Ae
set_option linter.unusedVariables false
set_option linter.unusedSimpArgs false
abbrev S64 := T.S64
abbrev Sem_ := Wy → Option (List Int)
/-- What a turn makes of a trie, and whether there was no error. -/
inductive TurnR (f : Sem_) (x : S64) : Sem_ → Bool → Prop
  | add (h : x.f0 = 0) : TurnR f x (addS (wy [] (bytesOf x.f1)) (IntKind.u64.wrap x.f3) f) true
  | del (h : x.f0 = 1) : TurnR f x (pruneS (delS (wy [] (bytesOf x.f1)) (IntKind.u64.wrap x.f3) f)) true
  | addM (h : x.f0 = 2) (g : List Bool) (hp : parse x.f2.data.toList = some (g, true)) : TurnR f x (addS (wy g (bytesOf x.f1)) (IntKind.u64.wrap x.f3) f) true
  | delM (h : x.f0 = 3) (g : List Bool) (hp : parse x.f2.data.toList = some (g, true)) : TurnR f x (pruneS (delS (wy g (bytesOf x.f1)) (IntKind.u64.wrap x.f3) f)) true
  | bad (h : x.f0 = 2 ∨ x.f0 = 3) (g : List Bool) (hp : parse x.f2.data.toList = some (g, false)) : TurnR f x f false
inductive TurnsR : Sem_ → List S64 → Sem_ → List Bool → Prop
  | nil (f : Sem_) : TurnsR f [] f []
  | snoc {f f1 f2 : Sem_} {l : List S64} {x : S64} {oks : List Bool} {ok : Bool} (h : TurnsR f l f1 oks) (h2 : TurnR f1 x f2 ok) : TurnsR f (l ++ [x]) f2 (oks ++ [ok])
structure TurnOk (x : S64) : Prop where
  kind : 0 ≤ x.f0 ∧ x.f0 ≤ 3
  size : x.f1.size ≤ 1000000000
  tok : TOk x.f2.data.toList
  par : ∃ r, parse x.f2.data.toList = some r ∧ r.1.length ≤ 1000001
theorem C_blk {α : Type} {d : Kd α} (hK : ∀ w w' x cs, d.K w x cs → d.K w' x cs) {w w' : World} {ad : Addr} {n : Nat} {xs : List α} (h : d.C w (some ad) n xs) (hb : w'.heap[ad.block]? = w.heap[ad.block]?) : d.C w' (some ad) n xs := by
  refine ⟨h.1, h.2.1, fun hn => ?_⟩
  obtain ⟨ad', e, hc⟩ := h.2.2 hn
  injection e with e
  subst e
  refine ⟨ad, rfl, fun j p hj => ?_⟩
  obtain ⟨c, c1, c2, c3⟩ := hc j p hj
  refine ⟨c, c1, hK _ _ _ _ c2, fun i u hu => ?_⟩
  have hbk : ∀ m, (ad.add m).block = ad.block := fun m => by unfold Addr.add; split <;> rfl
  exact (World.cell?_of_block (by rw [hbk]; exact hb)).trans (c3 i u hu)
/-- A text's bytes, laid: they are read behind every world that keeps the row. -/
theorem key_kept (w : World) (s : ByteArray) (hs : s.size ≤ 1000000000) {S : Nat → Prop} (hS : ¬ S w.heap.size) : ∀ w1, Below (w.heap.size + 1) (Lib.bytesWorld w 5 s) w1 → ∀ w', Kp w1 w' S → (Kd.int .u8).C w' (some ⟨w.heap.size, 0, none⟩) (bytesOf s).length (bytesOf s) := by
  intro w1 hb w' hk
  have h0 : (Kd.int .u8).C (Lib.bytesWorld w 5 s) (some ⟨w.heap.size, 0, none⟩) (bytesOf s).length (bytesOf s) := by
    rw [bytesOf_length]
    exact Kd.C_of_reads (d := 0) (bytes_reads w 5 s (by omega))
  refine C_blk (fun _ _ _ _ h => h) h0 ?_
  have h1 : w1.heap[w.heap.size]? = (Lib.bytesWorld w 5 s).heap[w.heap.size]? := hb.block _ (Nat.lt_succ_self _)
  have h2 := Lib.bytesWorld_at_new w 5 s
  exact (hk.k _ (blk_lt (h1.trans h2)) hS).trans h1
def CutT (w3 : World) (base : Nat) (σ : List Nd) (x : S64) (v10 : Value) (wc : World) : Prop :=
  ∃ σ2 f2 ok, TurnR (Fx.sem σ) x f2 ok ∧ ErrIs ok v10 ∧ Fx.Left w3 base σ f2 (σ.length + x.f1.size) (total σ + 1) σ2 wc
theorem left_none {w w1 : World} {base : Nat} {σ : List Nd} (h : St w base σ) (hb : Below w.heap.size w w1) (a b : Nat) : Fx.Left w base σ (Fx.sem σ) (σ.length + a) (total σ + b) σ w1 :=
  ⟨h.below hb, fun q => rfl, by omega, by omega, rfl, fun i hi => .inl hi, .of_below hb _⟩
theorem lmore {w w2 : World} {base len tot len2 tot2 : Nat} {σ σ2 : List Nd} {f : Sem_} (h : Fx.Left w base σ f len tot σ2 w2) (h1 : len ≤ len2) (h2 : tot ≤ tot2) : Fx.Left w base σ f len2 tot2 σ2 w2 :=
  ⟨h.st, h.sem, Nat.le_trans h.len h1, Nat.le_trans h.tot h2, h.root, h.own, h.kp⟩
def RelT (w : World) (tb : Nat) (l0 : List S64) (k : Nat) (v4 v20 : Value) (wr : World) : Prop :=
  ∃ (i : Nat) (f : Sem_) (oks : List Bool) (σ : List Nd), v20 = .int .i64 (i : Int) ∧ i ≤ l0.length ∧ Kd.bool.R 4 wr w.heap.size (fun _ => True) v4 oks ∧ St wr w.heap.size σ ∧ Top wr tb σ ∧ TurnsR (fun q => if q = [] then some [] else none) (l0.take i) (Fx.sem σ) oks ∧ oks.length = i ∧ σ.length ≤ 1 + ((l0.take i).map (fun x => x.f1.size)).sum ∧ total σ ≤ i ∧ Below w.heap.size w wr ∧ k = l0.length - i
def CutA (wr : World) (x : S64) (v11 : Value) (wc : World) : Prop :=
  ∃ b11 kb cp, v11 = .pointer (some ⟨b11, 0, none⟩) ∧ wc.heap[wr.heap.size]? = some (.cells #[.int .i64 x.f0, .string x.f1, .string x.f2, .int .i64 x.f3] 64 (0, 0)) ∧ wc.heap[b11]? = some (.cells #[.slice (some ⟨kb, 0, none⟩) x.f1.size cp, .string x.f2] 75 (0, 0)) ∧ Below wr.heap.size wr wc ∧ wr.heap.size < b11 ∧ wr.heap.size ≤ kb ∧ x.f1.size ≤ cp ∧ ∀ S : Nat → Prop, ¬ S kb → ∀ w', Kp wc w' S → (Kd.int .u8).C w' (some ⟨kb, 0, none⟩) (bytesOf x.f1).length (bytesOf x.f1)
theorem cap_ge (w : World) (n e : Nat) : n ≤ grownCap w n 0 e := by
  exact grownCap_ge w n 0 e
theorem cutA (wr : World) (x : S64) (cp : Nat) {b11 kb : Nat} (hb : b11 = wr.heap.size + 1 + 1) (hk : kb = wr.heap.size + 1) (hs : x.f1.size ≤ 1000000000) (hcp : x.f1.size ≤ cp := by exact cap_ge _ _ _) : CutA wr x (.pointer (some ⟨b11, 0, none⟩)) ((Lib.bytesWorld (wr.alloc (.cells #[.int .i64 x.f0, .string x.f1, .string x.f2, .int .i64 x.f3] 64)) 5 x.f1).alloc (.cells #[.slice (some ⟨kb, 0, none⟩) x.f1.size cp, .string x.f2] 75)) := by
  subst hb
  subst hk
  obtain ⟨W1, hW1⟩ : ∃ W1, W1 = wr.alloc (.cells #[.int .i64 x.f0, .string x.f1, .string x.f2, .int .i64 x.f3] 64) := ⟨_, rfl⟩
  have hb1 := blk_new wr (.cells #[.int .i64 x.f0, .string x.f1, .string x.f2, .int .i64 x.f3] 64)
  have hbl1 : Below wr.heap.size wr (wr.alloc (.cells #[.int .i64 x.f0, .string x.f1, .string x.f2, .int .i64 x.f3] 64)) := (Below.refl _ _).alloc (Nat.le_refl _) _
  have hz1 : (wr.alloc (.cells #[.int .i64 x.f0, .string x.f1, .string x.f2, .int .i64 x.f3] 64)).heap.size = wr.heap.size + 1 := by simp
  rw [← hW1] at hb1 hbl1 hz1 ⊢
  clear hW1
  have hzB : (Lib.bytesWorld W1 5 x.f1).heap.size = wr.heap.size + 1 + 1 := by rw [Lib.bytesWorld_size, hz1]
  have hnB := blk_new (Lib.bytesWorld W1 5 x.f1) (.cells #[.slice (some ⟨wr.heap.size + 1, 0, none⟩) x.f1.size cp, .string x.f2] 75)
  rw [hzB] at hnB
  refine ⟨wr.heap.size + 1 + 1, wr.heap.size + 1, cp, rfl, up1 ((Lib.bytesWorld_at_old _ _ _ _ (by omega)).trans hb1), hnB, ((hbl1.trans ((Lib.bytesWorld_below W1 5 x.f1).mono (by omega)))).alloc (by omega) _, by omega, by omega, hcp, fun S hS w' hk => ?_⟩
  rw [← hz1] at hS ⊢
  exact key_kept W1 x.f1 hs hS _ ((Below.refl _ _).alloc (by omega) _) w' hk
def FoundRow (σ : List Nd) (key row : List Int) : Prop := ∃ L : List Int, L.Pairwise (· < ·) ∧ (∀ i, i ∈ L ↔ Hit σ [] key i) ∧ row = L.map Go.RowKit.wrap64
def RunPost (w : World) (l0 : List S64) (l1 : List ByteArray) (e : Ending) (w' : World) : Prop :=
  ∃ v0 v1 σ oks rows, e = .returned (.tuple #[v0, v1, .int .i64 ((σ : List Nd).length : Int)]) ∧ Kd.bool.R 4 w' w.heap.size (fun _ => True) v0 oks ∧ Kd.S (Kd.slice 3 (Kd.int .i64)) 44 w' w.heap.size (fun _ => True) v1 rows ∧ Once σ ∧ TurnsR (fun q => if q = [] then some [] else none) l0 (Fx.sem σ) oks ∧ rows.length = l1.length ∧ (∀ (k : Nat) (r : List Int), rows[k]? = some r → ∃ s : ByteArray, l1[k]? = some s ∧ FoundRow σ (bytesOf s) r) ∧ Below w.heap.size w w'
def RelF (w3 : World) (σ : List Nd) (l1 : List ByteArray) (k : Nat) (v5 v76 : Value) (wr : World) : Prop :=
  ∃ (j : Nat) (rows : List (List Int)), v76 = .int .i64 (j : Int) ∧ j ≤ l1.length ∧ Kd.S (Kd.slice 3 (Kd.int .i64)) 44 wr w3.heap.size (fun _ => True) v5 rows ∧ rows.length = j ∧ (∀ (k : Nat) (r : List Int), rows[k]? = some r → ∃ s : ByteArray, l1[k]? = some s ∧ FoundRow σ (bytesOf s) r) ∧ Below w3.heap.size w3 wr ∧ k = l1.length - j
def RelH (wj : World) (L : List Int) (A8 : Option Addr) (c8 : Nat) (k : Nat) (v14 v86 : Value) (wr : World) : Prop :=
  ∃ (q : Nat) (M : List Int), v86 = .int .i64 (q : Int) ∧ q ≤ L.length ∧ (Kd.int .i64).R 3 wr wj.heap.size (fun _ => True) v14 M ∧ M = (L.take q).map Go.RowKit.wrap64 ∧ M.length = q ∧ (Kd.int .u64).R 77 wr wj.heap.size (fun _ => True) (.slice A8 L.length c8) L ∧ Below wj.heap.size wj wr ∧ k = L.length - q
theorem row3_empty {w : World} {base b : Nat} (hb : w.heap[b]? = some (.cells #[] 3 (0, 0))) (hl : base ≤ b) : (Kd.int .i64).R 3 w base (fun _ => True) (.slice (some ⟨b, 0, none⟩) 0 0) [] :=
  Kd.R_of_own (xs := ([] : List Int)) ⟨rfl, .inr ⟨b, 0, #[], rfl, hl, hb, Nat.le_refl _, Nat.zero_le _, rfl, rfl⟩⟩ (fun _ _ => trivial)
theorem t73 : ∀ q, q ∈ 77 :: (Kd.int IntKind.u64).E → q ≠ 3 := by
  intro q hq
  have : q ∈ [77] := hq
  simp at this
  omega
theorem bytes_rng (s : ByteArray) : ∀ b ∈ bytesOf s, 0 ≤ b ∧ b < 256 := by
  intro b hb
  obtain ⟨c, _, rfl⟩ := List.mem_map.1 hb
  have := c.toNat_lt
  omega
theorem row4_own {w : World} {base base2 : Nat} {σ : List Nd} {v : Value} {L : List Bool} (h : St w base σ) (hr : Kd.bool.R 4 w base2 (fun _ => True) v L) : ∀ j, v.ownBlock = some j → ¬ Own σ j := by
  rintro j hj ⟨n, hn, ho⟩
  obtain ⟨_, _, _, q, hq, cells, hc⟩ := (Kd.R_bound (Kd.R_tight rfl hr)).1 j hj
  have : q ∈ [4] := hq
  simp at this
  subst this
  have ok := h.node n hn
  obtain ⟨es, ck, hm⟩ := ok.kids
  rcases ho with rfl | rfl | ho
  · rw [ok.blk] at hc
    injection hc with hc
    injection hc with _ h5 _
    exact absurd h5 (by decide)
  · rw [hm.blk] at hc; cases hc
  · obtain ⟨_, _, _, q2, hq2, cells2, hc2⟩ := (Kd.R_bound (Kd.R_tight rfl ok.row)).1 j ho
    have : q2 ∈ [77] := hq2
    simp at this
    subst this
    rw [hc2] at hc
    injection hc with hc
    injection hc with _ h5 _
    exact absurd h5 (by decide)
theorem Top4 {w w8 : World} {base2 tb : Nat} {σ : List Nd} {v : Value} {L : List Bool} (h : Top w tb σ) (hr : Kd.bool.R 4 w base2 (fun _ => True) v L) (hg : w.grownBy w8 v.ownBlock) : Top w8 tb σ := by
  obtain ⟨rb, h1, h2⟩ := h
  refine ⟨rb, (hg.block tb (blk_lt h1) (fun e => ?_)).trans h1, h2⟩
  obtain ⟨_, _, _, q, hq, cells, hc⟩ := (Kd.R_bound (Kd.R_tight rfl hr)).1 tb e.symm
  have : q ∈ [4] := hq
  simp at this
  subst this
  rw [h1] at hc
  injection hc with hc
  injection hc with _ h5 _
  exact absurd h5 (by decide)
theorem take_snoc {α : Type} {l : List α} {i : Nat} {x : α} (h : l[i]? = some x) : l.take (i + 1) = l.take i ++ [x] := by
  obtain ⟨h1, h2⟩ := List.getElem?_eq_some_iff.1 h
  rw [List.take_succ_eq_append_getElem h1, h2]
set_option maxHeartbeats 1200000 in
set_option maxRecDepth 100000 in
theorem turns_calls {w : World} {A0 A1 : Option Addr} {c0 c1 : Nat} {l0 : List S64} {l1 : List ByteArray} (hl : Laid w) (hC0 : T.k64.C w A0 l0.length l0) (hc0 : l0.length ≤ c0) (hC1 : Kd.string.C w A1 l1.length l1) (hc1 : l1.length ≤ c1) (hok : ∀ x ∈ l0, TurnOk x)
    (hsum : (l0.map (fun x => x.f1.size)).sum ≤ 100000000000) (hn : l0.length ≤ 100000000000) (hks : ∀ s ∈ l1, s.size ≤ 1000000000) (hn1 : l1.length ≤ 1000000000) : Calls Tryz.prog 32 #[.slice A0 l0.length c0, .slice A1 l1.length c1] w (RunPost w l0 l1) := by
  have HL := Lib.hid hl
  have HC0 := Lib.hid hC0
  have HC1 := Lib.hid hC1
  have HOK := Lib.hid hok
  have HSUM := Lib.hid hsum
  have HKS := Lib.hid hks
  have hm0 : l0.length ≤ 9223372036854775807 := Kd.C_max hC0
  have kb := fun (s : ByteArray) (W : World) => print_bytes (P := Tryz.prog) 9 58 5 Tryz.underlying9 Tryz.underlying58 Tryz.underlying5 s W
  have hm1 : l1.length ≤ 9223372036854775807 := Kd.C_max hC1
  clear hl hC0 hC1 hok hsum hks
  go_enter Tryz.func32, Tryz.ntmps32
  go_wp2_with fail
  refine (newTrie_calls w).mono ?_
  rintro e w1 ⟨tb, nb, mb, v, rfl, htb, htop, hst, hb1⟩
  have HTOP := Lib.hid htop
  have HST := Lib.hid hst
  have HB1 := Lib.hid hb1
  clear htop hst hb1
  simp only [ptr]
  go_wp2_with fail
  go_loopg [4, 20] l0.length (fun kq v4 v20 wx => RelT w tb l0 kq v4 v20 wx)
  case atStart =>
    refine ⟨0, (fun q => if q = [] then some [] else none), [], _, rfl, Nat.zero_le _, Kd.R_nil _ _ _ _ _, HST.out, HTOP.out, ?_, rfl, Nat.le_refl _, Nat.le_refl _, HB1.out, rfl⟩
    have : Fx.sem [(⟨[], nb, mb, v, []⟩ : Nd)] = fun q => if q = [] then some [] else none := by
      funext q
      unfold Fx.sem
      by_cases hq : q = []
      · simp [at_, hq]
      · simp [at_, hq, Ne.symm hq]
    rw [this]
    exact .nil _
  case round =>
    obtain ⟨i, f, oks, σ, rfl, hi, hrow, hst, htop, hturn, hlen, hsz, htot, hbl, hk⟩ := hrel
    obtain ⟨A4, c4, rfl⟩ := Kd.R_slice hrow
    have HROW := Lib.hid hrow
    have HS := Lib.hid hst
    have HT := Lib.hid htop
    have HTU := Lib.hid hturn
    have HSZ := Lib.hid hsz
    have HTT := Lib.hid htot
    have HBL := Lib.hid hbl
    have HK := Lib.hid hk
    have HLEN := Lib.hid hlen
    clear hrow hst htop hturn hsz htot hbl hk hlen
    by_cases hlt : i < l0.length
    · obtain ⟨ad, rfl, x0, x1, x2, x3⟩ := T.at_T64 (Kd.C_below HC0.out HBL.out) (i : Int) (by omega) (by omega)
      obtain ⟨x, hx⟩ : ∃ x, x = T.rd_T64 l0 (i : Int) := ⟨_, rfl⟩
      rw [← hx] at x0 x1 x2 x3
      have y0 : wr.cell? (ad.add (i * 4)) = some (.int .i64 x.f0) := x0
      have y1 : wr.cell? ⟨(ad.add (i * 4)).block, (ad.add (i * 4)).off + 1, none⟩ = some (.string x.f1) := x1
      have y2 : wr.cell? ⟨(ad.add (i * 4)).block, (ad.add (i * 4)).off + 2, none⟩ = some (.string x.f2) := x2
      have y3 : wr.cell? ⟨(ad.add (i * 4)).block, (ad.add (i * 4)).off + 3, none⟩ = some (.int .i64 x.f3) := x3
      clear x0 x1 x2 x3
      have hxi : l0[i]? = some x := by
        rw [hx, List.getElem?_eq_getElem hlt]
        simp [T.rd_T64, List.getD, hlt]
      have HX := Lib.hid hxi
      have hxo : TurnOk x := HOK.out x (List.mem_of_getElem? hxi)
      have HXO := Lib.hid hxo
      have HSL := Lib.hid (show 1 + ((l0.take i).map (fun x => x.f1.size)).sum ≤ 1000000000000 from by
        have h1 := HSUM.out
        have h2 : ((l0.take i).map (fun x => x.f1.size)).sum ≤ (l0.map (fun x => x.f1.size)).sum := by
          conv => rhs; rw [← List.take_append_drop i l0, List.map_append, List.sum_append]
          omega
        omega)
      clear hx hxi hxo
      go_upto_region 6 with (fail)
      go_cut [11] (fun v11 wc => CutA wr x v11 wc)
      case first =>
        have z2 : (Lib.bytesWorld (wr.alloc (.cells #[.int .i64 x.f0, .string x.f1, .string x.f2, .int .i64 x.f3] 64)) 5 x.f1).cell? ⟨wr.heap.size, 2, none⟩ = some (.string x.f2) := by
          rw [Lib.bytesWorld_old _ _ _ _ (by simp)]
          exact blk_cell (blk_new wr _) 2
        have zs : ∀ o, (Lib.bytesWorld (wr.alloc o) 5 x.f1).heap.size = wr.heap.size + 1 + 1 := fun o => by rw [Lib.bytesWorld_size]; simp
        go_wp2_with fail
        go_meet
        case rel => exact cutA wr x _ rfl rfl HXO.out.size
      case rest =>
        obtain ⟨b11, kb2, cp, rfl, h9, h11, hbw, hlt11, hltk, hcp, hkey⟩ := hcut
        obtain ⟨w3, rfl⟩ : ∃ w3, w3 = wc := ⟨_, rfl⟩
        have hst3 := HS.out.below hbw
        have htop3 := HT.out.below hbw
        have hl3 : Laid w3 := HL.out.below (HBL.out.trans (hbw.mono HBL.out.size))
        have olt : ∀ j, Own σ j → j < wr.heap.size := fun j hj => (HS.out.own_lt hj).2
        have q00 := blk_cell h9 0
        have q01 := blk_cell h9 1
        have q03 := blk_cell h9 3
        have q10 := blk_cell h11 0
        have q11 := blk_cell h11 1
        have HS3 := Lib.hid hst3
        have HT3 := Lib.hid htop3
        have HL3 := Lib.hid hl3
        have OLT := Lib.hid olt
        have HBW := Lib.hid hbw
        have HKEY := Lib.hid hkey
        have HB9 := Lib.hid h9
        have hlen3 : σ.length ≤ 1000000000000 := by have := HSZ.out; have := HSL.out; omega
        have htot3 : total σ ≤ 1000000000000 := by have := HTT.out; omega
        have hl9 := blk_lt h9
        clear hst3 htop3 hl3 olt hbw hkey h9 h11
        go_upto_block 2 with (fail)
        go_cut [10] (fun v10 wc => CutT w3 w.heap.size σ x v10 wc)
        case first =>
          have hz3 : (Lib.bytesWorld w3 5 x.f1).cell? ⟨wr.heap.size, 3, none⟩ = some (.int .i64 x.f3) := by
            rw [Lib.bytesWorld_old _ _ _ _ hl9]
            exact q03
          have hkk : ∀ w', Kp (Lib.bytesWorld w3 5 x.f1) w' (Own σ) → (Kd.int .u8).C w' (some ⟨w3.heap.size, 0, none⟩) (bytesOf x.f1).length (bytesOf x.f1) :=
            key_kept w3 x.f1 HXO.out.size (fun ho => by have := OLT.out _ ho; have := HBW.out.size; omega) _ (Below.refl _ _)
          have hk3 : ∀ w', Kp w3 w' (Own σ) → (Kd.int .u8).C w' (some ⟨kb2, 0, none⟩) (bytesOf x.f1).length (bytesOf x.f1) := HKEY.out _ (fun ho => by have := OLT.out _ ho; omega)
          have hb34 := Lib.bytesWorld_below w3 5 x.f1
          have hbl : (bytesOf x.f1).length = x.f1.size := bytesOf_length _
          have hxs := HXO.out.size
          obtain ⟨⟨g, okb⟩, hpar, hgl⟩ := HXO.out.par
          have hkind : x.f0 = 0 ∨ x.f0 = 1 ∨ x.f0 = 2 ∨ x.f0 = 3 := by have := HXO.out.kind; omega
          have C0 := add_calls (id := IntKind.u64.wrap x.f3) (cap := grownCap w3 x.f1.size 0 5) (HS3.out.below hb34) (HT3.out.below hb34) (HL3.out.below hb34) (by rw [hbl]; exact cap_ge _ _ _) (by omega) hkk htot3
          have C1 := del_calls (id := IntKind.u64.wrap x.f3) (cap := grownCap w3 x.f1.size 0 5) (HS3.out.below hb34) (HT3.out.below hb34) (HL3.out.below hb34) (by rw [hbl]; exact cap_ge _ _ _) (by omega) hkk htot3 hlen3
          have C2 := addMatch_calls (id := IntKind.u64.wrap x.f3) (cap := cp) HS3.out HT3.out HL3.out HXO.out.tok (g, okb) hpar hgl (by rw [hbl]; exact hcp) (by omega) hk3 htot3
          have C3 := delMatch_calls (id := IntKind.u64.wrap x.f3) (cap := cp) HS3.out HT3.out HL3.out HXO.out.tok (g, okb) hpar hgl (by rw [hbl]; exact hcp) (by omega) hk3 htot3 hlen3
          rw [hbl] at C0 C1 C2 C3
          have HC0' := Lib.hid C0
          have HC1' := Lib.hid C1
          have HC2' := Lib.hid C2
          have HC3' := Lib.hid C3
          have HB34 := Lib.hid hb34
          have HPAR := Lib.hid hpar
          have OL3 := Lib.hid (fun j (hj : Own σ j) => (show j ≤ w3.heap.size from by have := OLT.out j hj; have := HBW.out.size; omega))
          have HBLN := Lib.hid hbl
          clear C0 C1 C2 C3 hb34 hpar hkk hk3 hbl
          simp only [ptr] at HC0' HC1' HC2' HC3'
          rcases hkind with hk0 | hk0 | hk0 | hk0
          · have HK0 := Lib.hid hk0
            have he0 : (x.f0 == 0) = true := by rw [hk0]; rfl
            clear hk0
            go_wp2_with fail
            refine HC0'.out.mono ?_
            rintro e w5 ⟨rfl, σ2, hL⟩
            have HLF := Lib.hid hL
            clear hL
            go_wp2_with fail
            go_meet
            case rel => exact ⟨σ2, _, true, .add HK0.out, rfl, lmore (Left.back HB34.out OL3.out HLF.out) (Nat.le_refl _) (Nat.le_refl _)⟩
          · have HK0 := Lib.hid hk0
            have he0 : (x.f0 == 0) = false := by rw [hk0]; rfl
            have he1 : (x.f0 == 1) = true := by rw [hk0]; rfl
            clear hk0
            go_wp2_with fail
            refine HC1'.out.mono ?_
            rintro e w5 hpost
            rcases hpost with ⟨h1, _⟩ | ⟨_, rfl, σ2, hL⟩
            · cases h1
            have HLF := Lib.hid hL
            clear hL
            go_wp2_with fail
            go_meet
            case rel => exact ⟨σ2, _, true, .del HK0.out, rfl, lmore (Left.back HB34.out OL3.out HLF.out) (Nat.le_add_right _ _) (Nat.le_add_right _ _)⟩
          · have HK0 := Lib.hid hk0
            have he0 : (x.f0 == 0) = false := by rw [hk0]; rfl
            have he1 : (x.f0 == 1) = false := by rw [hk0]; rfl
            have he2 : (x.f0 == 2) = true := by rw [hk0]; rfl
            clear hk0
            go_wp2_with fail
            refine HC2'.out.mono ?_
            rintro e w5 hpost
            rcases hpost with ⟨h1, t, p, rfl, h2⟩ | ⟨h1, rfl, σ2, hL⟩
            · have HH := Lib.hid h1
              have H2 := Lib.hid h2
              clear h1 h2
              go_wp2_with fail
              go_meet
              case rel => exact ⟨σ, _, false, .bad (.inl HK0.out) g (by rw [HPAR.out]; rw [show okb = false from HH.out]), err_no _ _, left_none HS3.out H2.out _ _⟩
            · have HH := Lib.hid h1
              have HLF := Lib.hid hL
              clear h1 hL
              go_wp2_with fail
              go_meet
              case rel => exact ⟨σ2, _, true, .addM HK0.out g (by rw [HPAR.out]; rw [show okb = true from HH.out]), rfl, lmore HLF.out (by rw [HBLN.out]; exact Nat.le_refl _) (Nat.le_refl _)⟩
          · have HK0 := Lib.hid hk0
            have he0 : (x.f0 == 0) = false := by rw [hk0]; rfl
            have he1 : (x.f0 == 1) = false := by rw [hk0]; rfl
            have he2 : (x.f0 == 2) = false := by rw [hk0]; rfl
            have he3 : (x.f0 == 3) = true := by rw [hk0]; rfl
            clear hk0
            go_wp2_with fail
            refine HC3'.out.mono ?_
            rintro e w5 hpost
            rcases hpost with ⟨h1, t, p, rfl, h2⟩ | ⟨h1, rfl, σ2, hL⟩
            · have HH := Lib.hid h1
              have H2 := Lib.hid h2
              clear h1 h2
              go_wp2_with fail
              go_meet
              case rel => exact ⟨σ, _, false, .bad (.inr HK0.out) g (by rw [HPAR.out]; rw [show okb = false from HH.out]), err_no _ _, left_none HS3.out H2.out _ _⟩
            · have HH := Lib.hid h1
              have HLF := Lib.hid hL
              clear h1 hL
              go_wp2_with fail
              go_meet
              case rel => exact ⟨σ2, _, true, .delM HK0.out g (by rw [HPAR.out]; rw [show okb = true from HH.out]), rfl, lmore HLF.out (Nat.le_add_right _ _) (Nat.le_add_right _ _)⟩
        case rest =>
          obtain ⟨σ2, f2, ok, hT, herr, hL5⟩ := hcut
          obtain ⟨w5, rfl⟩ : ∃ w5, w5 = wc := ⟨_, rfl⟩
          have hrow3 := Kd.R_below HROW.out HBW.out
          have hno3 := row4_own HS3.out hrow3
          have hrow5 : Kd.bool.R 4 w5 w.heap.size (fun _ => True) (.slice A4 oks.length c4) oks :=
            Kd.R_mono (Kd.R_move (Kd.R_tight rfl hrow3) (fun j hj => hL5.kp.k j (Kd.R_lt hrow3 j hj.symm) (fun ho => hno3 j hj.symm ho))) (fun _ _ => trivial)
          have hB3 := HBL.out.trans (HBW.out.mono HBL.out.size)
          have HBL5 := Lib.hid (hB3.trans (hL5.kp.toBelowB hB3.size (fun j hj => (HS3.out.own_lt hj).1)))
          have HTOP5 := Lib.hid (Top.kept HS3.out HT3.out hL5.kp hL5.root)
          have HROW5 := Lib.hid hrow5
          have HL5 := Lib.hid hL5
          clear hrow3 hno3 hrow5 hB3 hL5 q00 q01 q03 q10 q11 y0 y1 y2 y3
          unfold ErrIs at herr
          cases ok
          · rw [if_neg (by decide)] at herr
            obtain ⟨te, pe, rfl⟩ := herr
            have HTR := Lib.hid hT
            clear hT
            go_wp2_with ((with_reducible refine gate_builtin (b := .append) (xs := #[.tmp 68, .tmp 71]) rfl ?_); at_builtin; refine Kd.R_append Kd.bool (w0 := w) w.heap.size rfl (.tmp 68) (.tmp 71) 25 4 (.bool false) 1 rfl Tryz.underlying25 info4 rfl (by decide) (by omega) (.slice A4 oks.length c4) oks false [.bool false] (fun _ => True) (fun _ => False) rfl rfl ?aP (fun _ hk => hk.elim) ?aF ?aO ?aB ?aS ?aL ?_; (case aP => exact rfl); (case aB => exact HBL5.out); (case aF => exact (fun _ _ => trivial)); (case aO => exact HROW5.out); (case aS => exact HBL5.out.size); (case aL => have := HLEN.out; omega); intro v8 w8 ho hb hg hat; have HO := Lib.hid ho; have HB8 := Lib.hid hb; have HG8 := Lib.hid hg; clear ho hb hg hat)
            go_roundg (l0.length - (i + 1))
            case measure => have := HK.out; omega
            case rel =>
              have hno := row4_own HL5.out.st HROW5.out
              have hse : Fx.sem σ2 = f2 := funext HL5.out.sem
              refine ⟨i + 1, f2, oks ++ [false], σ2, rfl, by omega, HO.out, HL5.out.st.move (fun j hj => HG8.out.block j (HL5.out.st.own_lt hj).2 (fun e => hno j e.symm hj)), Top4 HTOP5.out HROW5.out HG8.out, ?_, by rw [List.length_append, HLEN.out]; rfl, ?_, ?_, HB8.out, rfl⟩
              · rw [take_snoc HX.out, hse]
                exact .snoc HTU.out HTR.out
              · rw [take_snoc HX.out, List.map_append, List.sum_append]
                have h1 := HL5.out.len
                have h2 := HSZ.out
                simp only [List.map_cons, List.map_nil, List.sum_cons, List.sum_nil]
                omega
              · have h1 := HL5.out.tot
                have h2 := HTT.out
                omega
          · rw [if_pos rfl] at herr
            subst herr
            have HTR := Lib.hid hT
            clear hT
            go_wp2_with ((with_reducible refine gate_builtin (b := .append) (xs := #[.tmp 68, .tmp 71]) rfl ?_); at_builtin; refine Kd.R_append Kd.bool (w0 := w) w.heap.size rfl (.tmp 68) (.tmp 71) 25 4 (.bool false) 1 rfl Tryz.underlying25 info4 rfl (by decide) (by omega) (.slice A4 oks.length c4) oks true [.bool true] (fun _ => True) (fun _ => False) rfl rfl ?aP (fun _ hk => hk.elim) ?aF ?aO ?aB ?aS ?aL ?_; (case aP => exact rfl); (case aB => exact HBL5.out); (case aF => exact (fun _ _ => trivial)); (case aO => exact HROW5.out); (case aS => exact HBL5.out.size); (case aL => have := HLEN.out; omega); intro v8 w8 ho hb hg hat; have HO := Lib.hid ho; have HB8 := Lib.hid hb; have HG8 := Lib.hid hg; clear ho hb hg hat)
            go_roundg (l0.length - (i + 1))
            case measure => have := HK.out; omega
            case rel =>
              have hno := row4_own HL5.out.st HROW5.out
              have hse : Fx.sem σ2 = f2 := funext HL5.out.sem
              refine ⟨i + 1, f2, oks ++ [true], σ2, rfl, by omega, HO.out, HL5.out.st.move (fun j hj => HG8.out.block j (HL5.out.st.own_lt hj).2 (fun e => hno j e.symm hj)), Top4 HTOP5.out HROW5.out HG8.out, ?_, by rw [List.length_append, HLEN.out]; rfl, ?_, ?_, HB8.out, rfl⟩
              · rw [take_snoc HX.out, hse]
                exact .snoc HTU.out HTR.out
              · rw [take_snoc HX.out, List.map_append, List.sum_append]
                have h1 := HL5.out.len
                have h2 := HSZ.out
                simp only [List.map_cons, List.map_nil, List.sum_cons, List.sum_nil]
                omega
              · have h1 := HL5.out.tot
                have h2 := HTT.out
                omega
    · obtain ⟨w3, rfl⟩ : ∃ w3, w3 = wr := ⟨_, rfl⟩
      have htk : l0.take i = l0 := List.take_of_length_le (by omega)
      have hturn := HTU.out
      rw [htk] at hturn
      have HTU2 := Lib.hid hturn
      have hlen3 : σ.length ≤ 1000000000000 := by have h1 := HSZ.out; have h2 := HSUM.out; rw [htk] at h1; omega
      have htot3 : total σ ≤ 1000000000000 := by have := HTT.out; omega
      clear htk hturn
      go_wp2_with fail
      go_loopg [5, 76] l1.length (fun kq v5 v76 wx => RelF w3 σ l1 kq v5 v76 wx)
      case atStart => exact ⟨0, [], rfl, Nat.zero_le _, Kd.S_nil _ _ _ _ _, rfl, fun k r h => (by simp at h), Below.refl _ _, rfl⟩
      case round =>
        obtain ⟨j, rows, rfl, hj, hrows, hrl, hall, hbf, hkf⟩ := hrel
        obtain ⟨A5, c5, rfl⟩ := Kd.S_slice hrows
        have HROWS := Lib.hid hrows
        have HALL := Lib.hid hall
        have HBF0 := Lib.hid hbf
        have HKF := Lib.hid hkf
        have HRL := Lib.hid hrl
        clear hrows hall hbf hkf hrl
        obtain ⟨wj, rfl⟩ : ∃ wj, wj = wr := ⟨_, rfl⟩
        by_cases hjl : j < l1.length
        · obtain ⟨ad, rfl, hcell⟩ := Kd.at_string (Kd.C_below HC1.out (HBL.out.trans (HBF0.out.mono HBL.out.size))) (j : Int) (by omega) (by omega)
          obtain ⟨s, hs⟩ : ∃ s, s = rdOf ByteArray.empty l1 (j : Int) := ⟨_, rfl⟩
          have hsj : l1[j]? = some s := by
            rw [hs, List.getElem?_eq_getElem hjl]
            simp [rdOf, List.getD, hjl]
          rw [← hs] at hcell
          have hcs : wj.cell? (ad.add j) = some (.string s) := hcell
          have hsz : s.size ≤ 1000000000 := HKS.out s (List.mem_of_getElem? hsj)
          have HSJ := Lib.hid hsj
          have wz : ∀ o, (wj.alloc o).heap.size = wj.heap.size + 1 := fun o => by simp
          have HB6 := Lib.hid (((Below.refl wj.heap.size wj).alloc (Nat.le_refl _) (.cells #[] 3)).trans ((Lib.bytesWorld_below (wj.alloc (.cells #[] 3)) 5 s).mono (by rw [wz]; omega)))
          have HIDC := Lib.hid (ids_calls (cap := grownCap (wj.alloc (.cells #[] 3)) s.size 0 5) (A := some ⟨(wj.alloc (.cells #[] 3)).heap.size, 0, none⟩) (key := bytesOf s) ((HS.out.below HBF0.out).below HB6.out) ((HT.out.below HBF0.out).below HB6.out) (bytes_rng s)
            (by rw [bytesOf_length]; exact Kd.C_of_reads (d := 0) (bytes_reads _ 5 s (by omega))) (by rw [bytesOf_length]; exact cap_ge _ _ _) (Nat.le_trans (grownCap_le_maxLen _ _ _ _ (by unfold maxLen; omega)) (by unfold maxLen; decide)) htot3)
          rw [bytesOf_length, wz] at HIDC
          clear hs hcell hsj
          simp only [ptr] at HIDC
          go_wp2_with fail
          refine HIDC.out.mono ?_
          rintro e w6 ⟨v84, L, rfl, hr84, hso, hmem, hb6⟩
          have hbz : (Lib.bytesWorld (wj.alloc (.cells #[] 3)) 5 s).heap.size = wj.heap.size + 1 + 1 := by rw [Lib.bytesWorld_size, wz]
          have hrow84 : (Kd.int .u64).R 77 w6 wj.heap.size (fun _ => True) v84 L := Kd.R_lower hr84 (by rw [hbz]; omega)
          obtain ⟨A8, c8, rfl⟩ := Kd.R_slice hrow84
          have hnw := blk_new wj (.cells #[] 3)
          have h6b : w6.heap[wj.heap.size]? = some (.cells #[] 3 (0, 0)) := (hb6.block _ (by rw [hbz]; omega)).trans ((Lib.bytesWorld_at_old _ _ _ _ (by rw [wz]; omega)).trans hnw)
          have h14 : (Kd.int .i64).R 3 w6 wj.heap.size (fun _ => True) (.slice (some ⟨wj.heap.size, 0, none⟩) 0 0) [] := row3_empty h6b (Nat.le_refl _)
          have hll : L.length ≤ 1000000000000 := Nat.le_trans (hit_total (hso.imp (fun h => by omega)) (fun i hi => (hmem i).1 hi)) htot3
          have H14 := Lib.hid h14
          have HR84 := Lib.hid hrow84
          have HFR := Lib.hid (show FoundRow σ (bytesOf s) (L.map Go.RowKit.wrap64) from ⟨L, hso, hmem, rfl⟩)
          have HB7 := Lib.hid (HB6.out.trans (hb6.mono HB6.out.size))
          clear hr84 hso hmem hb6 hbz hrow84 hnw h6b h14 HIDC HB6 hcs
          go_wp2_with fail
          go_loopg [14, 86] L.length (fun kq v14 v86 wx => RelH wj L A8 c8 kq v14 v86 wx)
          case atStart => exact ⟨0, [], rfl, Nat.zero_le _, H14.out, rfl, rfl, HR84.out, HB7.out, rfl⟩
          case round =>
            obtain ⟨q, M, rfl, hq, hrq, hM, hml, hri, hbq, hkq⟩ := hrel
            have HM := Lib.hid hM
            have HML := Lib.hid hml
            clear hM hml
            obtain ⟨A14, c14, rfl⟩ := Kd.R_slice hrq
            have HRQ := Lib.hid hrq
            have HRI := Lib.hid hri
            have HBQ := Lib.hid hbq
            have HKQ := Lib.hid hkq
            clear hrq hri hbq hkq
            by_cases hql : q < L.length
            · obtain ⟨ad8, rfl, hcell⟩ := Kd.at_int (Kd.R_reads' HRI.out).2.2 (q : Int) (by omega) (by omega)
              obtain ⟨y, hy⟩ : ∃ y, y = rd L (q : Int) := ⟨_, rfl⟩
              have hyq : L[q]? = some y := by
                rw [hy, List.getElem?_eq_getElem hql]
                simp [rd, List.getD, hql]
              rw [← hy] at hcell
              have hc8 : wr.cell? (ad8.add q) = some (.int .u64 y) := hcell
              have HY := Lib.hid hyq
              clear hcell hy hyq
              go_wp2_with ((with_reducible refine gate_builtin (b := .append) (xs := #[.tmp 90, .tmp 93]) rfl ?_); at_builtin; refine Kd.R_append (Kd.int .i64) (w0 := wj) wj.heap.size rfl (.tmp 90) (.tmp 93) 44 3 (.int .i64 0) 8 rfl Tryz.underlying44 T.info3 rfl (by decide) (by omega) (.slice A14 M.length c14) M (Go.RowKit.wrap64 y) [.int .i64 (Go.RowKit.wrap64 y)] (fun _ => True) (fun _ => False) rfl rfl ?aP (fun _ hk => hk.elim) ?aF ?aO ?aB ?aS ?aL ?_; (case aP => exact rfl); (case aB => exact HBQ.out); (case aF => exact (fun _ _ => trivial)); (case aO => exact HRQ.out); (case aS => exact HBQ.out.size); (case aL => have := HML.out; omega); intro v8 w8 ho hb hg hat; have HO := Lib.hid ho; have HB8 := Lib.hid hb; have HRI8 := Lib.hid (Kd.R_over HRI.out HRQ.out t73 hg); clear ho hb hg hat)
              go_roundg (L.length - (q + 1))
              case measure => have := HKQ.out; omega
              case rel => exact ⟨q + 1, M ++ [Go.RowKit.wrap64 y], rfl, by omega, HO.out, by rw [take_snoc HY.out, List.map_append, HM.out]; rfl, by rw [List.length_append, HML.out]; rfl, HRI8.out, HB8.out, rfl⟩
            · have hlq : L.take q = L := List.take_of_length_le (by omega)
              have HLQ := Lib.hid hlq
              have hpm : (Kd.slice 3 (Kd.int .i64)).M wr w3.heap.size (fun k => wj.heap.size ≤ k) M [.slice A14 M.length c14] := ⟨_, rfl, Kd.R_lower (Kd.R_mono (Kd.R_bound HRQ.out) (fun k hk => hk.2.1)) HBF0.out.size⟩
              have HPM := Lib.hid hpm
              have hokp : ∀ k, wj.heap.size ≤ k → True ∧ some k ≠ (Value.slice A5 rows.length c5).ownBlock := fun k hk => ⟨trivial, fun e => by have := Kd.R_lt (Kd.S_R HROWS.out) k e.symm; omega⟩
              have HOKP := Lib.hid hokp
              have HSO := Lib.hid (Kd.S_below (Kd.S_mono (Kd.S_bound HROWS.out) (ok' := fun k => True ∧ ¬ wj.heap.size ≤ k) (fun k hk => ⟨trivial, by have := hk.2.2.1; omega⟩)) HBQ.out)
              have HBF := Lib.hid (HBF0.out.trans (HBQ.out.mono HBF0.out.size))
              clear hlq hpm hokp
              go_wp2_with ((with_reducible refine gate_builtin (b := .append) (xs := #[.tmp 96, .tmp 98]) rfl ?_); at_builtin; refine Kd.S_append (Kd.slice 3 (Kd.int .i64)) (w0 := w3) w3.heap.size rfl (.tmp 96) (.tmp 98) 39 44 (.slice none 0 0) 24 rfl Tryz.underlying39 T.info44 rfl (by decide) (by decide) (.slice A5 rows.length c5) rows M [.slice A14 M.length c14] (fun _ => True) (fun k => wj.heap.size ≤ k) rfl rfl HPM.out HOKP.out (fun _ _ => trivial) HSO.out HBF.out HBF.out.size (by have := HRL.out; omega) ?_; intro v8 w8 ho hb hg hat; have HO := Lib.hid ho; have HB8 := Lib.hid hb; clear ho hb hg hat)
              go_roundg (l1.length - (j + 1))
              case measure => have := HKF.out; omega
              case rel =>
                refine ⟨j + 1, rows ++ [M], rfl, by omega, HO.out, by rw [List.length_append, HRL.out]; rfl, fun k r hk => ?_, HB8.out, rfl⟩
                rw [HM.out, HLQ.out] at hk
                have hrl := HRL.out
                by_cases hkl : k < rows.length
                · rw [List.getElem?_append_left hkl] at hk
                  exact HALL.out k r hk
                · rw [List.getElem?_append_right (by omega)] at hk
                  have hk0 : k - rows.length = 0 := by
                    cases hd : k - rows.length with
                    | zero => rfl
                    | succ m => rw [hd] at hk; simp at hk
                  rw [hk0] at hk
                  injection hk with hk
                  subst hk
                  have : k = j := by omega
                  rw [this]
                  exact ⟨s, HSJ.out, HFR.out⟩
        · have HNC := Lib.hid (nodes_calls (HS.out.below HBF0.out) (HT.out.below HBF0.out) hlen3)
          simp only [ptr] at HNC
          have hjn : j = l1.length := by omega
          have HJN := Lib.hid hjn
          clear hjn
          go_wp2_with fail
          refine HNC.out.mono ?_
          rintro e w9 ⟨rfl, hb9⟩
          have HB9 := Lib.hid hb9
          clear hb9 HNC
          go_wp2_with fail
          go_ret3
          exact ⟨_, _, σ, oks, rows, rfl, Kd.R_below (Kd.R_below HROW.out HBF0.out) HB9.out, Kd.S_lower (Kd.S_below HROWS.out HB9.out) HBL.out.size, HS.out.once, HTU2.out, by rw [HRL.out, HJN.out], HALL.out, (HBL.out.trans (HBF0.out.mono HBL.out.size)).trans (HB9.out.mono (HBL.out.trans (HBF0.out.mono HBL.out.size)).size)⟩
end Go.Proofs.YtnoolgbbpekomaaGreatDoor.Rt
namespace Go.Proofs.YtnoolgbbpekomaaGreatDoor.Ho
open Go.RowKit YtnoolgbbpekomaaGreatDoorW.PrintWords YtnoolgbbpekomaaGreatDoorW.PrintLast YtnoolgbbpekomaaGreatDoorW.PrintMore Fr YtnoolgbbpekomaaGreatDoor.Pi Pj Pk
set_option linter.unusedVariables false
set_option linter.unusedSimpArgs false
def HolePost (w : World) (r : List Bool × Bool) (e : Ending) (w' : World) : Prop :=
  ∃ v, e = .returned (.tuple #[v, .bool r.2]) ∧ Kd.bool.R 4 w' w.heap.size (fun _ => True) v r.1 ∧ Below w.heap.size w w'
theorem pib_calls {s : ByteArray} {w : World} (hl : Laid w) (hs : TOk s.data.toList) (r : List Bool × Bool) (h : parse s.data.toList = some r) : Calls Tryz.prog 40 #[.string s] w (HolePost w r) := by
  have HC := Lib.hid (parse_calls hl hs r h)
  clear hl hs h
  go_enter Tryz.func40, Tryz.ntmps40
  go_wp2_with fail
  refine HC.out.mono ?_
  rintro e w2 ⟨v, ev, rfl, hrow, herr, hb⟩
  obtain ⟨A2, c2, rfl⟩ := Kd.R_slice hrow
  have HR := Lib.hid hrow
  have HB := Lib.hid hb
  clear hrow hb HC
  obtain ⟨l, ok⟩ := r
  unfold ErrIs at herr
  cases ok
  · rw [if_neg (by simp)] at herr
    obtain ⟨te, pe, rfl⟩ := herr
    go_wp2_with fail
    repeat (go_quiet (fail); try go_wp2)
    go_ret2
    exact ⟨_, rfl, by first | exact HR.out | exact Kd.R_drew HR.out | exact Kd.R_drewN HR.out _, by first | exact HB.out | exact HB.out.drew | exact pw_below_drewN HB.out _⟩
  · rw [if_pos rfl] at herr
    subst herr
    go_wp2_with fail
    repeat (go_quiet (fail); try go_wp2)
    go_ret2
    exact ⟨_, rfl, by first | exact HR.out | exact Kd.R_drew HR.out | exact Kd.R_drewN HR.out _, by first | exact HB.out | exact HB.out.drew | exact pw_below_drewN HB.out _⟩
theorem holes_calls {s : ByteArray} {w : World} (hl : Laid w) (hs : TOk s.data.toList) (r : List Bool × Bool) (h : parse s.data.toList = some r) : Calls Tryz.prog 17 #[.string s] w (HolePost w r) := by
  have HC := Lib.hid (pib_calls hl hs r h)
  clear hl hs h
  go_enter Tryz.func17, Tryz.ntmps17
  go_wp2_with fail
  refine HC.out.mono ?_
  rintro e w2 ⟨v, rfl, hrow, hb⟩
  have HR := Lib.hid hrow
  have HB := Lib.hid hb
  clear hrow hb HC
  go_wp2_with fail
  go_ret2
  exact ⟨_, rfl, HR.out, HB.out⟩
end Go.Proofs.YtnoolgbbpekomaaGreatDoor.Ho
namespace Go.Proofs.YtnoolgbbpekomaaGreatDoor.Ss
open Go.RowKit YtnoolgbbpekomaaGreatDoorW.PrintWords YtnoolgbbpekomaaGreatDoorW.PrintLast YtnoolgbbpekomaaGreatDoorW.PrintMore Fr Tr Gp Sd Ps YtnoolgbbpekomaaGreatDoor.Pi Pj Fx Rt
set_option linter.unusedVariables false
set_option linter.unusedSimpArgs false
/-- A key finds a number. -/
def HitS (f : Sem_) (key : List Int) (i : Int) : Prop := ∃ q l, f q = some l ∧ mat q key = true ∧ i ∈ l
theorem hit_sem {σ : List Nd} (h : Once σ) (key : List Int) (i : Int) : Hit σ [] key i ↔ HitS (Fx.sem σ) key i := by
  constructor
  · rintro ⟨k, h1, r, h2, h3, h4⟩
    have hp := after_eq.1 h2
    rw [List.nil_append] at hp
    refine ⟨r, k.ids, ?_, h3, h4⟩
    unfold Fx.sem
    rw [← hp, at_mem h h1]
    rfl
  · rintro ⟨q, l, h1, h2, h3⟩
    unfold Fx.sem at h1
    obtain ⟨k, k1, k2⟩ := Option.map_eq_some_iff.1 h1
    obtain ⟨k3, k4⟩ := at_some k1
    exact ⟨k, k3, q, by rw [k4]; rfl, h2, by rw [k2]; exact h3⟩
/-- As many nodes as there are ways. -/
theorem ways_sem {σ : List Nd} (h : Once σ) : ∃ ways : List Wy, ways.Pairwise (· ≠ ·) ∧ (∀ q, q ∈ ways ↔ Fx.sem σ q ≠ none) ∧ ways.length = σ.length := by
  refine ⟨σ.map (·.path), List.pairwise_map.2 h, fun q => ?_, List.length_map _⟩
  rw [List.mem_map]
  constructor
  · rintro ⟨k, h1, rfl⟩
    unfold Fx.sem
    rw [at_mem h h1]
    simp
  · intro hq
    unfold Fx.sem at hq
    cases e : at_ σ q with
    | none => rw [e] at hq; exact absurd rfl hq
    | some k =>
      obtain ⟨k1, k2⟩ := at_some e
      exact ⟨k, k1, k2⟩
theorem oneR_len {out o : List Bool} {e : List UInt8} {b : Bool} (h : oneR out e = some (o, b)) (hl : out.length ≤ 1000001) : o.length ≤ 1000001 := by
  unfold oneR at h
  split at h
  · split at h
    · split at h
      · rename_i hc
        injection h with h
        injection h with h1 h2
        rw [← h1, setN_len, pad_len]
        omega
      · cases h
    · injection h with h
      injection h with h1 h2
      rw [← h1]; exact hl
  · split at h
    · split at h
      · split at h
        · rename_i hc
          injection h with h
          injection h with h1 h2
          rw [← h1, setN_len, pad_len, pad_len]
          omega
        · cases h
      · injection h with h
        injection h with h1 h2
        rw [← h1]; exact hl
    · injection h with h
      injection h with h1 h2
      rw [← h1]; exact hl
  · injection h with h
    injection h with h1 h2
    rw [← h1]; exact hl
theorem parseGo_len : ∀ (l : List (List UInt8)) (out : List Bool) (r : List Bool × Bool), parseGo out l = some r → out.length ≤ 1000001 → r.1.length ≤ 1000001
  | [], out, r, h, hl => by
    unfold parseGo at h
    injection h with h
    rw [← h]; exact hl
  | e :: t, out, r, h, hl => by
    unfold parseGo at h
    cases h1 : oneR out e with
    | none => rw [h1] at h; cases h
    | some p =>
      obtain ⟨o, b⟩ := p
      rw [h1] at h
      have ho := oneR_len h1 hl
      cases b with
      | false =>
        injection h with h
        rw [← h]; exact ho
      | true => exact parseGo_len t o r h ho
theorem parse_len {l : List UInt8} {r : List Bool × Bool} (h : parse l = some r) : r.1.length ≤ 1000001 := by
  unfold parse at h
  split at h
  · injection h with h
    rw [← h]; exact Nat.zero_le _
  · exact parseGo_len _ _ _ h (Nat.zero_le _)
end Go.Proofs.YtnoolgbbpekomaaGreatDoor.Ss
namespace Go.Proofs.YtnoolgbbpekomaaGreatDoor.De
open Go.RowKit Ps YtnoolgbbpekomaaGreatDoor.Pi
set_option linter.unusedVariables false
set_option linter.unusedSimpArgs false
/-- A number in decimal. -/
def dec (n : Nat) : List UInt8 := if h : n < 10 then [UInt8.ofNat (48 + n)] else dec (n / 10) ++ [UInt8.ofNat (48 + n % 10)]
termination_by n
decreasing_by omega
theorem dig_nat {d : Nat} (h : d < 10) : (UInt8.ofNat (48 + d)).toNat = 48 + d := by
  simp
  omega
theorem dec_dig (n : Nat) : ∀ b ∈ dec n, 48 ≤ b.toNat ∧ b.toNat ≤ 57 := by
  induction n using dec.induct with
  | case1 n h =>
    intro b hb
    rw [dec, dif_pos h] at hb
    rw [List.mem_singleton.1 hb, dig_nat h]
    omega
  | case2 n h ih =>
    intro b hb
    rw [dec, dif_neg h] at hb
    rcases List.mem_append.1 hb with hb | hb
    · exact ih b hb
    · rw [List.mem_singleton.1 hb, dig_nat (Nat.mod_lt _ (by decide))]
      have := Nat.mod_lt n (show 10 > 0 by decide)
      omega
theorem dec_ne (n : Nat) : dec n ≠ [] := by
  rw [dec]
  split
  · simp
  · simp
theorem pu_app : ∀ (l1 l2 : List UInt8) (a b : Nat), Lib.parseUint10 a l1 = .ok b → Lib.parseUint10 a (l1 ++ l2) = Lib.parseUint10 b l2
  | [], l2, a, b, h => by
    simp only [Lib.parseUint10] at h
    injection h with h
    rw [h]; rfl
  | c :: t, l2, a, b, h => by
    simp only [List.cons_append, Lib.parseUint10] at h ⊢
    split
    · rename_i h1
      rw [if_pos h1] at h
      split
      · rename_i h2; rw [if_pos h2] at h; cases h
      · rename_i h2
        rw [if_neg h2] at h
        split
        · rename_i h3; rw [if_pos h3] at h; cases h
        · rename_i h3
          rw [if_neg h3] at h
          exact pu_app t l2 _ b h
    · rename_i h1; rw [if_neg h1] at h; cases h
theorem pu_one (a d : Nat) (hd : d < 10) (ha : a * 10 + d ≤ 1000000000000) : Lib.parseUint10 a [UInt8.ofNat (48 + d)] = .ok (a * 10 + d) := by
  simp only [Lib.parseUint10, dig_nat hd]
  rw [if_pos (by omega), if_neg (by omega), if_neg (by omega)]
  congr 1
  omega
theorem pu_dec (n : Nat) (hn : n ≤ 1000000000000) : Lib.parseUint10 0 (dec n) = .ok n := by
  induction n using dec.induct with
  | case1 n h =>
    rw [dec, dif_pos h, pu_one 0 n h (by omega)]
    congr 1
    omega
  | case2 n h ih =>
    have h1 := ih (by omega)
    rw [dec, dif_neg h, pu_app _ _ _ _ h1, pu_one _ _ (Nat.mod_lt _ (by decide)) (by omega)]
    congr 1
    omega
theorem atoi_dec (n : Nat) (hn : n ≤ 1000000000000) : Lib.atoiAll (dec n) = .ok (n : Int) := by
  have hp := pu_dec n hn
  have hd := dec_dig n
  cases e : dec n with
  | nil => exact absurd e (dec_ne n)
  | cons c t =>
    rw [e] at hp hd
    have hc := hd c List.mem_cons_self
    rw [Lib.atoiAll_plain c t (by omega) (by omega)]
    unfold Lib.parseMag
    rw [if_neg (by simp), hp]
    simp only [Lib.signless]
    rw [if_neg (by omega)]
theorem split_none (c : UInt8) : ∀ l : List UInt8, c ∉ l → splitL c l = [l]
  | [], _ => rfl
  | a :: t, h => by
    have h1 : a ≠ c := fun e => h (by rw [e]; exact List.mem_cons_self)
    rw [splitL, if_neg h1, split_none c t (fun e => h (List.mem_cons_of_mem _ e))]
theorem split_app (c : UInt8) (b : List UInt8) : ∀ a : List UInt8, c ∉ a → splitL c (a ++ c :: b) = a :: splitL c b
  | [], _ => by rw [List.nil_append, splitL, if_pos rfl]
  | x :: t, h => by
    have h1 : x ≠ c := fun e => h (by rw [e]; exact List.mem_cons_self)
    rw [List.cons_append, splitL, if_neg h1, split_app c b t (fun e => h (List.mem_cons_of_mem _ e))]
end Go.Proofs.YtnoolgbbpekomaaGreatDoor.De
namespace Go.Proofs.YtnoolgbbpekomaaGreatDoor.Df
open Go.RowKit Ps YtnoolgbbpekomaaGreatDoor.Pi De
set_option linter.unusedVariables false
set_option linter.unusedSimpArgs false
theorem dw_head {l : List UInt8} (h : ∀ a, l.head? = some a → Lib.isSp a = false) : l.dropWhile Lib.isSp = l := by
  cases l with
  | nil => rfl
  | cons a t => rw [List.dropWhile, h a rfl]
theorem trim_ends {l : List UInt8} (hh : ∀ a, l.head? = some a → Lib.isSp a = false) (ht : ∀ a, l.reverse.head? = some a → Lib.isSp a = false) : Lib.trimSpace l = l := by
  unfold Lib.trimSpace
  rw [dw_head hh, dw_head ht, List.reverse_reverse]
theorem trim_id {l : List UInt8} (h : ∀ a ∈ l, Lib.isSp a = false) : Lib.trimSpace l = l :=
  trim_ends (fun a ha => h a (List.mem_of_mem_head? ha)) (fun a ha => h a (List.mem_reverse.1 (List.mem_of_mem_head? ha)))
theorem trim_sp (l : List UInt8) : Lib.trimSpace (32 :: l) = Lib.trimSpace l := by
  unfold Lib.trimSpace
  rw [List.dropWhile]
  rfl
theorem sp_dig {b : UInt8} (h : 45 ≤ b.toNat) : Lib.isSp b = false := by
  have hn : ∀ c : UInt8, c.toNat < 45 → (b == c) = false := fun c hc => by
    rw [beq_eq_false_iff_ne]
    intro e
    rw [e] at h
    omega
  unfold Lib.isSp
  rw [hn 9 (by decide), hn 10 (by decide), hn 11 (by decide), hn 12 (by decide), hn 13 (by decide), hn 32 (by decide)]
  rfl
theorem dec_not (n : Nat) (c : UInt8) (h : c.toNat < 48) : c ∉ dec n := fun hc => by have := (dec_dig n c hc).1; omega
theorem dec_trim (n : Nat) : Lib.trimSpace (dec n) = dec n := trim_id (fun b hb => sp_dig (by have := (dec_dig n b hb).1; omega))
/-- The text of a span. -/
def spanT (d : Bool) (s : Nat × Nat) : List UInt8 := dec s.1 ++ if s.2 > s.1 ∨ d = true then 45 :: dec s.2 else []
theorem span_bytes (d : Bool) (s : Nat × Nat) : ∀ b ∈ spanT d s, 45 ≤ b.toNat ∧ b.toNat ≤ 57 := by
  intro b hb
  rcases List.mem_append.1 hb with hb | hb
  · have := dec_dig _ b hb; omega
  · split at hb
    · rcases List.mem_cons.1 hb with rfl | hb
      · decide
      · have := dec_dig _ b hb; omega
    · cases hb
theorem span_trim (d : Bool) (s : Nat × Nat) : Lib.trimSpace (spanT d s) = spanT d s := trim_id (fun b hb => sp_dig (span_bytes d s b hb).1)
theorem pad_getD (n : Nat) (out : List Bool) (k : Nat) : (padTo n out).getD k false = out.getD k false := by
  unfold padTo
  simp only [List.getD_eq_getElem?_getD]
  by_cases h : k < out.length
  · rw [List.getElem?_append_left h]
  · rw [List.getElem?_append_right (by omega), List.getElem?_eq_none (l := out) (by omega), List.getElem?_replicate]
    split <;> rfl
theorem setN_getD : ∀ (m a : Nat) (out : List Bool) (k : Nat), a + m ≤ out.length → (setN out a m).getD k false = (out.getD k false || decide (a ≤ k ∧ k < a + m))
  | 0, a, out, k, h => by
    have : ¬ (a ≤ k ∧ k < a + 0) := by omega
    rw [setN, decide_eq_false this, Bool.or_false]
  | m + 1, a, out, k, h => by
    rw [setN, setN_getD m (a + 1) _ k (by rw [List.length_set]; omega)]
    simp only [List.getD_eq_getElem?_getD, List.getElem?_set]
    by_cases h1 : a = k
    · subst h1
      rw [if_pos rfl, if_pos (by omega)]
      simp
    · rw [if_neg h1]
      have e : (a + 1 ≤ k ∧ k < a + 1 + m) ↔ (a ≤ k ∧ k < a + (m + 1)) := by omega
      simp only [e]
/-- What a span's text says. -/
theorem one_span (d sp : Bool) (s : Nat × Nat) (out : List Bool) (h1 : s.1 ≤ s.2) (h2 : s.2 ≤ 1000000) : ∃ o, oneR out ((if sp = true then [32] else []) ++ spanT d s) = some (o, true) ∧ ∀ k, o.getD k false = (out.getD k false || decide (s.1 ≤ k ∧ k ≤ s.2)) := by
  have ht : Lib.trimSpace ((if sp = true then [32] else []) ++ spanT d s) = spanT d s := by
    cases sp
    · rw [if_neg (by decide), List.nil_append, span_trim]
    · rw [if_pos rfl]; exact (trim_sp _).trans (span_trim d s)
  by_cases hc : s.2 > s.1 ∨ d = true
  · have hs : splitL 45 (spanT d s) = [dec s.1, dec s.2] := by
      unfold spanT
      rw [if_pos hc, split_app 45 _ _ (dec_not _ _ (by decide)), split_none 45 _ (dec_not _ _ (by decide))]
    refine ⟨setN (padTo (s.2 + 1) (padTo (s.1 + 1) out)) s.1 (s.2 + 1 - s.1), ?_, fun k => ?_⟩
    · unfold oneR
      rw [ht, hs]
      dsimp only
      rw [dec_trim, dec_trim, atoi_dec _ (by omega), atoi_dec _ (by omega)]
      dsimp only
      rw [if_pos (by omega)]
      rfl
    · rw [setN_getD _ _ _ _ (by rw [pad_len]; omega), pad_getD, pad_getD]
      have e : (s.1 ≤ k ∧ k < s.1 + (s.2 + 1 - s.1)) ↔ (s.1 ≤ k ∧ k ≤ s.2) := by omega
      simp only [e]
  · have hs : splitL 45 (spanT d s) = [dec s.1] := by
      unfold spanT
      rw [if_neg hc, List.append_nil, split_none 45 _ (dec_not _ _ (by decide))]
    have h12 : s.2 = s.1 := by
      have : ¬ s.2 > s.1 := fun h => hc (.inl h)
      omega
    refine ⟨setN (padTo (s.1 + 1) out) s.1 1, ?_, fun k => ?_⟩
    · unfold oneR
      rw [ht, hs]
      dsimp only
      rw [dec_trim, atoi_dec _ (by omega)]
      dsimp only
      rw [if_pos (by omega)]
      rfl
    · rw [setN_getD _ _ _ _ (by rw [pad_len]; omega), pad_getD]
      have e : (s.1 ≤ k ∧ k < s.1 + 1) ↔ (s.1 ≤ k ∧ k ≤ s.2) := by omega
      simp only [e]
end Go.Proofs.YtnoolgbbpekomaaGreatDoor.Df
namespace Go.Proofs.YtnoolgbbpekomaaGreatDoor.Dg
open Go.RowKit Ps YtnoolgbbpekomaaGreatDoor.Pi De Df
set_option linter.unusedVariables false
set_option linter.unusedSimpArgs false
def pre (sp : Bool) : List UInt8 := if sp = true then [32] else []
def tailT (sp d : Bool) (t : List (Nat × Nat)) : List UInt8 := t.flatMap fun x => 44 :: (pre sp ++ spanT d x)
/-- The text of spans. -/
def holesT (sp d : Bool) : List (Nat × Nat) → List UInt8
  | [] => []
  | s :: t => spanT d s ++ tailT sp d t
theorem span_no (d sp : Bool) (s : Nat × Nat) : (44 : UInt8) ∉ pre sp ++ spanT d s := by
  intro h
  rcases List.mem_append.1 h with h | h
  · unfold pre at h
    split at h
    · simp at h
    · cases h
  · have := (span_bytes d s _ h).1
    exact absurd this (by decide)
theorem split_tail (sp d : Bool) : ∀ (t : List (Nat × Nat)) (a : List UInt8), (44 : UInt8) ∉ a → splitL 44 (a ++ tailT sp d t) = a :: t.map fun x => pre sp ++ spanT d x
  | [], a, h => by
    unfold tailT
    rw [List.flatMap_nil, List.append_nil, split_none _ _ h]
    rfl
  | x :: t, a, h => by
    have e : a ++ tailT sp d (x :: t) = a ++ 44 :: ((pre sp ++ spanT d x) ++ tailT sp d t) := by
      unfold tailT
      rw [List.flatMap_cons]
      rfl
    rw [e, split_app _ _ _ h, split_tail sp d t _ (span_no d sp x)]
    rfl
theorem holes_end (sp d : Bool) : ∀ (t : List (Nat × Nat)) (s : Nat × Nat), ∃ u x, spanT d s ++ tailT sp d t = u ++ spanT d x
  | [], s => ⟨[], s, by simp [tailT]⟩
  | x :: t, s => by
    obtain ⟨u, y, h⟩ := holes_end sp d t x
    refine ⟨spanT d s ++ 44 :: (pre sp ++ u), y, ?_⟩
    have e : tailT sp d (x :: t) = 44 :: (pre sp ++ spanT d x) ++ tailT sp d t := by
      unfold tailT
      rw [List.flatMap_cons]
    rw [e]
    simp only [List.append_assoc, List.cons_append]
    rw [h]
theorem span_ne (d : Bool) (s : Nat × Nat) : spanT d s ≠ [] := by
  unfold spanT
  intro h
  exact dec_ne _ (List.append_eq_nil_iff.1 h).1
theorem head_app {u v : List UInt8} (hu : u ≠ []) {a : UInt8} (h : (u ++ v).head? = some a) : a ∈ u := by
  cases u with
  | nil => exact absurd rfl hu
  | cons x t =>
    injection h with h
    rw [← h]
    exact List.mem_cons_self
theorem holes_trim (sp d : Bool) (s : Nat × Nat) (t : List (Nat × Nat)) : Lib.trimSpace (holesT sp d (s :: t)) = holesT sp d (s :: t) := by
  refine trim_ends (fun a ha => ?_) (fun a ha => ?_)
  · exact sp_dig (span_bytes d s a (head_app (span_ne d s) ha)).1
  · obtain ⟨u, x, h⟩ := holes_end sp d t s
    have e : (holesT sp d (s :: t)).reverse = (spanT d x).reverse ++ u.reverse := by
      rw [← List.reverse_append, ← h]
      rfl
    rw [e] at ha
    have := head_app (fun e => span_ne d x (List.reverse_eq_nil_iff.1 e)) ha
    exact sp_dig (span_bytes d x a (List.mem_reverse.1 this)).1
def InSpan (l : List (Nat × Nat)) (k : Nat) : Bool := l.any fun s => decide (s.1 ≤ k ∧ k ≤ s.2)
theorem go_spans (sp d : Bool) : ∀ (l : List (Nat × Nat)) (out : List Bool), (∀ s ∈ l, s.1 ≤ s.2 ∧ s.2 ≤ 1000000) → ∃ r, parseGo out (l.map fun x => pre sp ++ spanT d x) = some (r, true) ∧ ∀ k, r.getD k false = (out.getD k false || InSpan l k)
  | [], out, _ => ⟨out, rfl, fun k => by simp [InSpan]⟩
  | s :: t, out, h => by
    obtain ⟨h1, h2⟩ := h s List.mem_cons_self
    obtain ⟨o, ho, hk⟩ := one_span d sp s out h1 h2
    obtain ⟨r, hr, hk2⟩ := go_spans sp d t o (fun x hx => h x (List.mem_cons_of_mem _ hx))
    refine ⟨r, ?_, fun k => ?_⟩
    · rw [List.map_cons, parseGo]
      have ho2 : oneR out (pre sp ++ spanT d s) = some (o, true) := ho
      rw [ho2]
      exact hr
    · rw [hk2, hk]
      unfold InSpan
      rw [List.any_cons, Bool.or_assoc]
/-- What the text of spans says: just their places. -/
theorem parse_holes (sp d : Bool) (l : List (Nat × Nat)) (h : ∀ s ∈ l, s.1 ≤ s.2 ∧ s.2 ≤ 1000000) : ∃ r, parse (holesT sp d l) = some (r, true) ∧ ∀ k, r.getD k false = InSpan l k := by
  cases l with
  | nil => exact ⟨[], rfl, fun k => by simp [InSpan]⟩
  | cons s t =>
    obtain ⟨h1, h2⟩ := h s List.mem_cons_self
    obtain ⟨o, ho, hk⟩ := one_span d false s [] h1 h2
    obtain ⟨r, hr, hk2⟩ := go_spans sp d t o (fun x hx => h x (List.mem_cons_of_mem _ hx))
    refine ⟨r, ?_, fun k => ?_⟩
    · have hne : holesT sp d (s :: t) ≠ [] := fun e => span_ne d s (List.append_eq_nil_iff.1 e).1
      unfold parse
      rw [if_neg hne, holes_trim]
      have e2 : splitL 44 (holesT sp d (s :: t)) = spanT d s :: t.map fun x => pre sp ++ spanT d x := split_tail sp d t _ (fun hm => span_no d false s (List.mem_append.2 (.inr hm)))
      rw [e2, parseGo]
      have ho2 : oneR [] (spanT d s) = some (o, true) := ho
      rw [ho2]
      exact hr
    · rw [hk2, hk]
      unfold InSpan
      rw [List.any_cons]
      simp
end Go.Proofs.YtnoolgbbpekomaaGreatDoor.Dg
namespace Go.Proofs.YtnoolgbbpekomaaGreatDoor.Dh
open Go.RowKit Ps YtnoolgbbpekomaaGreatDoor.Pi De Df Dg
set_option linter.unusedVariables false
set_option linter.unusedSimpArgs false
/-- A word: no byte below the dash, no comma; some byte is no digit and no dash. -/
def WordOk (l : List UInt8) : Prop := (∀ b ∈ l, 45 ≤ b.toNat) ∧ ∃ b ∈ l, 58 ≤ b.toNat
theorem pu_bad : ∀ (l : List UInt8) (a : Nat), (∃ b ∈ l, 58 ≤ b.toNat) → ∀ v, Lib.parseUint10 a l ≠ .ok v
  | [], a, ⟨b, hb, _⟩, v => by cases hb
  | c :: t, a, ⟨b, hb, h⟩, v => by
    simp only [Lib.parseUint10]
    split
    · rename_i h1
      split
      · intro e; cases e
      · split
        · intro e; cases e
        · rcases List.mem_cons.1 hb with rfl | hb
          · omega
          · exact pu_bad t _ ⟨b, hb, h⟩ v
    · intro e; cases e
theorem atoi_bad {l : List UInt8} (h : ∃ b ∈ l, 58 ≤ b.toNat) (hno : (45 : UInt8) ∉ l) (h2 : ∀ b ∈ l, 45 ≤ b.toNat) : ∀ v, Lib.atoiAll l ≠ .ok v := by
  intro v
  cases l with
  | nil => obtain ⟨b, hb, _⟩ := h; cases hb
  | cons c t =>
    have hc := h2 c List.mem_cons_self
    have hc2 : c.toNat ≠ 45 := fun e => hno (by
      have : c = 45 := UInt8.toNat_inj.1 e
      rw [this]; exact List.mem_cons_self)
    rw [Lib.atoiAll_plain c t (by omega) hc2]
    unfold Lib.parseMag
    rw [if_neg (by simp)]
    have hb := pu_bad (c :: t) 0 h
    cases e : Lib.parseUint10 0 (c :: t) with
    | ok u => exact absurd e (hb u)
    | «syntax» => intro e2; cases e2
    | range => intro e2; cases e2
theorem split_has (c : UInt8) : ∀ (l : List UInt8) (b : UInt8), b ∈ l → b ≠ c → ∃ p ∈ splitL c l, b ∈ p
  | [], b, h, _ => by cases h
  | a :: t, b, h, hne => by
    obtain ⟨p, q, e⟩ := split_some c t
    unfold splitL
    by_cases h1 : a = c
    · rw [if_pos h1]
      rcases List.mem_cons.1 h with rfl | h
      · exact absurd h1 hne
      · obtain ⟨x, hx, hb⟩ := split_has c t b h hne
        exact ⟨x, List.mem_cons_of_mem _ hx, hb⟩
    · rw [if_neg h1, e]
      rcases List.mem_cons.1 h with rfl | h
      · exact ⟨_, List.mem_cons_self, List.mem_cons_self⟩
      · obtain ⟨x, hx, hb⟩ := split_has c t b h hne
        rw [e] at hx
        rcases List.mem_cons.1 hx with rfl | hx
        · exact ⟨_, List.mem_cons_self, List.mem_cons_of_mem _ hb⟩
        · exact ⟨x, List.mem_cons_of_mem _ hx, hb⟩
theorem split_free (c : UInt8) : ∀ (l p : List UInt8), p ∈ splitL c l → c ∉ p
  | [], p, h => by
    simp only [splitL, List.mem_singleton] at h
    subst h
    exact List.not_mem_nil
  | a :: t, p, h => by
    have ih := split_free c t
    obtain ⟨x, q, e⟩ := split_some c t
    rw [e] at ih
    unfold splitL at h
    by_cases h1 : a = c
    · rw [if_pos h1, e] at h
      rcases List.mem_cons.1 h with rfl | h
      · exact List.not_mem_nil
      · exact ih p h
    · rw [if_neg h1, e] at h
      rcases List.mem_cons.1 h with rfl | h
      · intro hc
        rcases List.mem_cons.1 hc with hc | hc
        · exact h1 hc.symm
        · exact ih x List.mem_cons_self hc
      · exact ih p (List.mem_cons_of_mem _ h)
theorem one_bad {out : List Bool} {l : List UInt8} (h : WordOk l) : oneR out l = some (out, false) := by
  obtain ⟨h1, b, hb, hb2⟩ := h
  have ht : Lib.trimSpace l = l := trim_id (fun a ha => sp_dig (h1 a ha))
  have hin := split_has 45 l b hb (fun e => by rw [e] at hb2; exact absurd hb2 (by decide))
  have hsub : ∀ p ∈ splitL 45 l, ∀ a ∈ p, 45 ≤ a.toNat := fun p hp a ha => h1 a ((split_sub 45 l p hp).subset ha)
  have hfree := split_free 45 l
  unfold oneR
  rw [ht]
  cases hs : splitL 45 l with
  | nil => rfl
  | cons p q =>
    rw [hs] at hin hsub hfree
    have htp : ∀ x ∈ p :: q, Lib.trimSpace x = x := fun x hx => trim_id (fun a ha => sp_dig (hsub x hx a ha))
    cases q with
    | nil =>
      dsimp only
      obtain ⟨x, hx, hbx⟩ := hin
      rw [List.mem_singleton.1 hx] at hbx
      rw [htp p List.mem_cons_self]
      have hbad := atoi_bad ⟨b, hbx, hb2⟩ (hfree p List.mem_cons_self) (hsub p List.mem_cons_self)
      split
      · rename_i v hv; exact absurd hv (hbad v)
      · rfl
    | cons x y =>
      cases y with
      | cons z zs => rfl
      | nil =>
        dsimp only
        have hpm : p ∈ [p, x] := List.mem_cons_self
        have hxm : x ∈ [p, x] := List.mem_cons_of_mem _ List.mem_cons_self
        rw [htp p hpm, htp x hxm]
        obtain ⟨z, hz, hbz⟩ := hin
        split
        · rename_i u hu
          split
          · rename_i v hv
            rcases List.mem_cons.1 hz with rfl | hz
            · exact absurd hv (atoi_bad ⟨b, hbz, hb2⟩ (hfree _ hpm) (hsub _ hpm) v)
            · rw [List.mem_singleton.1 hz] at hbz
              exact absurd hu (atoi_bad ⟨b, hbz, hb2⟩ (hfree _ hxm) (hsub _ hxm) u)
          · rfl
        · rfl
end Go.Proofs.YtnoolgbbpekomaaGreatDoor.Dh
namespace Go.Proofs.YtnoolgbbpekomaaGreatDoor.Di
open Go.RowKit Ps YtnoolgbbpekomaaGreatDoor.Pi De Df Dg Dh
set_option linter.unusedVariables false
set_option linter.unusedSimpArgs false
theorem word_no {w : List UInt8} (h : WordOk w) : (44 : UInt8) ∉ w := fun hc => absurd (h.1 _ hc) (by decide)
theorem word_ne {w : List UInt8} (h : WordOk w) : w ≠ [] := fun e => by
  obtain ⟨_, b, hb, _⟩ := h
  rw [e] at hb
  cases hb
theorem split_tail2 (sp d : Bool) {w : List UInt8} (hw : (44 : UInt8) ∉ w) : ∀ (t : List (Nat × Nat)) (a : List UInt8), (44 : UInt8) ∉ a → splitL 44 (a ++ tailT sp d t ++ 44 :: w) = (a :: t.map fun x => pre sp ++ spanT d x) ++ [w]
  | [], a, h => by
    unfold tailT
    rw [List.flatMap_nil, List.append_nil, split_app _ _ _ h, split_none _ _ hw]
    rfl
  | x :: t, a, h => by
    have e : a ++ tailT sp d (x :: t) ++ 44 :: w = a ++ 44 :: ((pre sp ++ spanT d x) ++ tailT sp d t ++ 44 :: w) := by
      unfold tailT
      rw [List.flatMap_cons]
      simp only [List.append_assoc, List.cons_append]
    rw [e, split_app _ _ _ h, split_tail2 sp d hw t _ (span_no d sp x)]
    rfl
theorem go_app : ∀ (l1 l2 : List (List UInt8)) (out o : List Bool), parseGo out l1 = some (o, true) → parseGo out (l1 ++ l2) = parseGo o l2
  | [], l2, out, o, h => by
    unfold parseGo at h
    injection h with h
    injection h with h _
    rw [List.nil_append, h]
  | e :: t, l2, out, o, h => by
    rw [List.cons_append, parseGo]
    rw [parseGo] at h
    cases h1 : oneR out e with
    | none => rw [h1] at h; cases h
    | some p =>
      obtain ⟨x, b⟩ := p
      rw [h1] at h
      cases b with
      | false => injection h with h; injection h with _ h; cases h
      | true => exact go_app t l2 x o h
/-- A word alone is refused. -/
theorem parse_word {w : List UInt8} (h : WordOk w) : ∃ r, parse w = some (r, false) := by
  refine ⟨[], ?_⟩
  unfold parse
  rw [if_neg (word_ne h), trim_id (fun a ha => sp_dig (h.1 a ha)), split_none _ _ (word_no h), parseGo, one_bad h]
/-- A word behind spans is refused. -/
theorem parse_bad (sp d : Bool) (s : Nat × Nat) (t : List (Nat × Nat)) {w : List UInt8} (h : ∀ x ∈ s :: t, x.1 ≤ x.2 ∧ x.2 ≤ 1000000) (hw : WordOk w) : ∃ r, parse (holesT sp d (s :: t) ++ 44 :: w) = some (r, false) := by
  obtain ⟨h1, h2⟩ := h s List.mem_cons_self
  obtain ⟨o, ho, _⟩ := one_span d false s [] h1 h2
  obtain ⟨r, hr, _⟩ := go_spans sp d t o (fun x hx => h x (List.mem_cons_of_mem _ hx))
  refine ⟨r, ?_⟩
  have hne : holesT sp d (s :: t) ++ 44 :: w ≠ [] := by simp
  have ht : Lib.trimSpace (holesT sp d (s :: t) ++ 44 :: w) = holesT sp d (s :: t) ++ 44 :: w := by
    refine trim_ends (fun a ha => ?_) (fun a ha => ?_)
    · have e : holesT sp d (s :: t) ++ 44 :: w = spanT d s ++ (tailT sp d t ++ 44 :: w) := by
        show spanT d s ++ tailT sp d t ++ 44 :: w = _
        rw [List.append_assoc]
      rw [e] at ha
      exact sp_dig (span_bytes d s a (head_app (span_ne d s) ha)).1
    · have e : (holesT sp d (s :: t) ++ 44 :: w).reverse = w.reverse ++ (44 :: (holesT sp d (s :: t)).reverse) := by simp
      rw [e] at ha
      have := head_app (fun e => word_ne hw (List.reverse_eq_nil_iff.1 e)) ha
      exact sp_dig (hw.1 a (List.mem_reverse.1 this))
  unfold parse
  rw [if_neg hne, ht]
  have e2 : splitL 44 (holesT sp d (s :: t) ++ 44 :: w) = (spanT d s :: t.map fun x => pre sp ++ spanT d x) ++ [w] := split_tail2 sp d (word_no hw) t _ (fun hm => span_no d false s (List.mem_append.2 (.inr hm)))
  have hgo : parseGo [] (spanT d s :: t.map fun x => pre sp ++ spanT d x) = some (r, true) := by
    rw [parseGo]
    have ho2 : oneR [] (spanT d s) = some (o, true) := ho
    rw [ho2]
    exact hr
  rw [e2, go_app _ _ _ _ hgo, parseGo, one_bad hw]
end Go.Proofs.YtnoolgbbpekomaaGreatDoor.Di
namespace Go.Proofs.YtnoolgbbpekomaaGreatDoor.Em
open Go.RowKit YtnoolgbbpekomaaGreatDoorW.PrintWords YtnoolgbbpekomaaGreatDoorW.PrintLast YtnoolgbbpekomaaGreatDoorW.PrintMore Tr Gp YtnoolgbbpekomaaGreatDoor.Pi Fx Fz Ad Rt Ss
set_option linter.unusedVariables false
set_option linter.unusedSimpArgs false
/-- A number at a way. -/
abbrev En := Wy × Int
def idsAt (E : List En) (q : Wy) : List Int := (E.filter (fun e => decide (e.1 = q))).map (·.2)
def Live (E : List En) (q : Wy) : Prop := q = [] ∨ ∃ e ∈ E, q <+: e.1
open Classical in
/-- What a trie tells that holds these. -/
noncomputable def semE (E : List En) (q : Wy) : Option (List Int) := if Live E q then some (idsAt E q) else none
theorem ids_mem {E : List En} {q : Wy} {i : Int} : i ∈ idsAt E q ↔ (q, i) ∈ E := by
  unfold idsAt
  rw [List.mem_map]
  constructor
  · rintro ⟨e, h1, h2⟩
    obtain ⟨h3, h4⟩ := List.mem_filter.1 h1
    have h5 := of_decide_eq_true h4
    rw [← h5, ← h2]
    exact h3
  · intro h
    exact ⟨(q, i), List.mem_filter.2 ⟨h, decide_eq_true rfl⟩, rfl⟩
theorem ids_dead {E : List En} {q : Wy} (h : ¬ Live E q) : idsAt E q = [] := by
  cases e : idsAt E q with
  | nil => rfl
  | cons i t =>
    have : i ∈ idsAt E q := by rw [e]; exact List.mem_cons_self
    exact absurd (.inr ⟨(q, i), ids_mem.1 this, List.prefix_refl _⟩) h
theorem sem_getD (E : List En) (q : Wy) : (semE E q).getD [] = idsAt E q := by
  unfold semE
  split
  · rfl
  · rename_i h
    rw [ids_dead h]; rfl
theorem ids_snoc (E : List En) (p q : Wy) (i : Int) : idsAt (E ++ [(p, i)]) q = if q = p then idsAt E q ++ [i] else idsAt E q := by
  unfold idsAt
  rw [List.filter_append, List.map_append]
  by_cases h : q = p
  · subst h
    rw [if_pos rfl]
    simp
  · rw [if_neg h]
    have : ¬ p = q := fun e => h e.symm
    simp [this]
theorem live_snoc (E : List En) (p q : Wy) (i : Int) : Live (E ++ [(p, i)]) q ↔ Live E q ∨ q <+: p := by
  unfold Live
  constructor
  · rintro (h | ⟨e, h1, h2⟩)
    · exact .inl (.inl h)
    · rcases List.mem_append.1 h1 with h1 | h1
      · exact .inl (.inr ⟨e, h1, h2⟩)
      · rw [List.mem_singleton.1 h1] at h2
        exact .inr h2
  · rintro ((h | ⟨e, h1, h2⟩) | h)
    · exact .inl h
    · exact .inr ⟨e, List.mem_append.2 (.inl h1), h2⟩
    · exact .inr ⟨(p, i), List.mem_append.2 (.inr (List.mem_singleton.2 rfl)), h⟩
theorem sem_add (E : List En) (p : Wy) (i : Int) : addS p i (semE E) = semE (E ++ [(p, i)]) := by
  funext q
  unfold addS
  rw [sem_getD]
  by_cases h : q = p
  · subst h
    rw [if_pos rfl]
    unfold semE
    rw [if_pos ((live_snoc E q q i).2 (.inr (List.prefix_refl _))), ids_snoc, if_pos rfl]
  · rw [if_neg h]
    unfold growS
    by_cases h2 : q <+: p
    · rw [if_pos h2, sem_getD]
      unfold semE
      rw [if_pos ((live_snoc E p q i).2 (.inr h2)), ids_snoc, if_neg h]
    · rw [if_neg h2]
      unfold semE
      rw [ids_snoc, if_neg h]
      by_cases h3 : Live E q
      · rw [if_pos h3, if_pos ((live_snoc E p q i).2 (.inl h3))]
      · rw [if_neg h3, if_neg (fun h4 => ((live_snoc E p q i).1 h4).elim h3 h2)]
def takeOut (p : Wy) (i : Int) (E : List En) : List En := E.filter (fun e => decide (e ≠ (p, i)))
theorem out_mem {E : List En} {p : Wy} {i : Int} {e : En} : e ∈ takeOut p i E ↔ e ∈ E ∧ e ≠ (p, i) := by
  unfold takeOut
  rw [List.mem_filter, decide_eq_true_iff]
theorem ids_out (E : List En) (p q : Wy) (i : Int) : idsAt (takeOut p i E) q = if q = p then (idsAt E q).filter (fun x => decide (x ≠ i)) else idsAt E q := by
  unfold idsAt takeOut
  rw [List.filter_filter]
  by_cases h : q = p
  · subst h
    rw [if_pos rfl, List.filter_map, List.filter_filter]
    congr 1
    refine List.filter_congr (fun e he => ?_)
    obtain ⟨a, b⟩ := e
    by_cases h1 : a = q
    · subst h1
      simp
    · simp [h1]
  · rw [if_neg h]
    congr 1
    refine List.filter_congr (fun e he => ?_)
    obtain ⟨a, b⟩ := e
    by_cases h1 : a = q
    · subst h1
      simp [h]
    · simp [h1]
theorem sem_del (E : List En) (p : Wy) (i : Int) : pruneS (delS p i (semE E)) = semE (takeOut p i E) := by
  have hd : ∀ q, delS p i (semE E) q = (semE E q).map (fun _ => idsAt (takeOut p i E) q) := by
    intro q
    unfold delS
    rw [ids_out]
    by_cases h : q = p
    · subst h
      rw [if_pos rfl, if_pos rfl]
      unfold semE
      split <;> rfl
    · rw [if_neg h, if_neg h]
      unfold semE
      split <;> rfl
  have hl : ∀ q, Live (takeOut p i E) q → Live E q := by
    rintro q (h | ⟨e, h1, h2⟩)
    · exact .inl h
    · exact .inr ⟨e, (out_mem.1 h1).1, h2⟩
  funext q
  unfold pruneS
  have hc : (q = [] ∨ ∃ t l, delS p i (semE E) (q ++ t) = some l ∧ l ≠ []) ↔ Live (takeOut p i E) q := by
    constructor
    · rintro (h | ⟨t, l, h1, h2⟩)
      · exact .inl h
      · rw [hd] at h1
        obtain ⟨_, _, h3⟩ := Option.map_eq_some_iff.1 h1
        obtain ⟨x, hx⟩ := List.exists_mem_of_ne_nil l h2
        rw [← h3] at hx
        exact .inr ⟨(q ++ t, x), ids_mem.1 hx, List.prefix_append q t⟩
    · rintro (h | ⟨e, h1, t, h2⟩)
      · exact .inl h
      · refine .inr ⟨t, idsAt (takeOut p i E) (q ++ t), ?_, ?_⟩
        · rw [hd]
          have : Live E (q ++ t) := .inr ⟨e, (out_mem.1 h1).1, by rw [h2]; exact List.prefix_refl _⟩
          unfold semE
          rw [if_pos this]; rfl
        · intro h3
          have : e.2 ∈ idsAt (takeOut p i E) (q ++ t) := ids_mem.2 (by rw [h2]; exact h1)
          rw [h3] at this
          cases this
  by_cases h : Live (takeOut p i E) q
  · rw [if_pos (hc.2 h), hd]
    unfold semE
    rw [if_pos h, if_pos (hl q h)]; rfl
  · rw [if_neg (fun h2 => h (hc.1 h2))]
    unfold semE
    rw [if_neg h]
/-- Whether a turn is taken; the way that it goes. -/
def okT (x : S64) : Bool := if x.f0 < 2 then true else ((parse x.f2.data.toList).getD ([], false)).2
def wayT (x : S64) : Wy := if x.f0 < 2 then wy [] (bytesOf x.f1) else wy ((parse x.f2.data.toList).getD ([], false)).1 (bytesOf x.f1)
def idT (x : S64) : Int := IntKind.u64.wrap x.f3
def stepE (E : List En) (x : S64) : List En := if okT x = true then (if x.f0 = 0 ∨ x.f0 = 2 then E ++ [(wayT x, idT x)] else takeOut (wayT x) (idT x) E) else E
def entries (l : List S64) : List En := l.foldl stepE []
theorem step_turn {E : List En} {x : S64} {f2 : Sem_} {ok : Bool} (h : TurnR (semE E) x f2 ok) : f2 = semE (stepE E x) ∧ ok = okT x := by
  cases h with
  | add h =>
    have h1 : okT x = true := by unfold okT; rw [if_pos (by omega)]
    have h2 : wayT x = wy [] (bytesOf x.f1) := by unfold wayT; rw [if_pos (by omega)]
    refine ⟨?_, h1.symm⟩
    unfold stepE
    rw [if_pos h1, if_pos (.inl h), h2]
    exact sem_add _ _ _
  | del h =>
    have h1 : okT x = true := by unfold okT; rw [if_pos (by omega)]
    have h2 : wayT x = wy [] (bytesOf x.f1) := by unfold wayT; rw [if_pos (by omega)]
    refine ⟨?_, h1.symm⟩
    unfold stepE
    rw [if_pos h1, if_neg (by omega), h2]
    exact sem_del _ _ _
  | addM h g hp =>
    have h1 : okT x = true := by unfold okT; rw [if_neg (by omega), hp]; rfl
    have h2 : wayT x = wy g (bytesOf x.f1) := by unfold wayT; rw [if_neg (by omega), hp]; rfl
    refine ⟨?_, h1.symm⟩
    unfold stepE
    rw [if_pos h1, if_pos (.inr h), h2]
    exact sem_add _ _ _
  | delM h g hp =>
    have h1 : okT x = true := by unfold okT; rw [if_neg (by omega), hp]; rfl
    have h2 : wayT x = wy g (bytesOf x.f1) := by unfold wayT; rw [if_neg (by omega), hp]; rfl
    refine ⟨?_, h1.symm⟩
    unfold stepE
    rw [if_pos h1, if_neg (by omega), h2]
    exact sem_del _ _ _
  | bad h g hp =>
    have h1 : okT x = false := by unfold okT; rw [if_neg (by omega), hp]; rfl
    refine ⟨?_, h1.symm⟩
    unfold stepE
    rw [if_neg (by rw [h1]; decide)]
theorem sem_nil : (fun q : Wy => if q = [] then some ([] : List Int) else none) = semE [] := by
  funext q
  unfold semE Live idsAt
  by_cases h : q = []
  · rw [if_pos h, if_pos (.inl h)]; rfl
  · rw [if_neg h, if_neg]
    rintro (h2 | ⟨e, h1, _⟩)
    · exact h h2
    · cases h1
theorem turns_entries {l : List S64} {f f2 : Sem_} {oks : List Bool} (h : TurnsR f l f2 oks) (hf : f = semE []) : f2 = semE (entries l) ∧ oks = l.map okT := by
  induction h with
  | nil => exact ⟨hf, rfl⟩
  | snoc h h2 ih =>
    obtain ⟨h3, h4⟩ := ih
    rw [h3] at h2
    obtain ⟨h5, h6⟩ := step_turn h2
    refine ⟨?_, ?_⟩
    · rw [h5]
      unfold entries
      rw [List.foldl_append]
      rfl
    · rw [h4, h6, List.map_append]
      rfl
/-! The numbers that a key finds, in order, once each. -/
def put (n : Int) : List Int → List Int
  | [] => [n]
  | a :: t => if a < n then a :: put n t else if a = n then a :: t else n :: a :: t
theorem put_mem {n i : Int} : ∀ {l : List Int}, i ∈ put n l ↔ i = n ∨ i ∈ l
  | [] => by simp [put]
  | a :: t => by
    unfold put
    split
    · simp only [List.mem_cons, put_mem (l := t)]
      constructor
      · rintro (h | h | h) <;> simp [h]
      · rintro (h | h | h) <;> simp [h]
    · split
      · rename_i h
        subst h
        simp
      · simp
theorem put_sorted {n : Int} : ∀ {l : List Int}, l.Pairwise (· < ·) → (put n l).Pairwise (· < ·)
  | [], _ => by simp [put]
  | a :: t, h => by
    have ⟨h1, h2⟩ := List.pairwise_cons.1 h
    unfold put
    split
    · rename_i hlt
      refine List.pairwise_cons.2 ⟨fun i hi => ?_, put_sorted h2⟩
      rcases put_mem.1 hi with h3 | h3
      · rw [h3]; exact hlt
      · exact h1 i h3
    · split
      · exact h
      · refine List.pairwise_cons.2 ⟨fun i hi => ?_, h⟩
        rcases List.mem_cons.1 hi with h3 | h3
        · omega
        · have := h1 i h3
          omega
def found (E : List En) (key : List Int) : List Int := E.foldl (fun out e => if mat e.1 key = true then put e.2 out else out) []
theorem found_go (key : List Int) : ∀ (E : List En) (out : List Int), out.Pairwise (· < ·) → (E.foldl (fun out e => if mat e.1 key = true then put e.2 out else out) out).Pairwise (· < ·) ∧ ∀ i, i ∈ E.foldl (fun out e => if mat e.1 key = true then put e.2 out else out) out ↔ i ∈ out ∨ ∃ e ∈ E, mat e.1 key = true ∧ e.2 = i
  | [], out, h => ⟨h, fun i => by simp⟩
  | e :: t, out, h => by
    rw [List.foldl_cons]
    by_cases hm : mat e.1 key = true
    · rw [if_pos hm]
      obtain ⟨h1, h2⟩ := found_go key t (put e.2 out) (put_sorted h)
      refine ⟨h1, fun i => ?_⟩
      rw [h2 i, put_mem]
      constructor
      · rintro ((h3 | h3) | ⟨x, h3, h4⟩)
        · exact .inr ⟨e, List.mem_cons_self, hm, h3.symm⟩
        · exact .inl h3
        · exact .inr ⟨x, List.mem_cons_of_mem _ h3, h4⟩
      · rintro (h3 | ⟨x, h3, h4, h5⟩)
        · exact .inl (.inr h3)
        · rcases List.mem_cons.1 h3 with h6 | h6
          · rw [h6] at h5; exact .inl (.inl h5.symm)
          · exact .inr ⟨x, h6, h4, h5⟩
    · rw [if_neg hm]
      obtain ⟨h1, h2⟩ := found_go key t out h
      refine ⟨h1, fun i => ?_⟩
      rw [h2 i]
      constructor
      · rintro (h3 | ⟨x, h3, h4⟩)
        · exact .inl h3
        · exact .inr ⟨x, List.mem_cons_of_mem _ h3, h4⟩
      · rintro (h3 | ⟨x, h3, h4, h5⟩)
        · exact .inl h3
        · rcases List.mem_cons.1 h3 with h6 | h6
          · rw [h6] at h4; exact absurd h4 hm
          · exact .inr ⟨x, h6, h4, h5⟩
theorem found_sorted (E : List En) (key : List Int) : (found E key).Pairwise (· < ·) := (found_go key E [] List.Pairwise.nil).1
theorem found_mem {E : List En} {key : List Int} {i : Int} : i ∈ found E key ↔ ∃ e ∈ E, mat e.1 key = true ∧ e.2 = i := by
  have := (found_go key E [] List.Pairwise.nil).2 i
  unfold found
  rw [this]
  simp
/-- Two lists in order that have the same numbers are one. -/
theorem sorted_one : ∀ {a b : List Int}, a.Pairwise (· < ·) → b.Pairwise (· < ·) → (∀ i, i ∈ a ↔ i ∈ b) → a = b
  | [], [], _, _, _ => rfl
  | [], y :: b, _, _, h => by have := (h y).2 List.mem_cons_self; cases this
  | x :: a, [], _, _, h => by have := (h x).1 List.mem_cons_self; cases this
  | x :: a, y :: b, ha, hb, h => by
    have ⟨a1, a2⟩ := List.pairwise_cons.1 ha
    have ⟨b1, b2⟩ := List.pairwise_cons.1 hb
    have hxy : x = y := by
      rcases List.mem_cons.1 ((h x).1 List.mem_cons_self) with e | e
      · exact e
      · rcases List.mem_cons.1 ((h y).2 List.mem_cons_self) with e2 | e2
        · exact e2.symm
        · have := b1 x e
          have := a1 y e2
          omega
    subst hxy
    congr 1
    refine sorted_one a2 b2 (fun i => ?_)
    constructor
    · intro hi
      rcases List.mem_cons.1 ((h i).1 (List.mem_cons_of_mem _ hi)) with e | e
      · have := a1 i hi; omega
      · exact e
    · intro hi
      rcases List.mem_cons.1 ((h i).2 (List.mem_cons_of_mem _ hi)) with e | e
      · have := b1 i hi; omega
      · exact e
theorem hit_entries (E : List En) (key : List Int) (i : Int) : HitS (semE E) key i ↔ i ∈ found E key := by
  rw [found_mem]
  constructor
  · rintro ⟨q, l, h1, h2, h3⟩
    unfold semE at h1
    split at h1
    · injection h1 with h1
      rw [← h1] at h3
      exact ⟨(q, i), ids_mem.1 h3, h2, rfl⟩
    · cases h1
  · rintro ⟨e, h1, h2, h3⟩
    refine ⟨e.1, idsAt E e.1, ?_, h2, ids_mem.2 (by rw [← h3]; exact h1)⟩
    unfold semE
    rw [if_pos (.inr ⟨e, h1, List.prefix_refl _⟩)]
/-! The nodes: as many as there are ways. -/
def ways : List En → List Wy
  | [] => [[]]
  | e :: t => (List.range (e.1.length + 1)).foldl (fun W k => if e.1.take k ∈ W then W else W ++ [e.1.take k]) (ways t)
def nodes (E : List En) : Nat := (ways E).length
theorem grow_go (p : Wy) : ∀ (l : List Nat) (W : List Wy), W.Pairwise (· ≠ ·) → (l.foldl (fun W k => if p.take k ∈ W then W else W ++ [p.take k]) W).Pairwise (· ≠ ·) ∧ ∀ q, q ∈ l.foldl (fun W k => if p.take k ∈ W then W else W ++ [p.take k]) W ↔ q ∈ W ∨ ∃ k ∈ l, q = p.take k
  | [], W, h => ⟨h, fun q => by simp⟩
  | k :: l, W, h => by
    rw [List.foldl_cons]
    by_cases hm : p.take k ∈ W
    · rw [if_pos hm]
      obtain ⟨h1, h2⟩ := grow_go p l W h
      refine ⟨h1, fun q => ?_⟩
      rw [h2 q]
      constructor
      · rintro (h3 | ⟨j, h3, h4⟩)
        · exact .inl h3
        · exact .inr ⟨j, List.mem_cons_of_mem _ h3, h4⟩
      · rintro (h3 | ⟨j, h3, h4⟩)
        · exact .inl h3
        · rcases List.mem_cons.1 h3 with h5 | h5
          · rw [h4, h5]; exact .inl hm
          · exact .inr ⟨j, h5, h4⟩
    · rw [if_neg hm]
      have hw : (W ++ [p.take k]).Pairwise (· ≠ ·) := List.pairwise_append.2 ⟨h, List.pairwise_singleton _ _, fun a ha b hb => by rw [List.mem_singleton.1 hb]; intro e; rw [e] at ha; exact hm ha⟩
      obtain ⟨h1, h2⟩ := grow_go p l _ hw
      refine ⟨h1, fun q => ?_⟩
      rw [h2 q, List.mem_append, List.mem_singleton]
      constructor
      · rintro ((h3 | h3) | ⟨j, h3, h4⟩)
        · exact .inl h3
        · exact .inr ⟨k, List.mem_cons_self, h3⟩
        · exact .inr ⟨j, List.mem_cons_of_mem _ h3, h4⟩
      · rintro (h3 | ⟨j, h3, h4⟩)
        · exact .inl (.inl h3)
        · rcases List.mem_cons.1 h3 with h5 | h5
          · rw [h4, h5]; exact .inl (.inr rfl)
          · exact .inr ⟨j, h5, h4⟩
theorem pre_take {q p : Wy} : q <+: p ↔ ∃ k ∈ List.range (p.length + 1), q = p.take k := by
  constructor
  · intro h
    refine ⟨q.length, List.mem_range.2 (by have := h.length_le; omega), ?_⟩
    exact List.prefix_iff_eq_take.1 h
  · rintro ⟨k, _, h⟩
    rw [h]; exact List.take_prefix k p
theorem ways_ok : ∀ E : List En, (ways E).Pairwise (· ≠ ·) ∧ ∀ q, q ∈ ways E ↔ Live E q
  | [] => ⟨List.pairwise_singleton _ _, fun q => by
    unfold ways Live
    rw [List.mem_singleton]
    constructor
    · intro h; exact .inl h
    · rintro (h | ⟨e, h, _⟩)
      · exact h
      · cases h⟩
  | e :: t => by
    obtain ⟨h1, h2⟩ := ways_ok t
    obtain ⟨h3, h4⟩ := grow_go e.1 (List.range (e.1.length + 1)) (ways t) h1
    refine ⟨h3, fun q => ?_⟩
    unfold ways
    rw [h4 q, h2 q, ← pre_take]
    unfold Live
    constructor
    · rintro ((h | ⟨x, h5, h6⟩) | h)
      · exact .inl h
      · exact .inr ⟨x, List.mem_cons_of_mem _ h5, h6⟩
      · exact .inr ⟨e, List.mem_cons_self, h⟩
    · rintro (h | ⟨x, h5, h6⟩)
      · exact .inl (.inl h)
      · rcases List.mem_cons.1 h5 with h7 | h7
        · rw [h7] at h6; exact .inr h6
        · exact .inl (.inr ⟨x, h7, h6⟩)
theorem once_le {α : Type} [DecidableEq α] : ∀ {a b : List α}, a.Pairwise (· ≠ ·) → (∀ x ∈ a, x ∈ b) → a.length ≤ b.length
  | [], b, _, _ => Nat.zero_le _
  | x :: a, b, h, hs => by
    have ⟨h1, h2⟩ := List.pairwise_cons.1 h
    have hx := hs x List.mem_cons_self
    have := once_le (a := a) (b := b.erase x) h2 (fun y hy => (List.mem_erase_of_ne (fun e => h1 y hy e.symm)).2 (hs y (List.mem_cons_of_mem _ hy)))
    rw [List.length_erase_of_mem hx] at this
    have : 0 < b.length := List.length_pos_of_mem hx
    rw [List.length_cons]
    omega
theorem once_same {α : Type} [DecidableEq α] {a b : List α} (ha : a.Pairwise (· ≠ ·)) (hb : b.Pairwise (· ≠ ·)) (h : ∀ x, x ∈ a ↔ x ∈ b) : a.length = b.length :=
  Nat.le_antisymm (once_le ha (fun x hx => (h x).1 hx)) (once_le hb (fun x hx => (h x).2 hx))
theorem nodes_of {σ : List Nd} {E : List En} (h : Once σ) (hs : Fx.sem σ = semE E) : σ.length = nodes E := by
  obtain ⟨W, h1, h2, h3⟩ := ways_sem h
  obtain ⟨h4, h5⟩ := ways_ok E
  rw [← h3]
  refine once_same h1 h4 (fun q => ?_)
  rw [h2 q, h5 q, hs]
  unfold semE
  constructor
  · intro hq
    by_cases h6 : Live E q
    · exact h6
    · rw [if_neg h6] at hq; exact absurd rfl hq
  · intro hq
    rw [if_pos hq]; simp
end Go.Proofs.YtnoolgbbpekomaaGreatDoor.Em
namespace Go.Proofs.YtnoolgbbpekomaaGreatDoor.T
open Go.RowKit YtnoolgbbpekomaaGreatDoorW.PrintWords YtnoolgbbpekomaaGreatDoorW.PrintLast YtnoolgbbpekomaaGreatDoorW.PrintMore
set_option linter.unusedVariables false
open Classical in
noncomputable def impl_Holes.f (a0 : ByteArray) : Option (List Bool × Bool) := if Pi.TOk a0.data.toList then Pi.parse a0.data.toList else none
theorem impl_Holes.calls (a0 : ByteArray) (r1 : List Bool) (r2 : Bool) (w : World) (hl : Pi.Laid w) (h : impl_Holes.f a0 = some (r1, r2)) :
    Calls Tryz.prog 17 #[.string a0] w fun e w' => ∃ v0_ : Value, e = .returned (.tuple #[v0_, .bool r2]) ∧ Kd.R Kd.bool 4 w' w.heap.size (fun _ => True) v0_ r1 ∧ Below w.heap.size w w' := by
  unfold impl_Holes.f at h
  split at h
  · rename_i ht
    exact Ho.holes_calls hl ht (r1, r2) h
  · cases h
/-- What is run of a trie: its turns are taken, and all is of a size. -/
structure RunOk (l0 : List S64) (l1 : List ByteArray) : Prop where
  ok : ∀ x ∈ l0, Rt.TurnOk x
  sum : (l0.map (fun x => x.f1.size)).sum ≤ 100000000000
  len : l0.length ≤ 100000000000
  key : ∀ s ∈ l1, s.size ≤ 1000000000
  keys : l1.length ≤ 1000000000
def rowsOf (l0 : List S64) (l1 : List ByteArray) : List (List Int) := l1.map fun s => (Em.found (Em.entries l0) (bytesOf s)).map Go.RowKit.wrap64
open Classical in
noncomputable def impl_RunTrie.f (l0 : List S64) (l1 : List ByteArray) : Option (List Bool × List (List Int) × Int) :=
  if RunOk l0 l1 then some (l0.map Em.okT, rowsOf l0 l1, (Em.nodes (Em.entries l0) : Int)) else none
theorem impl_RunTrie.calls (A0 : Option Addr) (c0 : Nat) (l0 : List (S64)) (A1 : Option Addr) (c1 : Nat) (l1 : List ByteArray) (r1 : List Bool) (r2 : List (List Int)) (r3 : Int) (w : World) (hr0 : Kd.C k64 w A0 l0.length l0) (hc0 : l0.length ≤ c0) (hr1 : Kd.C Kd.string w A1 l1.length l1) (hc1 : l1.length ≤ c1) (hl : Pi.Laid w) (h : impl_RunTrie.f l0 l1 = some (r1, r2, r3)) :
    Calls Tryz.prog 32 #[.slice A0 l0.length c0, .slice A1 l1.length c1] w fun e w' => ∃ v0_ v1_ : Value, e = .returned (.tuple #[v0_, v1_, .int .i64 r3]) ∧ Kd.R Kd.bool 4 w' w.heap.size (fun _ => True) v0_ r1 ∧ Kd.S (Kd.slice 3 (Kd.int .i64)) 44 w' w.heap.size (fun _ => True) v1_ r2 ∧ Below w.heap.size w w' := by
  unfold impl_RunTrie.f at h
  split at h
  · rename_i ho
    injection h with h
    injection h with h1 h
    injection h with h2 h3
    subst h1
    subst h2
    subst h3
    refine (Rt.turns_calls hl hr0 hc0 hr1 hc1 ho.ok ho.sum ho.len ho.key ho.keys).mono ?_
    rintro e w' ⟨v0, v1, σ, oks, rows, rfl, h1, h2, h3, h4, h5, h6, h7⟩
    obtain ⟨h8, h9⟩ := Em.turns_entries h4 Em.sem_nil
    have hr : rows = rowsOf l0 l1 := by
      refine List.ext_getElem? (fun k => ?_)
      unfold rowsOf
      rw [List.getElem?_map]
      cases e : rows[k]? with
      | none =>
        have : l1[k]? = none := List.getElem?_eq_none_iff.2 (by have := List.getElem?_eq_none_iff.1 e; omega)
        rw [this]; rfl
      | some r =>
        obtain ⟨s, hs, L, hL1, hL2, hL3⟩ := h6 k r e
        rw [hs, hL3]
        have : L = Em.found (Em.entries l0) (bytesOf s) := Em.sorted_one hL1 (Em.found_sorted _ _) (fun i => by
          rw [hL2 i, Ss.hit_sem h3, h8, Em.hit_entries])
        rw [this]; rfl
    refine ⟨v0, v1, ?_, ?_, ?_, h7⟩
    · rw [Em.nodes_of h3 h8]
    · rw [← h9]; exact h1
    · rw [← hr]; exact h2
  · cases h
end Go.Proofs.YtnoolgbbpekomaaGreatDoor.T
