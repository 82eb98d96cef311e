/- A key's version read back: plain. Keys as rows of bytes for the printed contracts. RunLevels at one step: level 0 is chosen. levelsWork: the walk. What LevelsOk gives to those who plan: plain. Arguments that are levels of tables, tables, options, read; what they weigh. Small facts for the laws: sizes of arguments, equal lists. Facts of the program that every row of the levels asks, once. -/
import Derived.Test.YtnineoajmgneiaaGreatZb
import Derived.Test.YtnineoajmgneiaaGreatZc
import Derived.Test.YtnineoajmgneiaaGreatZf
import Derived.Test.YtnineoajmgneiaaGreatZd
import Derived.Test.YtnineoajmgneiaaGreatZe
import Derived.Test.YtnineoajmgneiaaGreatRows
import Derived.WalkKit
import Derived.ProofKit
import Derived.OpenShut
import Derived.JoinedCond
import Derived.Deep.Slices
import Derived.Deep.Fields
import Derived.ChangeSame
namespace Go.Proofs.YtnineoajmgneiaaGreat.Pt
open Go.RowKit YtnineoajmgneiaaGreatW YtnineoajmgneiaaGreatW.PrintWords Fr L Ky
set_option linter.unusedVariables false
set_option linter.unusedSimpArgs false
theorem or_comm2 (k : IntKind) (x y : Int) : Go.bits .or k x y = Go.bits .or k y x := by simp only [Go.bits, BitVec.or_comm]
theorem u16_w {x : Int} (h0 : 0 ≤ x) (h : x < 65536) : IntKind.u16.wrap x = x := by
  have e : IntKind.u16.wrap x = x % 65536 := by simp [IntKind.wrap, IntKind.bits, IntKind.signed]
  rw [e]; omega
theorem u64_w {x : Int} (h0 : 0 ≤ x) (h : x < 18446744073709551616) : IntKind.u64.wrap x = x := by
  rw [IntKind.wrap_u64]; omega
theorem or16 {a b : Int} (h0 : 0 ≤ a) (h1 : a < 256) (h2 : 0 ≤ b) (h3 : b < 256) : Go.bits .or .u16 a (b * 256) = b * 256 + a := by
  rw [or_comm2]
  exact bits_join .u16 16 (by decide) (fun n q q2 => u16_w q (by simpa using q2)) 8 _ _ (by omega) (by omega) (by omega) h0 (by omega) (by omega)
theorem or32 {a b : Int} (h0 : 0 ≤ a) (h1 : a < 65536) (h2 : 0 ≤ b) (h3 : b < 65536) : Go.bits .or .u32 a (b * 65536) = b * 65536 + a := by
  rw [or_comm2]
  exact bits_join .u32 32 (by decide) (fun n q q2 => by rw [IntKind.wrap_u32]; have : n < 4294967296 := by simpa using q2
                                                        omega) 16 _ _ (by omega) (by omega) (by omega) h0 (by omega) (by omega)
theorem or64 {a b : Int} (h0 : 0 ≤ a) (h1 : a < 4294967296) (h2 : 0 ≤ b) (h3 : b < 4294967296) : Go.bits .or .u64 a (b * 4294967296) = b * 4294967296 + a := by
  rw [or_comm2]
  exact bits_join .u64 64 (by decide) (fun n q q2 => u64_w q (by simpa using q2)) 32 _ _ (by omega) (by omega) (by omega) h0 (by omega) (by omega)
theorem be16_f {v : Int} (t : List Int) (h0 : 0 ≤ v) (h1 : v < 65536) : badgery_beUint16.f (be16 v ++ t) = some v := by
  have e0 : PrintWords.rd (be16 v ++ t) 0 = v / 256 := rfl
  have e1 : PrintWords.rd (be16 v ++ t) 1 = v % 256 := rfl
  have hl : (be16 v ++ t).length = t.length + 2 := by simp [be16]
  unfold badgery_beUint16.f
  rw [if_pos (by omega), if_pos (by omega), e0, e1, u16_w (x := v % 256) (by omega) (by omega), u16_w (x := v / 256) (by omega) (by omega), u16_w (x := v / 256 * 256) (by omega) (by omega), or16 (by omega) (by omega) (by omega) (by omega)]
  congr 1
  omega
theorem be32_f {v : Int} (t : List Int) (h0 : 0 ≤ v) (h1 : v < 4294967296) : badgery_beUint32.f (be32 v ++ t) = some v := by
  have hl : (be32 v ++ t).length = t.length + 4 := by simp [be32, be16]
  have e1 : ((be32 v ++ t).take 4).drop 2 = be16 (v % 65536) ++ [] := rfl
  have e2 : be32 v ++ t = be16 (v / 65536) ++ (be16 (v % 65536) ++ t) := by unfold be32; rw [List.append_assoc]
  unfold badgery_beUint32.f
  rw [if_pos (by omega), if_pos (by omega), e1, be16_f _ (by omega) (by omega), e2, be16_f _ (by omega) (by omega)]
  simp only [Option.bind_some]
  rw [show v % 65536 % 4294967296 = v % 65536 by omega, show v / 65536 % 4294967296 * 65536 % 4294967296 = v / 65536 * 65536 by omega, or32 (by omega) (by omega) (by omega) (by omega)]
  congr 1
  omega
theorem be64_f {v : Int} (h0 : 0 ≤ v) (h1 : v < 18446744073709551616) : badgery_beUint64.f (be64 v) = some v := by
  have hl : (be64 v).length = 8 := rfl
  have e1 : ((be64 v).take 8).drop 4 = be32 (v % 4294967296) ++ [] := rfl
  have e2 : be64 v = be32 (v / 4294967296) ++ be32 (v % 4294967296) := rfl
  unfold badgery_beUint64.f
  rw [if_pos (by omega), if_pos (by omega), e1, be32_f _ (by omega) (by omega), e2, be32_f _ (by omega) (by omega)]
  simp only [Option.bind_some]
  rw [u64_w (x := v % 4294967296) (by omega) (by omega), u64_w (x := v / 4294967296) (by omega) (by omega), u64_w (x := v / 4294967296 * 4294967296) (by omega) (by omega), or64 (by omega) (by omega) (by omega) (by omega)]
  congr 1
  omega
/-- The version of a key as it is read back. -/
theorem parseTs_f {x : List Int} {ts : Int} (hx : 0 < x.length) (hn : x.length ≤ 100000000) (h0 : 0 ≤ ts) (h1 : ts ≤ 18446744073709551615) : badgery_ParseTs.f (x ++ be64 (top ts)) = some ts := by
  have hl : (x ++ be64 (top ts)).length = x.length + 8 := by rw [List.length_append, be64_len]
  have e1 : wrap64 (((x ++ be64 (top ts)).length : Int) - 8) = (x.length : Int) := by rw [hl]; unfold wrap64; omega
  unfold badgery_ParseTs.f
  rw [if_neg (by omega), e1, if_pos (by omega), if_pos (by omega), Int.toNat_natCast, List.drop_left, be64_f (top_lo h1) (top_hi h0)]
  simp only [Option.bind_some]
  unfold top
  rw [u64_w (by omega) (by omega)]
  congr 1
  omega
end Go.Proofs.YtnineoajmgneiaaGreat.Pt
namespace Go.Proofs.YtnineoajmgneiaaGreat.Pu
open Go.RowKit YtnineoajmgneiaaGreatW YtnineoajmgneiaaGreatW.PrintWords Fr L Ky Tm Pt
set_option linter.unusedVariables false
set_option linter.unusedSimpArgs false
/-- Bytes as numbers. -/
def nums (x : List UInt8) : List Int := x.map fun u => (u.toNat : Int)
theorem nums_len (x : List UInt8) : (nums x).length = x.length := by simp [nums]
theorem key_C {w : World} {b : Nat} {x : List UInt8} (h : w.heap[b]? = some (keyO x)) (hn : x.length ≤ 100000000) : Kd.C (Kd.int .u8) w (some ⟨b, 0, none⟩) (nums x).length (nums x) := by
  refine Kd.C_of_reads (d := 0) ⟨rfl, by rw [nums_len]; omega, fun hp => ⟨_, rfl, fun j hj => ?_⟩⟩
  rw [nums_len] at hj
  rw [add_off, Nat.zero_add, blk_cell h]
  simp [cells, nums, bv, hj]
theorem nums_be {v : Int} (h0 : 0 ≤ v) (h1 : v < 18446744073709551616) : nums (be64b v) = be64 v := by
  have hb : ∀ n ∈ be64 v, 0 ≤ n ∧ n < 256 := by
    intro n hn
    simp only [be64, be32, be16, List.mem_append, List.mem_cons, List.not_mem_nil, or_false] at hn
    omega
  unfold nums be64b
  rw [List.map_map]
  refine (List.map_congr_left (g := id) (fun n hn => ?_)).trans (List.map_id _)
  have := hb n hn
  simp only [Function.comp, id, UInt8.toNat_ofNat']
  omega
end Go.Proofs.YtnineoajmgneiaaGreat.Pu
namespace Go.Proofs.YtnineoajmgneiaaGreat.Rg
open Go.RowKit YtnineoajmgneiaaGreatW YtnineoajmgneiaaGreatW.PrintWords YtnineoajmgneiaaGreatW.PrintLast YtnineoajmgneiaaGreatW.PrintMore Fr L Ky Tm Lm It Nw Bd Tp Pu Pt Rn
set_option linter.unusedVariables false
set_option linter.unusedSimpArgs false
/-- What holds but for the plan's own blocks. -/
def FrT (w w1 : World) : Prop := Below 0 w w1 ∧ ∀ b, b < w.heap.size → w1.heap[b]? = w.heap[b]?
theorem FrT.of {w w1 : World} (h : Below w.heap.size w w1) : FrT w w1 := ⟨h.mono (Nat.zero_le _), fun b hb => h.block b hb⟩
theorem FrT.trans {w w1 w2 : World} (h : FrT w w1) (k : FrT w1 w2) : FrT w w2 := ⟨h.1.trans k.1, fun b hb => (k.2 b (Nat.lt_of_lt_of_le hb h.1.size)).trans (h.2 b hb)⟩
theorem FrT.below {w w1 : World} (h : FrT w w1) : Below w.heap.size w w1 := ⟨h.1.os, h.1.tape, h.1.output, h.1.size, h.2⟩
/-- New's levels are a plan in which nothing runs. -/
theorem cor_new [Ghost] {w wr : World} {xs : List (List Tb)} {o : Lm.Op} {ob mb sb lp : Nat} {arr : Array Value} (h : NewR w xs o ob mb sb xs.length wr) (hmb : w.heap.size ≤ mb) (hlp : wr.heap[lp]? = some (.cells arr 107 (0, 0))) (hl2 : w.heap.size ≤ lp) (hG : ∀ b, Ghost.g b = wr.heap[b]?) :
  ∃ S lv cv hs cs, Cor wr S wr.heap.size sb ob mb lv cv hs cs o (List.replicate xs.length []) [] ∧ ¬ S lp ∧ hs.map (·.ts) = xs ∧ hs.length = xs.length ∧ cs.length = xs.length ∧ ∀ b, b < w.heap.size → S b := by
 obtain ⟨lv, cv, hs, cs, h1, h2, h3, h4⟩ := h
 rw [List.take_of_length_le (Nat.le_refl _)] at h2
 have hl : hs.length = xs.length := by rw [← h2, List.length_map]
 obtain ⟨S, hS⟩ : ∃ S : Nat → Prop, S = fun b => b < wr.heap.size ∧ b ≠ mb ∧ b ∉ cs ∧ b ≠ lp := ⟨_, rfl⟩
 have inS : ∀ (b : Nat) (ds : Array Value) (t : Nat), wr.heap[b]? = some (.cells ds t (0, 0)) → t ≠ 144 → t ≠ 107 → S b := fun b ds t hb h144 h107 => by
  rw [hS]
  refine ⟨blk_lt hb, fun e => ?_, fun e => ?_, fun e => ?_⟩
  ·rw [e, h1.map] at hb
   injection hb with hb
   cases hb
  ·rw [(h1.st b e).1] at hb
   injection hb with hb
   injection hb with _ e _
   exact h144 e.symm
  ·rw [e, hlp] at hb
   injection hb with hb
   injection hb with _ e _
   exact h107 e.symm
 have inF : ∀ b, Ft wr b → b < wr.heap.size → S b := fun b ⟨ds, t, hb, ht⟩ _ => inS b ds t hb (fun e => by subst e; exact absurd ht (by decide)) (fun e => by subst e; exact absurd ht (by decide))
 have cat : ∀ i, i < cs.length → cAt cs i ∈ cs := fun i hi => by simp [cAt, hi]
 refine ⟨S, lv, cv, hs, cs, ⟨⟨⟨inS _ _ _ h1.ctl (by decide) (by decide), h1.ctl⟩, ⟨inS _ _ _ h1.opt (by decide) (by decide), h1.opt⟩, row_F h1.lr (fun b ds hb => inS b ds _ hb (by decide) (by decide)), row_F h1.cr (fun b ds hb => inS b ds _ hb (by decide) (by decide)), fun i x hx => (h4 i x hx).mono inF⟩, Nat.le_refl _, fun b hb => ?_, fun e => ?_, blk_lt h1.map, fun i hi => ⟨fun e => ?_, blk_lt (h1.st _ (cat i hi)).1⟩, ⟨List.replicate cs.length (.slice none 0 0), ?_⟩, ⟨[], 0, h1.map, rfl, fun x hx => by cases hx⟩, fun b _ => (hG b).symm⟩, fun e => ?_, h2, hl, h3, fun b hb => ?_⟩
 ·rw [hS] at hb; exact hb.1
 ·rw [hS] at e; exact e.2.1 rfl
 ·rw [hS] at e; exact e.2.2.1 (cat i hi)
 ·have hv : ∀ i, i < cs.length → vAt (List.replicate cs.length (.slice none 0 0)) i = .slice none 0 0 := fun i hi => by simp [vAt, hi]
  refine ⟨by simp, by simp [h3], fun i hi => ⟨0, ?_⟩, fun i hi => ?_, fun i j hi hj _ k hk => ?_, fun i j hi hj hne e => ?_⟩
  ·rw [hv i hi]; exact (h1.st _ (cat i hi)).1
  ·rw [hv i hi]
   have : rgAt (List.replicate xs.length []) i = [] := by simp [rgAt, show i < xs.length by omega]
   rw [this]
   exact Kd.R_nil _ _ _ _ _
  ·rw [hv i hi] at hk
   cases hk
  ·have := List.pairwise_iff_getElem.1 h1.pw
   simp only [cAt, List.getD_eq_getElem?_getD, List.getElem?_eq_getElem hi, List.getElem?_eq_getElem hj, Option.getD_some] at e
   rcases Nat.lt_or_gt_of_ne hne with hlt | hlt
   ·exact this i j hi hj hlt e
   ·exact this j i hj hi hlt e.symm
 ·rw [hS] at e; exact e.2.2.2 rfl
 ·rw [hS]
  refine ⟨Nat.lt_of_lt_of_le hb h1.bel.size, by omega, fun e => ?_, by omega⟩
  have := (h1.st b e).2
  omega
theorem ints63_at {l : List Int} (hl : l.length ≤ 1000000) (hb : ∀ x ∈ l, 0 ≤ x ∧ x ≤ 4611686018427387904) : ∀ (m j k : Nat), j + m = l.length → m + 1 ≤ k → impl_ints_uint64.l0 k (l.take j) l (l.length : Int) (j : Int) = some l
 | 0, j, k, hj, hk => by
  obtain ⟨k, rfl⟩ : ∃ q, k = q + 1 := ⟨k - 1, by omega⟩
  rw [impl_ints_uint64.l0, if_neg (by omega), List.take_of_length_le (by omega)]
 | m + 1, j, k, hj, hk => by
  obtain ⟨k, rfl⟩ : ∃ q, k = q + 1 := ⟨k - 1, by omega⟩
  have hjl : j < l.length := by omega
  have hx := hb l[j] (List.getElem_mem hjl)
  have e0 : PrintWords.rd l (j : Int) = l[j] := by simp [PrintWords.rd, hjl]
  have w1 : wrap64 l[j] = l[j] := by unfold wrap64; omega
  have w2 : wrap64 ((j : Int) + 1) = ((j + 1 : Nat) : Int) := by unfold wrap64; omega
  rw [impl_ints_uint64.l0, if_pos (by omega), if_pos (by omega), if_pos (by omega), if_pos (by rw [List.length_take]; omega), e0, w1, w2]
  have e : l.take j ++ [l[j]] = l.take (j + 1) := by rw [List.take_succ_eq_append_getElem hjl]
  rw [e]
  exact ints63_at hl hb m (j + 1) k (by omega) (by omega)
theorem ints63 {l : List Int} (hl : l.length ≤ 1000000) (hb : ∀ x ∈ l, 0 ≤ x ∧ x ≤ 4611686018427387904) : impl_ints_uint64.f (l.length + 1) l = some l := by
 have := ints63_at hl hb l.length 0 (l.length + 1) (by omega) (by omega)
 simpa [impl_ints_uint64.f] using this
theorem parse_any {u : List UInt8} {v : Int} (h0 : 0 ≤ v) (h1 : v ≤ 18446744073709551615) (hn : u.length ≤ 100000000) : ∃ r, badgery_ParseTs.f (Pu.nums (u ++ be64b v)) = some r := by
 have e : Pu.nums (u ++ be64b v) = Pu.nums u ++ be64 v := by
  have h := nums_be (v := v) h0 (by omega)
  unfold Pu.nums at h ⊢
  rw [List.map_append, h]
 rw [e]
 by_cases hu : 0 < u.length
 ·have h := parseTs_f (x := Pu.nums u) (ts := 18446744073709551615 - v) (by rw [nums_len]; exact hu) (by rw [nums_len]; exact hn) (by omega) (by omega)
  have et : top (18446744073709551615 - v) = v := by unfold top; omega
  rw [et] at h
  exact ⟨_, h⟩
 ·have hu : u = [] := List.length_eq_zero_iff.1 (by omega)
  subst hu
  have hl : (Pu.nums [] ++ be64 v).length = 8 := rfl
  refine ⟨0, ?_⟩
  unfold badgery_ParseTs.f
  rw [hl]
  rfl
theorem rg_parse {ts : List Tb} (hp : 0 < ts.length) (hk : ∀ t ∈ ts, KLen t) : (∃ r, badgery_ParseTs.f (Pu.nums (rgOf ts).lo) = some r) ∧ ∃ r, badgery_ParseTs.f (Pu.nums (rgOf ts).hi) = some r := by
 cases ts with
 | nil => simp at hp
 | cons t ts =>
  have a := lo_len hk
  have b := hi_len hk
  exact ⟨parse_any (by decide) (by decide) (by rw [uk_len]; omega), parse_any (by decide) (by decide) (by rw [uk_len]; omega)⟩
theorem key_str {w : World} {b k c : Nat} {x : List UInt8} (h : w.heap[b]? = some (keyO x)) (hk : k ≤ x.length) : (convert 81 9 (.slice (some ⟨b, 0, none⟩) k c)).run Tryz.prog w = .ok (.string (strOfNums (Pu.nums (x.take k)))) w := by
 refine run_convert_bytes_arg w 81 5 Tryz.underlying81 Tryz.underlying5 b 0 k c (Pu.nums (x.take k)) (by rw [nums_len, List.length_take]; omega) (fun i hi => ?_) 9 Tryz.underlying9
 rw [Nat.zero_add, blk_cell h]
 simp [cells, Pu.nums, bv, show i < x.length by omega, show i < k by omega]

def ints63P (l : List Int) : Prop := l.length ≤ 1000000 ∧ impl_ints_uint64.f (l.length + 1) l = some l
theorem ints63_of {l : List Int} (hl : l.length ≤ 1000000) (hb : ∀ x ∈ l, 0 ≤ x ∧ x ≤ 1099511627776) : ints63P l := ⟨hl, ints63 hl (fun x hx => by have := hb x hx; omega)⟩
theorem Nb.drew {w w1 : World} {g : Nat} (h : Nb w w1 g) : Nb w w1.drew g := ⟨h.1.drew, h.2⟩
theorem pts_calls {w : World} {b k c : Nat} {x : List UInt8} {r : Int} (h : w.heap[b]? = some (keyO x)) (hl : x.length = k + 8) (hk : k ≤ 99999992) (hc : k + 8 ≤ c) (hr : badgery_ParseTs.f (Pu.nums x) = some r) :
  Calls Tryz.prog 65 #[.slice (some ⟨b, 0, none⟩) (k + 8) c] w fun e w' => e = .returned (.int .u64 r) ∧ Drawn0 w w' := by
 have K := badgery_ParseTs.calls (some ⟨b, 0, none⟩) c (Pu.nums x) r w (key_C h (by omega)) (by rw [nums_len]; omega) hr
 rw [nums_len, hl] at K
 exact K
theorem rg_len {ts : List Tb} (hp : 0 < ts.length) (hk : ∀ t ∈ ts, KLen t) : (8 ≤ (rgOf ts).lo.length ∧ (rgOf ts).lo.length ≤ 100000000) ∧ 8 ≤ (rgOf ts).hi.length ∧ (rgOf ts).hi.length ≤ 100000000 := by
 cases ts with
 | nil => simp at hp
 | cons t ts =>
  have a := lo_len hk
  have b := hi_len hk
  simp only [rgOf, List.length_append, uk_len, z8_len, f8_len]
  omega
theorem hit_nil (L i : Nat) (r : Rg) : hitR (List.replicate L []) i r = false := by
 have : rgAt (List.replicate L []) i = [] := by
  unfold rgAt
  rw [List.getD_eq_getElem?_getD, List.getElem?_replicate]
  split <;> rfl
 unfold hitR
 rw [this]
 rfl
theorem rgs_nil (L : Nat) : RgsOk (List.replicate L []) := fun l hl => by
 rw [(List.mem_replicate.1 hl).2]
 exact ⟨by simp, fun r hr => by cases hr⟩
theorem map_total {hs : List Hd} {xs : List (List Tb)} (h : hs.map (·.ts) = xs) : (hs.map fun x => total x.ts) = xs.map total := by
 rw [← h, List.map_map]
 rfl
theorem hd_of {hs : List Hd} {xs : List (List Tb)} {i : Nat} {l : List Tb} (h : hs.map (·.ts) = xs) (hl : xs[i]? = some l) : ∃ x, hs[i]? = some x ∧ x.ts = l := by
 rw [← h, List.getElem?_map] at hl
 cases e : hs[i]? with
 | none => rw [e] at hl; cases hl
 | some x =>
  rw [e] at hl
  injection hl with hl
  exact ⟨x, rfl, hl⟩
def bk46 (n : Int) (A4 : Option Addr) (m4 c4 : Nat) (A5 : Option Addr) (m5 c5 : Nat) (s1 : ByteArray) (r1 : Int) (s2 : ByteArray) (r2 : Int) (v : Value) : Array Value := #[.bool true, .int .i64 0, .int .i64 n, .slice A4 m4 c4, .slice A5 m5 c5, .string s1, .int .i64 r1, .string s2, .int .i64 r2, .bool false, v]
structure RuL (w15 wr : World) (k11 : Nat) (f : Value → Array Value) (N : Nat) (A : Option Addr) (nn cc : Nat) (ys : List Int) : Prop where
 nb : Nb w15 wr k11
 blk : wr.heap[k11]? = some (.cells (f (.slice A nn cc)) 46 (0, 0))
 row : Kd.R (Kd.int .i64) 3 wr w15.heap.size (fun _ => True) (.slice A nn cc) ys
 len : ys.length ≤ N
theorem RuL.mono {w15 wr : World} {k11 N M : Nat} {f : Value → Array Value} {A : Option Addr} {nn cc : Nat} {ys : List Int} (h : RuL w15 wr k11 f N A nn cc ys) (hN : N ≤ M) : RuL w15 wr k11 f M A nn cc ys := ⟨h.nb, h.blk, h.row, Nat.le_trans h.len hN⟩
theorem RuL.below {w15 wr w1 : World} {k11 N : Nat} {f : Value → Array Value} {A : Option Addr} {nn cc : Nat} {ys : List Int} (h : RuL w15 wr k11 f N A nn cc ys) (hb : Below wr.heap.size wr w1) : RuL w15 w1 k11 f N A nn cc ys := ⟨h.nb.trans (.of hb _), (hb.block _ (blk_lt h.blk)).trans h.blk, Kd.R_below h.row hb, h.len⟩
theorem RuL.set {w15 wr w1 : World} {k11 N : Nat} {f : Value → Array Value} {A A2 : Option Addr} {nn cc n2 c2 : Nat} {ys : List Int} {y : Int} (h : RuL w15 wr k11 f N A nn cc ys) (hf : ∀ v u, (f v).setIfInBounds 10 u = f u) (hr : Kd.R (Kd.int .i64) 3 w1 w15.heap.size (fun _ => True) (.slice A2 n2 c2) (ys ++ [y])) (hg : wr.grownBy w1 (Value.slice A nn cc).ownBlock) : RuL w15 (w1.setCell ⟨k11, 10, none⟩ (.slice A2 n2 c2)) k11 f (N + 1) A2 n2 c2 (ys ++ [y]) := by
 have hb : w1.heap[k11]? = some (.cells (f (.slice A nn cc)) 46 (0, 0)) := (hg.block k11 (blk_lt h.blk) (fun e => by
  obtain ⟨cs2, hc2⟩ := Kd.R_typed h.row k11 e.symm
  rw [h.blk] at hc2
  injection hc2 with hc2
  injection hc2 with _ e _
  exact absurd e (by decide))).trans h.blk
 refine ⟨Nb.set ⟨h.nb.1.trans ((Below.refl 0 wr).grown hg (Nat.zero_le _) (fun _ _ => Nat.zero_le _)), fun b hb2 hne => ?_⟩ 10 _, ?_, Kd.R_set hr hb (by intro q hq; have : q ∈ [3] := hq; rw [List.mem_singleton.1 this]; decide) 10 _, by rw [List.length_append]; exact Nat.succ_le_succ h.len⟩
 ·refine (hg.block b (Nat.lt_of_lt_of_le hb2 h.nb.1.size) (fun e => ?_)).trans (h.nb.2 b hb2 hne)
  have := Kd.R_base h.row b e.symm
  omega
 ·have h2 := blk_set hb 10 (.slice A2 n2 c2)
  rw [hf] at h2
  exact h2
/-- What one step of level 0 hands back. -/
def Run1Post (w : World) (T B : List Tb) (e : Ending) (w' : World) : Prop := ∃ (v : Value) (x : S46), e = .returned v ∧ Kd.R k46 46 w' w.heap.size (fun _ => True) v [x] ∧ x.f0 = true ∧ x.f3 = T.map (·.num) ∧ x.f4 = B.map (·.num) ∧ FrT w w'
set_option maxRecDepth 100000 in
set_option maxHeartbeats 16000000 in
theorem run1_calls {w : World} {A0 : Option Addr} {gs c0 sc0 n sc fx : Nat} {comp tn dnum : Int} {ls : List (List S68)} {m a b c d e f g : Int} {xs : List (List Tb)} {x0 xn : List Tb}
  (hxs : xs = ls.map (·.map tbOf)) {ok : Nat → Prop} (hF : Kd.F (Kd.slice 68 k68) w ok A0 ls.length ls) (hokt : ∀ k, ok k → ∃ arr t, w.heap[k]? = some (Obj.cells arr t (0, 0)) ∧ t ∉ [144, 126]) (hc0 : ls.length ≤ c0) (hm : m = (xs.length : Int)) (hx : ls.length ≤ 100) (h2 : 2 ≤ ls.length) (hlen : ∀ l ∈ ls, l.length ≤ 10000)
  (hin : ∀ l ∈ ls, ∀ t ∈ l, InTab t) (hord : ∀ (i : Nat) (l : List Tb), xs[i]? = some l → Od.SW l.length (It.ltOf i l) ∧ Od.ord l.length (It.ltOf i l) = List.range l.length) (hg : IntKind.u64.wrap g = g) (hmul : 2 ≤ a) (hbase : 0 ≤ d)
  (q0 : w.cell? ⟨gs, 0, none⟩ = some (.int .i64 0)) (q1 : w.cell? ⟨gs, 1, none⟩ = some (.int .i64 0)) (q2 : w.cell? ⟨gs, 2, none⟩ = some (.int .i64 comp)) (q3 : w.cell? ⟨gs, 3, none⟩ = some (.int .i64 tn)) (q4 : w.cell? ⟨gs, 4, none⟩ = some (.int .i64 dnum))
  (hcv : ∀ W, (convert 3 62 (.int .i64 tn)).run Tryz.prog W = .ok (.float .f64 fx) W) (hq : ∀ W, (binOp .quo 62 (.float .f64 fx) (.float .f64 4621819117588971520)).run Tryz.prog W = .ok (.float .f64 sc) W)
  (e0 : xs[0]? = some x0) (en : xs[n]? = some xn) (hn1 : 1 ≤ n) (hbl : Tg.bl4 ⟨m, a, b, c, d, e, f, g⟩ (xs.map total) = (n : Int)) (hk : ∀ l ∈ xs, ∀ t ∈ l, KLen t)
  (hsc : sc ≤ 9218868437227405312) (hlow : lowF sc = false) (hpos : 0 < x0.length) (hmo : Mono xn (rgOf (takeTop rE x0))) (hle : ltN xn (rgOf (takeTop rE x0)) ≤ rtN xn (rgOf (takeTop rE x0))) :
  Calls Tryz.prog 55 #[.slice A0 ls.length c0, .agg #[.int .i64 m, .int .i64 a, .int .i64 b, .int .i64 c, .int .i64 d, .int .i64 e, .int .i64 f, .int .i64 g], .slice (some ⟨gs, 0, none⟩) 1 sc0] w (Run1Post w (takeTop rE x0) (botL xn (rgOf (takeTop rE x0)))) := by
 have HXL := Lib.hid (show xs.length = ls.length by rw [hxs, List.length_map])
 have HTB := Lib.hid (show ∀ l ∈ xs, l.length ≤ 10000 ∧ ∀ t ∈ l, Fit t by
  intro l hl
  rw [hxs] at hl
  obtain ⟨l0, h0, rfl⟩ := List.mem_map.1 hl
  refine ⟨by rw [List.length_map]; exact hlen l0 h0, fun t ht => ?_⟩
  obtain ⟨t0, h1, rfl⟩ := List.mem_map.1 ht
  exact (tb_ok (hin l0 h0 t0 h1)).2)
 have HNUM := Lib.hid (show ∀ l ∈ xs, ∀ t ∈ l, 0 ≤ t.num ∧ t.num ≤ 1099511627776 by
  intro l hl t ht
  rw [hxs] at hl
  obtain ⟨l0, h0, rfl⟩ := List.mem_map.1 hl
  obtain ⟨t0, h1, rfl⟩ := List.mem_map.1 ht
  exact (hin l0 h0 t0 h1).n0)
 have HLS := Lib.hid (show ∀ l ∈ ls, l.length ≤ 10000 ∧ ∀ t ∈ l, InTab t from fun l hl => ⟨hlen l hl, hin l hl⟩)
 have HSZ := Lib.hid (sizes_ok (xs := xs) (fun l hl => ⟨by have := (HTB.out l hl).1; omega, (HTB.out l hl).2⟩))
 have KB := Lib.hid (fun (W : World) (hW : Below w.heap.size w W) => build_calls (w := W) (m := m) (a := a) (b := b) (c := c) (d := d) (e := e) (f := f) (g := g) hxs (Kd.F_now (Kd.F_below hF hW)) hc0 hm hx (fun l hl => by have := hlen l hl; omega) hin hord hg)
 have HC := Lib.hid hF
 have HFS := Lib.hid (show ∀ W, FrT w W → ∀ k, ok k → k < w.heap.size → W.heap[k]? = w.heap[k]? from fun W hW k hk hl => hW.2 k hl)
 have HX := Lib.hid (show 2 ≤ ls.length ∧ ls.length ≤ 100 ∧ ls.length ≤ c0 from ⟨h2, hx, hc0⟩)
 have HS := Lib.hid (And.intro q0 (And.intro q1 (And.intro q2 (And.intro q3 q4))))
 have HCV := Lib.hid hcv
 have HQU := Lib.hid hq
 have HE0 := Lib.hid e0
 have HEN := Lib.hid en
 have HN1 := Lib.hid hn1
 have HBL := Lib.hid hbl
 have HK := Lib.hid hk
 have HSC := Lib.hid hsc
 have HLOW := Lib.hid hlow
 have HPOS := Lib.hid hpos
 have HMO := Lib.hid hmo
 have HLE := Lib.hid hle
 have HOP := Lib.hid (show 2 ≤ a ∧ 0 ≤ d from ⟨hmul, hbase⟩)
 obtain ⟨Q, hQ⟩ : ∃ Q, Q = Run1Post w (takeTop rE x0) (botL xn (rgOf (takeTop rE x0))) := ⟨_, rfl⟩
 rw [← hQ]
 have HQ := Lib.hid hQ
 clear hQ hxs hF hokt hc0 hm hx h2 hlen hin hord hg q0 q1 q2 q3 q4 hcv hq e0 en hn1 hbl hk hsc hlow hpos hmo hle hmul hbase
 go_enter Tryz.func55, Tryz.ntmps55
 go_upto_region 1 with (fail)
 obtain ⟨w1, hw1⟩ : ∃ w1, w1 = w.alloc (.cells #[.int .i64 m, .int .i64 a, .int .i64 b, .int .i64 c, .int .i64 d, .int .i64 e, .int .i64 f, .int .i64 g] 24) := ⟨_, rfl⟩
 rw [← hw1]
 obtain ⟨b4, hb4⟩ : ∃ b4, b4 = w.heap.size := ⟨_, rfl⟩
 rw [← hb4]
 have HB1 := Lib.hid (show Below w.heap.size w w1 by rw [hw1]; exact below_alloc (Below.refl _ _) _)
 have HO4 := Lib.hid (show w1.heap[b4]? = some (.cells #[.int .i64 m, .int .i64 a, .int .i64 b, .int .i64 c, .int .i64 d, .int .i64 e, .int .i64 f, .int .i64 g] 24 (0, 0)) by rw [hw1, hb4]; exact blk_new w _)
 clear hw1 hb4
 have o0 := blk_cell HO4.out 0
 have o1 := blk_cell HO4.out 1
 have o2 := blk_cell HO4.out 2
 have o3 := blk_cell HO4.out 3
 have o4 := blk_cell HO4.out 4
 have o5 := blk_cell HO4.out 5
 have o6 := blk_cell HO4.out 6
 have o7 := blk_cell HO4.out 7
 go_wp2_with fail
 refine (KB.out w1 HB1.out).mono ?_
 rintro e2 w2 ⟨W, hW, lp, sb, ob, mb, rfl, hnr, hlp, hl1, hl2⟩
 have HB2 := Lib.hid (show Below w.heap.size w w2 by
  obtain ⟨lv, cv, hs, cs, hq1, hq2, hq3, hq4⟩ := hnr
  exact below_step HB1.out (hW.trans (hq1.bel.mono hW.size)))
 have HLW := Lib.hid (show w.heap.size ≤ lp from Nat.le_trans HB1.out.size (Nat.le_trans hW.size hl1))
 obtain ⟨gh, hgh⟩ : ∃ gh : Ghost, ∀ b, gh.g b = w2.heap[b]? := ⟨⟨fun b => w2.heap[b]?⟩, fun _ => rfl⟩
 obtain ⟨S, lv, cv, hs, cs, hcor, hSl, hts, hhl, hcl, hsa⟩ := cor_new hnr hl2 hlp hl1 hgh
 have HSA := Lib.hid (show ∀ b, b < w.heap.size → S b from fun b hb => hsa b (Nat.lt_of_lt_of_le hb (Nat.le_trans HB1.out.size hW.size)))
 have H2 := Lib.hid hcor
 have HLP2 := Lib.hid hlp
 have HSL := Lib.hid hSl
 have HTS := Lib.hid hts
 have HHL := Lib.hid (show hs.length = ls.length ∧ cs.length = ls.length from ⟨hhl.trans HXL.out, hcl.trans HXL.out⟩)
 clear hW hnr hlp hl1 hl2 hcor hSl hts hhl hcl hsa hgh o0 o1 o2 o3 o4 o5 o6 o7 HO4 KB
 obtain ⟨n0, hn0⟩ : ∃ n0, n0 = w2.heap.size := ⟨_, rfl⟩
 rw [← hn0] at H2
 have HN0 := Lib.hid hn0
 clear hn0
 simp only [ptr]
 go_upto_region 3 with (first | ((with_reducible refine gate_dst (N := 21) rfl ?_); refine Kd.R_lit k46 (w0 := w2) w2.heap.size 46 ?hg (N := 21) ?hd (xs := ([] : List S46)) (inner := []) (ok := fun _ => True) (okp := fun _ => True) ?hr ?hp (fun _ hk => hk) trivial (Below.refl _ _) (Nat.le_refl _) (by simp) ?_; (case hd => rfl); (case hg => rfl); (case hr => first | (go_simp; done) | (go_simp; rfl)); (case hp => exact (Reps.none _ _)); intro v8 w3 ho hb hg_ hnew_; have HR3 := Lib.hid ho; have HB3 := Lib.hid hb; clear hg_ hnew_ ho hb))
 obtain ⟨n8, A8, c8, hv8⟩ : ∃ n A c, v8 = .slice A n c := (by obtain ⟨A, c, e⟩ := Kd.R_slice HR3.out; exact ⟨_, A, c, e⟩)
 subst hv8
 go_wp2_with fail
 go_loopg [8, 24] 1 (fun kq v8 v24 wr => ∃ (j : Nat) (n8 : Nat) (A8 : Option Addr) (c8 : Nat), v8 = .slice A8 n8 c8 ∧ v24 = .int .i64 (j : Int) ∧ Aside0 (j + kq = 1 ∧ FrT w wr ∧ ((j = 0 ∧ Kd.R k46 46 wr w2.heap.size (fun _ => True) v8 [] ∧ Below w2.heap.size w2 wr) ∨ (j = 1 ∧ ∃ x, Kd.R k46 46 wr w.heap.size (fun _ => True) v8 [x] ∧ x.f0 = true ∧ x.f3 = (takeTop rE x0).map (·.num) ∧ x.f4 = (botL xn (rgOf (takeTop rE x0))).map (·.num)))))
 case atStart => exact ⟨0, n8, A8, c8, rfl, rfl, ⟨rfl, .of (below_step HB2.out HB3.out), .inl ⟨rfl, HR3.out, HB3.out⟩⟩⟩
 case round =>
  clear HR3 HB3
  obtain ⟨j, n8, A8, c8, rfl, rfl, HJ⟩ := hrel
  obtain ⟨hjk, hfr, hor⟩ := HJ.out
  clear HJ
  rcases hor with ⟨rfl, hr, hb⟩ | ⟨rfl, x, hr, hx0, hx3, hx4⟩
  ·have HR3 := Lib.hid hr
   have HB3 := Lib.hid hb
   have hgk : gk = 1 := by omega
   subst hgk
   clear hr hb hfr hjk
   have hup : ∀ {i : Nat} {v : Value}, w.cell? ⟨gs, i, none⟩ = some v → wr.cell? ⟨gs, i, none⟩ = some v := fun {i v} h => ((below_step HB2.out HB3.out).cell (World.block_lt_of_cell? w _ h)).trans h
   have k0 := hup HS.out.1
   have k1 := hup HS.out.2.1
   have k2 := hup HS.out.2.2.1
   have k3 := hup HS.out.2.2.2.1
   have k4 := hup HS.out.2.2.2.2
   clear hup
   go_upto_region 7 with (fail)
   obtain ⟨w4, hw4⟩ : ∃ w4, w4 = (wr.alloc (.cells #[.int .i64 0, .int .i64 0, .int .i64 comp, .int .i64 tn, .int .i64 dnum] 42)).alloc (.cells #[.bool false, .int .i64 0, .int .i64 0, .slice none 0 0, .slice none 0 0, .string ⟨#[]⟩, .int .i64 0, .string ⟨#[]⟩, .int .i64 0, .bool false, .slice none 0 0] 46) := ⟨_, rfl⟩
   rw [← hw4]
   obtain ⟨k10, hk10⟩ : ∃ b, b = wr.heap.size := ⟨_, rfl⟩
   obtain ⟨k11, hk11⟩ : ∃ b, b = wr.heap.size + 1 := ⟨_, rfl⟩
   rw [← hk11, ← hk10]
   have HB4 := Lib.hid (show Below wr.heap.size wr w4 by rw [hw4]; exact below_alloc (below_alloc (Below.refl _ _) _) _)
   have HX4 := Lib.hid (show w4.heap[k11]? = some (.cells #[.bool false, .int .i64 0, .int .i64 0, .slice none 0 0, .slice none 0 0, .string ⟨#[]⟩, .int .i64 0, .string ⟨#[]⟩, .int .i64 0, .bool false, .slice none 0 0] 46 (0, 0)) by
    have h := blk_new (wr.alloc (.cells #[.int .i64 0, .int .i64 0, .int .i64 comp, .int .i64 tn, .int .i64 dnum] 42)) (.cells #[.bool false, .int .i64 0, .int .i64 0, .slice none 0 0, .slice none 0 0, .string ⟨#[]⟩, .int .i64 0, .string ⟨#[]⟩, .int .i64 0, .bool false, .slice none 0 0] 46)
    rw [hw4, hk11]
    simpa using h)
   have HY4 := Lib.hid (show w4.heap[k10]? = some (.cells #[.int .i64 0, .int .i64 0, .int .i64 comp, .int .i64 tn, .int .i64 dnum] 42 (0, 0)) by
    have h := blk_new wr (.cells #[.int .i64 0, .int .i64 0, .int .i64 comp, .int .i64 tn, .int .i64 dnum] 42)
    rw [hw4, hk10]
    exact ((below_alloc (Below.refl _ _) _).block _ (blk_lt h)).trans h)
   have HKK := Lib.hid (show w2.heap.size ≤ k10 ∧ k10 < k11 ∧ wr.heap.size ≤ k10 by have := HB3.out.size; omega)
   clear hw4 hk10 hk11 k0 k1 k2 k3 k4
   have hb24 := below_step HB3.out HB4.out
   have HB24 := Lib.hid hb24
   have H4 := Lib.hid (H2.out.below hb24)
   have HLP4 := Lib.hid ((hb24.block _ (blk_lt HLP2.out)).trans HLP2.out)
   obtain ⟨h0, he0, ht0⟩ := hd_of HTS.out HE0.out
   obtain ⟨hn, hen, htn⟩ := hd_of HTS.out HEN.out
   subst ht0
   subst htn
   have K62 := Lib.hid (fill0_calls (w := w4) (comp := comp) (sc := sc) H4.out HLP4.out HSL.out (Kd.R_nil ptrO _ _ _ _) (by simp) he0 hen HN1.out (by rw [map_total HTS.out]; exact HBL.out) HOP.out.1 HOP.out.2 (by have := HHL.out; have := HX.out; omega) (by have := HHL.out; have := HX.out; omega) (by rw [map_total HTS.out]; exact HSZ.out)
    (fun x hx => by
     have hm : x.ts ∈ xs := by rw [← HTS.out]; exact List.mem_map_of_mem hx
     exact ⟨(HTB.out _ hm).1, HK.out _ hm⟩) (by have := HHL.out; omega) (rgs_nil _) HSC.out HLOW.out HPOS.out HMO.out HLE.out (hit_nil _ _ _) (hit_nil _ _ _))
   have l1 := blk_cell HY4.out 1
   have l2 := blk_cell HY4.out 2
   have l3 := blk_cell HY4.out 3
   have l0 := blk_cell HY4.out 0
   have xcv := HCV.out
   have xq := HQU.out
   clear he0 hen hb24
   go_wp2_with fail
   refine K62.out.mono ?_
   rintro e5 w5 ⟨d2, tops, bots, cdb, v1, v2, v3, dA2, dn2, dc2, rfl, g1, g2, g3, g4, g5, g6, g7, g8, g9, g10, g11, g12, g13⟩
   obtain ⟨m1, A1, c1, hv1⟩ : ∃ n A c, v1 = .slice A n c := (by obtain ⟨A, c, e⟩ := Kd.R_slice g1; exact ⟨_, A, c, e⟩)
   obtain ⟨m2, A2, c2, hv2⟩ : ∃ n A c, v2 = .slice A n c := (by obtain ⟨A, c, e⟩ := Kd.R_slice g2; exact ⟨_, A, c, e⟩)
   obtain ⟨A3, m3, c3, hv3⟩ := g3
   subst hv1
   subst hv2
   subst hv3
   have HV1 := Lib.hid g1
   have HV2 := Lib.hid g2
   have HR1E := Lib.hid g4
   have HO5 := Lib.hid g10
   have H5 := Lib.hid g11
   have HB5 := Lib.hid g12
   have HLP5 := Lib.hid g6
   have HF5 := Lib.hid (show ∀ (b : Nat) (arr : Array Value) (t : Nat), w4.heap[b]? = some (.cells arr t (0, 0)) → t ∉ [144, 126] → b ≠ lp → w5.heap[b]? = w4.heap[b]? from fun b arr t hb ht hne => g13 b arr t hb ht hne (fun e => by cases e))
   clear g1 g2 g4 g5 g6 g7 g8 g9 g10 g11 g12 g13 K62 l0 l1 l2 l3 xcv xq
   have hne : ∀ (b : Nat) (arr : Array Value) (t : Nat), w4.heap[b]? = some (.cells arr t (0, 0)) → t ≠ 107 → b ≠ lp := fun b arr t hb ht e => by
    have h := HLP4.out
    rw [← e, hb] at h
    injection h with h
    injection h with _ e _
    exact ht e
   have HX5 := Lib.hid ((HF5.out k11 _ _ HX4.out (by decide) (hne _ _ _ HX4.out (by decide))).trans HX4.out)
   have hw4 := below_step HB2.out HB24.out
   have HFR5 := Lib.hid (show FrT w w5 from ⟨(hw4.mono (Nat.zero_le _)).trans HB5.out, fun b hl => ((H5.out.ke b (HSA.out b hl)).trans (H4.out.ke b (HSA.out b hl)).symm).trans (hw4.block b hl)⟩)
   clear hne hw4
   have HTP := Lib.hid (takeTop_pos HPOS.out)
   have HKT := Lib.hid (show ∀ t ∈ takeTop rE h0.ts, KLen t from fun t ht => by
    rw [takeTop_pre] at ht
    exact HK.out _ (List.mem_of_getElem? HE0.out) t (List.mem_of_mem_take ht))
   have hiv := iv_of HTP.out HKT.out
   obtain ⟨⟨rl, hrl⟩, ⟨rh, hrh⟩⟩ := rg_parse HTP.out HKT.out
   have hgl := rg_len HTP.out HKT.out
   rw [← HR1E.out] at hiv hrl hrh hgl
   obtain ⟨kb1, ea1, hkl⟩ := HO5.out.k1.key (by have := hiv.1.1.1; omega)
   obtain ⟨kb2, ea2, hkh⟩ := HO5.out.k2.key (by have := hiv.1.2.1; omega)
   have hinf := hiv.2
   have hl1 := hgl.1
   have hl2 := hgl.2
   clear hgl
   rw [hinf, ea1, ea2]
   clear hinf ea1 ea2 hiv
   generalize d2.r1.lo = lo at *
   generalize d2.r1.hi = hi at *
   obtain ⟨kl, ekl⟩ : ∃ k, lo.length = k + 8 := ⟨lo.length - 8, by omega⟩
   obtain ⟨kh, ekh⟩ : ∃ k, hi.length = k + 8 := ⟨hi.length - 8, by omega⟩
   rw [ekl, ekh]
   have HLO := Lib.hid (And.intro ekl (And.intro hkl hrl))
   have HHI := Lib.hid (And.intro ekh (And.intro hkh hrh))
   have HLB := Lib.hid (show kl ≤ 99999992 ∧ kh ≤ 99999992 by omega)
   have em1 : m1 = ((takeTop rE h0.ts).map (·.num)).length := (Kd.R_reads' HV1.out).1
   have em2 : m2 = ((botL hn.ts (rgOf (takeTop rE h0.ts))).map (·.num)).length := (Kd.R_reads' HV2.out).1
   clear hl1 hl2 ekl ekh hkl hkh hrl hrh
   have HT63 := Lib.hid (show ints63P ((takeTop rE h0.ts).map (·.num)) ∧ ints63P ((botL hn.ts (rgOf (takeTop rE h0.ts))).map (·.num)) from ⟨ints63_of (by
     rw [List.length_map, takeTop_pre, List.length_take]
     have := (HTB.out _ (List.mem_of_getElem? HE0.out)).1
     omega) (fun x hx => by
     obtain ⟨t, ht, rfl⟩ := List.mem_map.1 hx
     rw [takeTop_pre] at ht
     exact HNUM.out _ (List.mem_of_getElem? HE0.out) t (List.mem_of_mem_take ht)), ints63_of (by
     rw [List.length_map]
     unfold botL
     rw [List.length_drop, List.length_take]
     have := (HTB.out _ (List.mem_of_getElem? HEN.out)).1
     omega) (fun x hx => by
     obtain ⟨t, ht, rfl⟩ := List.mem_map.1 hx
     exact HNUM.out _ (List.mem_of_getElem? HEN.out) t (List.mem_of_mem_take (List.mem_of_mem_drop ht)))⟩)
   generalize hLT : (takeTop rE h0.ts).map (·.num) = LT at *
   generalize hLB : (botL hn.ts (rgOf (takeTop rE h0.ts))).map (·.num) = LB at *
   have HLT := Lib.hid hLT
   have HLB2 := Lib.hid hLB
   clear hLT hLB
   subst em1
   subst em2
   go_upto_region 10 with (fail)
   obtain ⟨w6, hw6⟩ : ∃ w6, w6 = w5.alloc (.cells #[.int .i64 0, .int .i64 (n : Int), .slice A1 LT.length c1, .slice A2 LB.length c2, .slice (some ⟨kb1, 0, none⟩) (kl + 8) (kl + 8), .slice (some ⟨kb2, 0, none⟩) (kh + 8) (kh + 8), .slice d2.a2 d2.r2.lo.length d2.r2.lo.length, .slice d2.b2 d2.r2.hi.length d2.r2.hi.length, .bool false, .slice A3 m3 c3] 84) := ⟨_, rfl⟩
   rw [← hw6]
   obtain ⟨k12, hk12⟩ : ∃ b, b = w5.heap.size := ⟨_, rfl⟩
   rw [← hk12]
   have HB6 := Lib.hid (show Below w5.heap.size w5 w6 by rw [hw6]; exact below_alloc (Below.refl _ _) _)
   have HZ6 := Lib.hid (show w6.heap[k12]? = some (.cells #[.int .i64 0, .int .i64 (n : Int), .slice A1 LT.length c1, .slice A2 LB.length c2, .slice (some ⟨kb1, 0, none⟩) (kl + 8) (kl + 8), .slice (some ⟨kb2, 0, none⟩) (kh + 8) (kh + 8), .slice d2.a2 d2.r2.lo.length d2.r2.lo.length, .slice d2.b2 d2.r2.hi.length d2.r2.hi.length, .bool false, .slice A3 m3 c3] 84 (0, 0)) by rw [hw6, hk12]; exact blk_new w5 _)
   clear hw6 hk12
   have HX6 := Lib.hid ((HB6.out.block _ (blk_lt HX5.out)).trans HX5.out)
   have HB6s := Lib.hid HB6.out.size
   have hkk : k12 ≠ k11 := fun e => by
    have h := HZ6.out
    rw [e, HX6.out] at h
    injection h with h
    injection h with _ e _
    exact absurd e (by decide)
   have x0 := blk_cell HX6.out 0
   have y0 := blk_frozen HX6.out 0
   go_upto_region 12 with (fail)
   obtain ⟨w7, hw7⟩ : ∃ w7, w7 = w6.setCell ⟨k11, 0, none⟩ (.bool true) := ⟨_, rfl⟩
   rw [← hw7]
   have HN7 := Lib.hid (show Nb w6 w7 k11 by rw [hw7]; exact (Nb.refl w6 k11).set 0 _)
   have HX7 := Lib.hid (show w7.heap[k11]? = some (.cells #[.bool true, .int .i64 0, .int .i64 0, .slice none 0 0, .slice none 0 0, .string ⟨#[]⟩, .int .i64 0, .string ⟨#[]⟩, .int .i64 0, .bool false, .slice none 0 0] 46 (0, 0)) by
    rw [hw7]
    have h := blk_set HX6.out 0 (.bool true)
    simpa using h)
   clear hw7 x0 y0
   have HZ7 := Lib.hid ((HN7.out.2 k12 (blk_lt HZ6.out) hkk).trans HZ6.out)
   have u0 : w7.cell? ⟨k12, 0, none⟩ = some (.int .i64 0) := blk_cell HZ7.out 0
   have u1 : w7.cell? ⟨k12, 1, none⟩ = some (.int .i64 (n : Int)) := blk_cell HZ7.out 1
   have u8 : w7.cell? ⟨k12, 8, none⟩ = some (.bool false) := blk_cell HZ7.out 8
   have x1 := blk_cell HX7.out 1
   have x2 := blk_cell HX7.out 2
   have x9 := blk_cell HX7.out 9
   have y1 := blk_frozen HX7.out 1
   have y2 := blk_frozen HX7.out 2
   have y9 := blk_frozen HX7.out 9
   refine start_ (n := 12) (S := fun w' => w'.cell? ⟨k12, 0, none⟩ = some (.int .i64 0) ∧ w'.cell? ⟨k12, 1, none⟩ = some (.int .i64 (n : Int)) ∧ w'.cell? ⟨k12, 8, none⟩ = some (.bool false)) (ds := [11]) #[false, false, false, false, false, false, false, false, false, false, false, false] (by kernel_rfl) rfl rfl ⟨u0, u1, u8⟩ (fun hHeld => ?_)
   refine pure_ (i := 0) (N := some 49) (v := ?_) (a' := ?_) #[true, false, false, false, false, false, false, false, false, false, false, false] rfl rfl (by kernel_rfl) (fun _ _ _ h => h) (Or.inl ⟨by rfl, ?_⟩) ?_ ?_
   rotate_left
   ·intro w'
    go_simp
    with_reducible rfl
   rotate_left
   ·simp only [Act.put, List.setIfInBounds_toArray, List.set_cons_zero, List.set_cons_succ, i64_w, i32_w]
    rfl
   refine pure_ (i := 2) (N := some 51) (v := ?_) (a' := ?_) #[true, false, true, false, false, false, false, false, false, false, false, false] rfl rfl (by kernel_rfl) (fun _ _ _ h => h) (Or.inl ⟨by rfl, ?_⟩) ?_ ?_
   rotate_left
   ·intro w'
    go_simp
    with_reducible rfl
   rotate_left
   ·simp only [Act.put, List.setIfInBounds_toArray, List.set_cons_zero, List.set_cons_succ, i64_w, i32_w]
    rfl
   refine pure_ (i := 4) (N := some 53) (v := ?_) (a' := ?_) #[true, false, true, false, true, false, false, false, false, false, false, false] rfl rfl (by kernel_rfl) (fun _ _ _ h => h) (Or.inl ⟨by rfl, ?_⟩) ?_ ?_
   rotate_left
   ·intro w'
    go_simp
    with_reducible rfl
   rotate_left
   ·simp only [Act.put, List.setIfInBounds_toArray, List.set_cons_zero, List.set_cons_succ, i64_w, i32_w]
    rfl
   refine take_ (i := 1) (N := some 50) (v := ?_) (a' := ?_) #[true, true, true, false, true, false, false, false, false, false, false, false] rfl rfl (by kernel_rfl) (fun _ _ _ h => h) (Or.inl ⟨by rfl, ?_⟩) hHeld ?_ ?_
   rotate_left
   ·rintro w' ⟨s0, s1, s2⟩
    go_simp
    with_reducible rfl
   rotate_left
   ·simp only [Act.put, List.setIfInBounds_toArray, List.set_cons_zero, List.set_cons_succ, i64_w, i32_w]
    rfl
   refine pure_ (i := 6) (N := some 55) (v := ?_) (a' := ?_) #[true, true, true, false, true, false, true, false, false, false, false, false] rfl rfl (by kernel_rfl) (fun _ _ _ h => h) (Or.inl ⟨by rfl, ?_⟩) ?_ ?_
   rotate_left
   ·intro w'
    go_simp
    with_reducible rfl
   rotate_left
   ·simp only [Act.put, List.setIfInBounds_toArray, List.set_cons_zero, List.set_cons_succ, i64_w, i32_w]
    rfl
   refine take_ (i := 3) (N := some 52) (v := ?_) (a' := ?_) #[true, true, true, true, true, false, true, false, false, false, false, false] rfl rfl (by kernel_rfl) (fun _ _ _ h => h) (Or.inl ⟨by rfl, ?_⟩) hHeld ?_ ?_
   rotate_left
   ·rintro w' ⟨s0, s1, s2⟩
    go_simp
    with_reducible rfl
   rotate_left
   ·simp only [Act.put, List.setIfInBounds_toArray, List.set_cons_zero, List.set_cons_succ, i64_w, i32_w]
    rfl
   refine take_ (i := 5) (N := some 54) (v := ?_) (a' := ?_) #[true, true, true, true, true, true, true, false, false, false, false, false] rfl rfl (by kernel_rfl) (fun _ _ _ h => h) (Or.inl ⟨by rfl, ?_⟩) hHeld ?_ ?_
   rotate_left
   ·rintro w' ⟨s0, s1, s2⟩
    go_simp
    with_reducible rfl
   rotate_left
   ·simp only [Act.put, List.setIfInBounds_toArray, List.set_cons_zero, List.set_cons_succ, i64_w, i32_w]
    rfl
   refine one_ (i := 7) (N := none) #[true, true, true, true, true, true, true, true, false, false, false, false] rfl rfl (by kernel_rfl) (by decide) (fun K hK => ?_)
   refine skip_ (w1 := ?_) (by rfl) rfl ?_ ?_
   rotate_left
   ·go_simp
    rfl
   refine hK.out _ _ ⟨cell_far (w := w7.drew) u0 hkk, cell_far (w := w7.drew) u1 hkk, cell_far (w := w7.drew) u8 hkk⟩ (fun hHeld => ?_)
   clear hK K
   refine pure_ (i := 8) (N := some 56) (v := ?_) (a' := ?_) #[true, true, true, true, true, true, true, true, true, false, false, false] rfl rfl (by kernel_rfl) (fun _ _ _ h => h) (Or.inl ⟨by rfl, ?_⟩) ?_ ?_
   rotate_left
   ·intro w'
    go_simp
    with_reducible rfl
   rotate_left
   ·simp only [Act.put, List.setIfInBounds_toArray, List.set_cons_zero, List.set_cons_succ, i64_w, i32_w]
    rfl
   refine one_ (i := 9) (N := none) #[true, true, true, true, true, true, true, true, true, true, false, false] rfl rfl (by kernel_rfl) (by decide) (fun K hK => ?_)
   refine skip_ (w1 := ?_) (by rfl) rfl ?_ ?_
   rotate_left
   ·go_simp
    rfl
   refine hK.out _ _ ⟨cell_far (cell_far (w := w7.drew) u0 hkk) hkk, cell_far (cell_far (w := w7.drew) u1 hkk) hkk, cell_far (cell_far (w := w7.drew) u8 hkk) hkk⟩ (fun hHeld => ?_)
   clear hK K
   refine pure_ (i := 10) (N := some 57) (v := ?_) (a' := ?_) #[true, true, true, true, true, true, true, true, true, true, true, false] rfl rfl (by kernel_rfl) (fun _ _ _ h => h) (Or.inl ⟨by rfl, ?_⟩) ?_ ?_
   rotate_left
   ·intro w'
    go_simp
    with_reducible rfl
   rotate_left
   ·simp only [Act.put, List.setIfInBounds_toArray, List.set_cons_zero, List.set_cons_succ, i64_w, i32_w]
    rfl
   refine last_ (i := 11) (N := none) #[true, true, true, true, true, true, true, true, true, true, true, true] rfl rfl (by kernel_rfl) (by decide) (fun K hK => ?_)
   refine skip_ (w1 := ?_) (by rfl) rfl ?_ ?_
   rotate_left
   ·go_simp
    rfl
   refine hK.out _ _ ?_
   clear hK K
   refine done_ (by kernel_rfl) ?_
   obtain ⟨w8, hw8⟩ : ∃ w8, w8 = (((w7.setCell ⟨k11, 1, none⟩ (.int .i64 0)).setCell ⟨k11, 2, none⟩ (.int .i64 (n : Int))).setCell ⟨k11, 9, none⟩ (.bool false)).drew := ⟨_, rfl⟩
   rw [← hw8]
   have HN8 := Lib.hid (show Nb w6 w8 k11 by rw [hw8]; exact (((HN7.out.set 1 _).set 2 _).set 9 _).drew)
   have HX8 := Lib.hid (show w8.heap[k11]? = some (.cells #[.bool true, .int .i64 0, .int .i64 (n : Int), .slice none 0 0, .slice none 0 0, .string ⟨#[]⟩, .int .i64 0, .string ⟨#[]⟩, .int .i64 0, .bool false, .slice none 0 0] 46 (0, 0)) by
    rw [hw8]
    have h := blk_set (blk_set (blk_set HX7.out 1 (.int .i64 0)) 2 (.int .i64 (n : Int))) 9 (.bool false)
    exact h.trans (by simp))
   clear hw8 hHeld u0 u1 u8 x1 x2 x9 y1 y2 y9
   have HZ8 := Lib.hid ((HN8.out.2 k12 (blk_lt HZ6.out) hkk).trans HZ6.out)
   have u2 : w8.cell? ⟨k12, 2, none⟩ = some (.slice A1 LT.length c1) := blk_cell HZ8.out 2
   have u3 : w8.cell? ⟨k12, 3, none⟩ = some (.slice A2 LB.length c2) := blk_cell HZ8.out 3
   have ty88 : ∀ (b : Nat) (arr : Array Value), w5.heap[b]? = some (.cells arr 88 (0, 0)) → w8.heap[b]? = w5.heap[b]? := fun b arr hb => ((Nb.of HB6.out k11).trans HN8.out).ty HX5.out b arr 88 hb (by decide)
   have hC1 := (Kd.R_reads' (R_stay HV1.out rfl (fun k _ e => by
    obtain ⟨cs2, hc2⟩ := Kd.R_typed HV1.out k e
    exact ty88 k _ hc2)))
   have hC2 := (Kd.R_reads' (R_stay HV2.out rfl (fun k _ e => by
    obtain ⟨cs2, hc2⟩ := Kd.R_typed HV2.out k e
    exact ty88 k _ hc2)))
   have K63 := Lib.hid (impl_ints_uint64.calls (LT.length + 1) A1 c1 LT LT w8.drew (Kd.C_below hC1.2.2 (below_drew (Below.refl _ _))) hC1.2.1 HT63.out.1.2)
   have K63b := Lib.hid (fun (W : World) (hW : Below w8.heap.size w8 W) => impl_ints_uint64.calls (LB.length + 1) A2 c2 LB LB W (Kd.C_below hC2.2.2 hW) hC2.2.1 HT63.out.2.2)
   clear ty88 hC1 hC2
   go_upto_region 13 with (fail)
   refine start_ (n := 10) (S := fun w' => w'.cell? ⟨k12, 2, none⟩ = some (.slice A1 LT.length c1) ∧ w'.cell? ⟨k12, 3, none⟩ = some (.slice A2 LB.length c2)) (ds := [7, 9]) #[false, false, false, false, false, false, false, false, false, false] (by kernel_rfl) rfl rfl ⟨u2, u3⟩ (fun hHeld => ?_)
   refine pure_ (i := 0) (N := some 58) (v := ?_) (a' := ?_) #[true, false, false, false, false, false, false, false, false, false] rfl rfl (by kernel_rfl) (fun _ _ _ h => h) (Or.inl ⟨by rfl, ?_⟩) ?_ ?_
   rotate_left
   ·intro w'
    go_simp
    with_reducible rfl
   rotate_left
   ·simp only [Act.put, List.setIfInBounds_toArray, List.set_cons_zero, List.set_cons_succ, i64_w, i32_w]
    rfl
   refine pure_ (i := 3) (N := some 61) (v := ?_) (a' := ?_) #[true, false, false, true, false, false, false, false, false, false] rfl rfl (by kernel_rfl) (fun _ _ _ h => h) (Or.inl ⟨by rfl, ?_⟩) ?_ ?_
   rotate_left
   ·intro w'
    go_simp
    with_reducible rfl
   rotate_left
   ·simp only [Act.put, List.setIfInBounds_toArray, List.set_cons_zero, List.set_cons_succ, i64_w, i32_w]
    rfl
   refine take_ (i := 1) (N := some 59) (v := ?_) (a' := ?_) #[true, true, false, true, false, false, false, false, false, false] rfl rfl (by kernel_rfl) (fun _ _ _ h => h) (Or.inl ⟨by rfl, ?_⟩) hHeld ?_ ?_
   rotate_left
   ·rintro w' ⟨s0, s1⟩
    go_simp
    with_reducible rfl
   rotate_left
   ·simp only [Act.put, List.setIfInBounds_toArray, List.set_cons_zero, List.set_cons_succ, i64_w, i32_w]
    rfl
   refine take_ (i := 4) (N := some 62) (v := ?_) (a' := ?_) #[true, true, false, true, true, false, false, false, false, false] rfl rfl (by kernel_rfl) (fun _ _ _ h => h) (Or.inl ⟨by rfl, ?_⟩) hHeld ?_ ?_
   rotate_left
   ·rintro w' ⟨s0, s1⟩
    go_simp
    with_reducible rfl
   rotate_left
   ·simp only [Act.put, List.setIfInBounds_toArray, List.set_cons_zero, List.set_cons_succ, i64_w, i32_w]
    rfl
   refine one_ (i := 2) (N := some 60) #[true, true, true, true, true, false, false, false, false, false] rfl rfl (by kernel_rfl) (by decide) (fun K hK => ?_)
   refine goes_ Tryz.func63 (by kernel_rfl) rfl #[.slice A1 LT.length c1] (by rfl) rfl rfl (by simp only [List.map_toArray, List.map_cons, List.map_nil]; rfl) ?_
   with_reducible refine (K63.out).mono ?_
   rintro e w9 ⟨v4, rfl, hr4, hb4⟩
   refine ⟨_, rfl, ?_⟩
   obtain ⟨m4, A4, c4, rfl⟩ : ∃ n A c, v4 = .slice A n c := (by obtain ⟨A, c, e⟩ := Kd.R_slice hr4; exact ⟨_, A, c, e⟩)
   have HR4 := Lib.hid hr4
   have HB9 := Lib.hid (show Below w8.heap.size w8 w9 from below_step (below_drew (Below.refl _ _)) hb4)
   have K63c := K63b.out w9 HB9.out
   refine hK.out _ _ ⟨(HB9.out.cell (World.block_lt_of_cell? w8 _ u2)).trans u2, (HB9.out.cell (World.block_lt_of_cell? w8 _ u3)).trans u3⟩ (fun hHeld => ?_)
   clear hK K
   refine norm_ (a' := ?_) ?_ ?_
   rotate_left
   ·show Act.put _ (some 60) _ = _
    simp only [Act.put, List.setIfInBounds_toArray, List.set_cons_zero, List.set_cons_succ, i64_w, i32_w]
    rfl
   refine pure_ (i := 6) (N := some 64) (v := ?_) (a' := ?_) #[true, true, true, true, true, false, true, false, false, false] rfl rfl (by kernel_rfl) (fun _ _ _ h => h) (Or.inl ⟨by rfl, ?_⟩) ?_ ?_
   rotate_left
   ·intro w'
    go_simp
    with_reducible rfl
   rotate_left
   ·simp only [Act.put, List.setIfInBounds_toArray, List.set_cons_zero, List.set_cons_succ, i64_w, i32_w]
    rfl
   refine one_ (i := 5) (N := some 63) #[true, true, true, true, true, true, true, false, false, false] rfl rfl (by kernel_rfl) (by decide) (fun K hK => ?_)
   refine goes_ Tryz.func63 (by kernel_rfl) rfl #[.slice A2 LB.length c2] (by rfl) rfl rfl (by simp only [List.map_toArray, List.map_cons, List.map_nil]; rfl) ?_
   with_reducible refine (K63c).mono ?_
   rintro e w10 ⟨v5, rfl, hr5, hb5⟩
   refine ⟨_, rfl, ?_⟩
   obtain ⟨m5, A5, c5, rfl⟩ : ∃ n A c, v5 = .slice A n c := (by obtain ⟨A, c, e⟩ := Kd.R_slice hr5; exact ⟨_, A, c, e⟩)
   have HR5 := Lib.hid hr5
   have HBB := Lib.hid hb5
   have HB10 := Lib.hid (show Below w8.heap.size w8 w10 from below_step HB9.out hb5)
   have HX10 := Lib.hid ((HB10.out.block _ (blk_lt HX8.out)).trans HX8.out)
   have x3 := blk_cell HX10.out 3
   have x4 := blk_cell HX10.out 4
   have y3 := blk_frozen HX10.out 3
   have y4 := blk_frozen HX10.out 4
   refine hK.out _ _ ⟨(HB10.out.cell (World.block_lt_of_cell? w8 _ u2)).trans u2, (HB10.out.cell (World.block_lt_of_cell? w8 _ u3)).trans u3⟩ (fun hHeld => ?_)
   clear hK K
   refine norm_ (a' := ?_) ?_ ?_
   rotate_left
   ·show Act.put _ (some 63) _ = _
    simp only [Act.put, List.setIfInBounds_toArray, List.set_cons_zero, List.set_cons_succ, i64_w, i32_w]
    rfl
   refine last_ (i := 7) (N := none) #[true, true, true, true, true, true, true, true, false, false] rfl rfl (by kernel_rfl) (by decide) (fun K hK => ?_)
   refine skip_ (w1 := ?_) (by rfl) rfl ?_ ?_
   rotate_left
   ·go_simp
    rfl
   refine hK.out _ _ ?_
   clear hK K
   refine pure_ (i := 8) (N := some 65) (v := ?_) (a' := ?_) #[true, true, true, true, true, true, true, true, true, false] rfl rfl (by kernel_rfl) (fun _ _ _ h => h) (Or.inl ⟨by rfl, ?_⟩) ?_ ?_
   rotate_left
   ·intro w'
    go_simp
    with_reducible rfl
   rotate_left
   ·simp only [Act.put, List.setIfInBounds_toArray, List.set_cons_zero, List.set_cons_succ, i64_w, i32_w]
    rfl
   refine last_ (i := 9) (N := none) #[true, true, true, true, true, true, true, true, true, true] rfl rfl (by kernel_rfl) (by decide) (fun K hK => ?_)
   refine skip_ (w1 := ?_) (by rfl) rfl ?_ ?_
   rotate_left
   ·go_simp
    rfl
   refine hK.out _ _ ?_
   clear hK K
   refine done_ (by kernel_rfl) ?_
   obtain ⟨w11, hw11⟩ : ∃ w11, w11 = (w10.setCell ⟨k11, 3, none⟩ (.slice A4 m4 c4)).setCell ⟨k11, 4, none⟩ (.slice A5 m5 c5) := ⟨_, rfl⟩
   rw [← hw11]
   have HNX := Lib.hid (show Nb w10 w11 k11 by rw [hw11]; exact ((Nb.refl w10 k11).set 3 _).set 4 _)
   have HN11 := Lib.hid (HN8.out.trans ((Nb.of HB10.out k11).trans HNX.out))
   have HX11 := Lib.hid (show w11.heap[k11]? = some (.cells #[.bool true, .int .i64 0, .int .i64 (n : Int), .slice A4 m4 c4, .slice A5 m5 c5, .string ⟨#[]⟩, .int .i64 0, .string ⟨#[]⟩, .int .i64 0, .bool false, .slice none 0 0] 46 (0, 0)) by
    rw [hw11]
    have h := blk_set (blk_set HX10.out 3 (.slice A4 m4 c4)) 4 (.slice A5 m5 c5)
    exact h.trans (by simp))
   have HV4 := Lib.hid (show Kd.R (Kd.int .i64) 3 w11 w8.heap.size (fun _ => True) (.slice A4 m4 c4) LT from R_stay (Kd.R_below HR4.out HBB.out) rfl (fun k _ e => by
    obtain ⟨cs2, hc2⟩ := Kd.R_typed (Kd.R_below HR4.out HBB.out) k e
    exact HNX.out.ty HX10.out k _ _ hc2 (by decide)))
   have HV5 := Lib.hid (show Kd.R (Kd.int .i64) 3 w11 w8.heap.size (fun _ => True) (.slice A5 m5 c5) LB from Kd.R_lower (R_stay HR5.out rfl (fun k _ e => by
    obtain ⟨cs2, hc2⟩ := Kd.R_typed HR5.out k e
    exact HNX.out.ty HX10.out k _ _ hc2 (by decide))) HB9.out.size)
   have HZ11 := Lib.hid ((HN11.out.2 k12 (blk_lt HZ6.out) hkk).trans HZ6.out)
   have N5 := (Nb.of HB6.out k11).trans HN11.out
   have hk1 := (N5.ty HX5.out kb1 _ _ HLO.out.2.1 (by decide)).trans HLO.out.2.1
   have hk2 := (N5.ty HX5.out kb2 _ _ HHI.out.2.1 (by decide)).trans HHI.out.2.1
   have HKL := Lib.hid hk1
   have HKH := Lib.hid hk2
   clear hw11 hHeld u2 u3 x3 x4 y3 y4 hb4 hb5 hr4 hr5 K63c N5 hk1 hk2 HX10 HR4 HR5
   have u8 : w11.cell? ⟨k12, 8, none⟩ = some (.bool false) := blk_cell HZ11.out 8
   have u4 : w11.cell? ⟨k12, 4, none⟩ = some (.slice (some ⟨kb1, 0, none⟩) (kl + 8) (kl + 8)) := blk_cell HZ11.out 4
   go_upto_region 15 with (fail)
   have KS := Lib.hid (fun (W : World) (hW : Below w11.heap.size w11 W) => key_str (k := kl) (c := kl + 8) ((hW.block _ (blk_lt HKL.out)).trans HKL.out) (by have := HLO.out.1; omega))
   have K64 := Lib.hid (parseKey_calls (w := w11.drew) (b := kb1) (k := kl) (c := kl + 8) (by have := HLB.out; omega) (Nat.le_refl _))
   have hrl := HLO.out.2.2
   have K65 := Lib.hid (pts_calls (c := kl + 8) (w := w11.drew) HKL.out HLO.out.1 (by have := HLB.out; omega) (Nat.le_refl _) hrl)
   obtain ⟨str, hstr⟩ : ∃ s, s = strOfNums (Pu.nums (lo.take kl)) := ⟨_, rfl⟩
   rw [← hstr] at KS
   clear hstr hrl u8
   have ks := KS.out w11.drew (below_drew (Below.refl _ _))
   refine start_ (n := 12) (S := fun w' => w'.cell? ⟨k12, 4, none⟩ = some (.slice (some ⟨kb1, 0, none⟩) (kl + 8) (kl + 8)) ∧ (convert 81 9 (.slice (some ⟨kb1, 0, none⟩) kl (kl + 8))).run Tryz.prog w' = .ok (.string str) w') (ds := [9, 11]) #[false, false, false, false, false, false, false, false, false, false, false, false] (by kernel_rfl) rfl rfl ⟨u4, ks⟩ (fun hHeld => ?_)
   refine pure_ (i := 0) (N := some 69) (v := ?_) (a' := ?_) #[true, false, false, false, false, false, false, false, false, false, false, false] rfl rfl (by kernel_rfl) (fun _ _ _ h => h) (Or.inl ⟨by rfl, ?_⟩) ?_ ?_
   rotate_left
   ·intro w'
    go_simp
    with_reducible rfl
   rotate_left
   ·simp only [Act.put, List.setIfInBounds_toArray, List.set_cons_zero, List.set_cons_succ, i64_w, i32_w]
    rfl
   refine pure_ (i := 4) (N := some 73) (v := ?_) (a' := ?_) #[true, false, false, false, true, false, false, false, false, false, false, false] rfl rfl (by kernel_rfl) (fun _ _ _ h => h) (Or.inl ⟨by rfl, ?_⟩) ?_ ?_
   rotate_left
   ·intro w'
    go_simp
    with_reducible rfl
   rotate_left
   ·simp only [Act.put, List.setIfInBounds_toArray, List.set_cons_zero, List.set_cons_succ, i64_w, i32_w]
    rfl
   refine take_ (i := 1) (N := some 70) (v := ?_) (a' := ?_) #[true, true, false, false, true, false, false, false, false, false, false, false] rfl rfl (by kernel_rfl) (fun _ _ _ h => h) (Or.inl ⟨by rfl, ?_⟩) hHeld ?_ ?_
   rotate_left
   ·rintro w' ⟨s0, s1⟩
    go_simp
    with_reducible rfl
   rotate_left
   ·simp only [Act.put, List.setIfInBounds_toArray, List.set_cons_zero, List.set_cons_succ, i64_w, i32_w]
    rfl
   refine take_ (i := 5) (N := some 74) (v := ?_) (a' := ?_) #[true, true, false, false, true, true, false, false, false, false, false, false] rfl rfl (by kernel_rfl) (fun _ _ _ h => h) (Or.inl ⟨by rfl, ?_⟩) hHeld ?_ ?_
   rotate_left
   ·rintro w' ⟨s0, s1⟩
    go_simp
    with_reducible rfl
   rotate_left
   ·simp only [Act.put, List.setIfInBounds_toArray, List.set_cons_zero, List.set_cons_succ, i64_w, i32_w]
    rfl
   refine one_ (i := 2) (N := some 71) #[true, true, true, false, true, true, false, false, false, false, false, false] rfl rfl (by kernel_rfl) (by decide) (fun K hK => ?_)
   refine goes_ Tryz.func64 (by kernel_rfl) rfl #[.slice (some ⟨kb1, 0, none⟩) (kl + 8) (kl + 8)] (by rfl) rfl rfl (by simp only [List.map_toArray, List.map_cons, List.map_nil]; rfl) ?_
   with_reducible refine (K64.out).mono ?_
   rintro e wz ⟨rfl, rfl⟩
   refine ⟨_, rfl, ?_⟩
   refine hK.out _ _ ⟨u4, ks⟩ (fun hHeld => ?_)
   clear hK K
   refine norm_ (a' := ?_) ?_ ?_
   rotate_left
   ·show Act.put _ (some 71) _ = _
    simp only [Act.put, List.setIfInBounds_toArray, List.set_cons_zero, List.set_cons_succ, i64_w, i32_w]
    rfl
   refine take_ (i := 3) (N := some 72) (v := ?_) (a' := ?_) #[true, true, true, true, true, true, false, false, false, false, false, false] rfl rfl (by kernel_rfl) (fun _ _ _ h => h) (Or.inl ⟨by rfl, ?_⟩) hHeld ?_ ?_
   rotate_left
   ·rintro w' ⟨s0, s1⟩
    go_simp
    with_reducible rfl
   rotate_left
   ·simp only [Act.put, List.setIfInBounds_toArray, List.set_cons_zero, List.set_cons_succ, i64_w, i32_w]
    rfl
   refine pure_ (i := 8) (N := some 77) (v := ?_) (a' := ?_) #[true, true, true, true, true, true, false, false, true, false, false, false] rfl rfl (by kernel_rfl) (fun _ _ _ h => h) (Or.inl ⟨by rfl, ?_⟩) ?_ ?_
   rotate_left
   ·intro w'
    go_simp
    with_reducible rfl
   rotate_left
   ·simp only [Act.put, List.setIfInBounds_toArray, List.set_cons_zero, List.set_cons_succ, i64_w, i32_w]
    rfl
   refine one_ (i := 6) (N := some 75) #[true, true, true, true, true, true, true, false, true, false, false, false] rfl rfl (by kernel_rfl) (by decide) (fun K hK => ?_)
   refine goes_ Tryz.func65 (by kernel_rfl) rfl #[.slice (some ⟨kb1, 0, none⟩) (kl + 8) (kl + 8)] (by rfl) rfl rfl (by simp only [List.map_toArray, List.map_cons, List.map_nil]; rfl) ?_
   with_reducible refine (K65.out).mono ?_
   rintro e w12 ⟨rfl, hdr⟩
   refine ⟨_, rfl, ?_⟩
   have HB12 := Lib.hid (show Below w11.heap.size w11 w12 from below_step (below_drew (Below.refl _ _)) hdr.below)
   have HX12 := Lib.hid ((HB12.out.block _ (blk_lt HX11.out)).trans HX11.out)
   have ks2 := KS.out w12 HB12.out
   have x5 := blk_cell HX12.out 5
   have x6 := blk_cell HX12.out 6
   have y5 := blk_frozen HX12.out 5
   have y6 := blk_frozen HX12.out 6
   refine hK.out _ _ ⟨(HB12.out.cell (World.block_lt_of_cell? w11 _ u4)).trans u4, ks2⟩ (fun hHeld => ?_)
   clear hK K
   refine norm_ (a' := ?_) ?_ ?_
   rotate_left
   ·show Act.put _ (some 75) _ = _
    simp only [Act.put, List.setIfInBounds_toArray, List.set_cons_zero, List.set_cons_succ, i64_w, i32_w]
    rfl
   refine pure_ (i := 7) (N := some 76) (v := ?_) (a' := ?_) #[true, true, true, true, true, true, true, true, true, false, false, false] rfl rfl (by kernel_rfl) (fun _ _ _ h => h) (Or.inl ⟨by rfl, ?_⟩) ?_ ?_
   rotate_left
   ·intro w'
    go_simp
    with_reducible rfl
   rotate_left
   ·simp only [Act.put, List.setIfInBounds_toArray, List.set_cons_zero, List.set_cons_succ, i64_w, i32_w]
    rfl
   refine last_ (i := 9) (N := none) #[true, true, true, true, true, true, true, true, true, true, false, false] rfl rfl (by kernel_rfl) (by decide) (fun K hK => ?_)
   refine skip_ (w1 := ?_) (by rfl) rfl ?_ ?_
   rotate_left
   ·go_simp
    rfl
   refine hK.out _ _ ?_
   clear hK K
   refine pure_ (i := 10) (N := some 78) (v := ?_) (a' := ?_) #[true, true, true, true, true, true, true, true, true, true, true, false] rfl rfl (by kernel_rfl) (fun _ _ _ h => h) (Or.inl ⟨by rfl, ?_⟩) ?_ ?_
   rotate_left
   ·intro w'
    go_simp
    with_reducible rfl
   rotate_left
   ·simp only [Act.put, List.setIfInBounds_toArray, List.set_cons_zero, List.set_cons_succ, i64_w, i32_w]
    rfl
   refine last_ (i := 11) (N := none) #[true, true, true, true, true, true, true, true, true, true, true, true] rfl rfl (by kernel_rfl) (by decide) (fun K hK => ?_)
   refine skip_ (w1 := ?_) (by rfl) rfl ?_ ?_
   rotate_left
   ·go_simp
    rfl
   refine hK.out _ _ ?_
   clear hK K
   refine done_ (by kernel_rfl) ?_
   obtain ⟨w13, hw13⟩ : ∃ w13, w13 = (w12.setCell ⟨k11, 5, none⟩ (.string str)).setCell ⟨k11, 6, none⟩ (.int .i64 (wrap64 rl)) := ⟨_, rfl⟩
   rw [← hw13]
   have HN13 := Lib.hid (show Nb w11 w13 k11 by rw [hw13]; exact ((Nb.of HB12.out k11).set 5 _).set 6 _)
   have HX13 := Lib.hid (show w13.heap[k11]? = some (.cells #[.bool true, .int .i64 0, .int .i64 (n : Int), .slice A4 m4 c4, .slice A5 m5 c5, .string str, .int .i64 (wrap64 rl), .string ⟨#[]⟩, .int .i64 0, .bool false, .slice none 0 0] 46 (0, 0)) by
    rw [hw13]
    have h := blk_set (blk_set HX12.out 5 (.string str)) 6 (.int .i64 (wrap64 rl))
    exact h.trans (by simp))
   have u8 : w13.cell? ⟨k12, 8, none⟩ = some (.bool false) := blk_cell ((HN13.out.ty HX11.out k12 _ _ HZ11.out (by decide)).trans HZ11.out) 8
   have u5 : w13.cell? ⟨k12, 5, none⟩ = some (.slice (some ⟨kb2, 0, none⟩) (kh + 8) (kh + 8)) := blk_cell ((HN13.out.ty HX11.out k12 _ _ HZ11.out (by decide)).trans HZ11.out) 5
   have HKH2 := Lib.hid ((HN13.out.ty HX11.out kb2 _ _ HKH.out (by decide)).trans HKH.out)
   clear hw13 hHeld u4 ks ks2 x5 x6 y5 y6 KS K64 K65
   go_upto_region 16 with (fail)
   have KS := Lib.hid (fun (W : World) (hW : Below w13.heap.size w13 W) => key_str (k := kh) (c := kh + 8) ((hW.block _ (blk_lt HKH2.out)).trans HKH2.out) (by have := HHI.out.1; omega))
   have K64 := Lib.hid (parseKey_calls (w := w13.drew) (b := kb2) (k := kh) (c := kh + 8) (by have := HLB.out; omega) (Nat.le_refl _))
   have hrh := HHI.out.2.2
   have K65 := Lib.hid (pts_calls (c := kh + 8) (w := w13.drew) HKH2.out HHI.out.1 (by have := HLB.out; omega) (Nat.le_refl _) hrh)
   obtain ⟨str2, hstr⟩ : ∃ s, s = strOfNums (Pu.nums (hi.take kh)) := ⟨_, rfl⟩
   rw [← hstr] at KS
   clear hstr hrh u8
   have ks := KS.out w13.drew (below_drew (Below.refl _ _))
   refine start_ (n := 12) (S := fun w' => w'.cell? ⟨k12, 5, none⟩ = some (.slice (some ⟨kb2, 0, none⟩) (kh + 8) (kh + 8)) ∧ (convert 81 9 (.slice (some ⟨kb2, 0, none⟩) kh (kh + 8))).run Tryz.prog w' = .ok (.string str2) w') (ds := [9, 11]) #[false, false, false, false, false, false, false, false, false, false, false, false] (by kernel_rfl) rfl rfl ⟨u5, ks⟩ (fun hHeld => ?_)
   refine pure_ (i := 0) (N := some 79) (v := ?_) (a' := ?_) #[true, false, false, false, false, false, false, false, false, false, false, false] rfl rfl (by kernel_rfl) (fun _ _ _ h => h) (Or.inl ⟨by rfl, ?_⟩) ?_ ?_
   rotate_left
   ·intro w'
    go_simp
    with_reducible rfl
   rotate_left
   ·simp only [Act.put, List.setIfInBounds_toArray, List.set_cons_zero, List.set_cons_succ, i64_w, i32_w]
    rfl
   refine pure_ (i := 4) (N := some 83) (v := ?_) (a' := ?_) #[true, false, false, false, true, false, false, false, false, false, false, false] rfl rfl (by kernel_rfl) (fun _ _ _ h => h) (Or.inl ⟨by rfl, ?_⟩) ?_ ?_
   rotate_left
   ·intro w'
    go_simp
    with_reducible rfl
   rotate_left
   ·simp only [Act.put, List.setIfInBounds_toArray, List.set_cons_zero, List.set_cons_succ, i64_w, i32_w]
    rfl
   refine take_ (i := 1) (N := some 80) (v := ?_) (a' := ?_) #[true, true, false, false, true, false, false, false, false, false, false, false] rfl rfl (by kernel_rfl) (fun _ _ _ h => h) (Or.inl ⟨by rfl, ?_⟩) hHeld ?_ ?_
   rotate_left
   ·rintro w' ⟨s0, s1⟩
    go_simp
    with_reducible rfl
   rotate_left
   ·simp only [Act.put, List.setIfInBounds_toArray, List.set_cons_zero, List.set_cons_succ, i64_w, i32_w]
    rfl
   refine take_ (i := 5) (N := some 84) (v := ?_) (a' := ?_) #[true, true, false, false, true, true, false, false, false, false, false, false] rfl rfl (by kernel_rfl) (fun _ _ _ h => h) (Or.inl ⟨by rfl, ?_⟩) hHeld ?_ ?_
   rotate_left
   ·rintro w' ⟨s0, s1⟩
    go_simp
    with_reducible rfl
   rotate_left
   ·simp only [Act.put, List.setIfInBounds_toArray, List.set_cons_zero, List.set_cons_succ, i64_w, i32_w]
    rfl
   refine one_ (i := 2) (N := some 81) #[true, true, true, false, true, true, false, false, false, false, false, false] rfl rfl (by kernel_rfl) (by decide) (fun K hK => ?_)
   refine goes_ Tryz.func64 (by kernel_rfl) rfl #[.slice (some ⟨kb2, 0, none⟩) (kh + 8) (kh + 8)] (by rfl) rfl rfl (by simp only [List.map_toArray, List.map_cons, List.map_nil]; rfl) ?_
   with_reducible refine (K64.out).mono ?_
   rintro e wz ⟨rfl, rfl⟩
   refine ⟨_, rfl, ?_⟩
   refine hK.out _ _ ⟨u5, ks⟩ (fun hHeld => ?_)
   clear hK K
   refine norm_ (a' := ?_) ?_ ?_
   rotate_left
   ·show Act.put _ (some 81) _ = _
    simp only [Act.put, List.setIfInBounds_toArray, List.set_cons_zero, List.set_cons_succ, i64_w, i32_w]
    rfl
   refine take_ (i := 3) (N := some 82) (v := ?_) (a' := ?_) #[true, true, true, true, true, true, false, false, false, false, false, false] rfl rfl (by kernel_rfl) (fun _ _ _ h => h) (Or.inl ⟨by rfl, ?_⟩) hHeld ?_ ?_
   rotate_left
   ·rintro w' ⟨s0, s1⟩
    go_simp
    with_reducible rfl
   rotate_left
   ·simp only [Act.put, List.setIfInBounds_toArray, List.set_cons_zero, List.set_cons_succ, i64_w, i32_w]
    rfl
   refine pure_ (i := 8) (N := some 87) (v := ?_) (a' := ?_) #[true, true, true, true, true, true, false, false, true, false, false, false] rfl rfl (by kernel_rfl) (fun _ _ _ h => h) (Or.inl ⟨by rfl, ?_⟩) ?_ ?_
   rotate_left
   ·intro w'
    go_simp
    with_reducible rfl
   rotate_left
   ·simp only [Act.put, List.setIfInBounds_toArray, List.set_cons_zero, List.set_cons_succ, i64_w, i32_w]
    rfl
   refine one_ (i := 6) (N := some 85) #[true, true, true, true, true, true, true, false, true, false, false, false] rfl rfl (by kernel_rfl) (by decide) (fun K hK => ?_)
   refine goes_ Tryz.func65 (by kernel_rfl) rfl #[.slice (some ⟨kb2, 0, none⟩) (kh + 8) (kh + 8)] (by rfl) rfl rfl (by simp only [List.map_toArray, List.map_cons, List.map_nil]; rfl) ?_
   with_reducible refine (K65.out).mono ?_
   rintro e w14 ⟨rfl, hdr⟩
   refine ⟨_, rfl, ?_⟩
   have HB14 := Lib.hid (show Below w13.heap.size w13 w14 from below_step (below_drew (Below.refl _ _)) hdr.below)
   have HX14 := Lib.hid ((HB14.out.block _ (blk_lt HX13.out)).trans HX13.out)
   have ks2 := KS.out w14 HB14.out
   have x7 := blk_cell HX14.out 7
   have x8 := blk_cell HX14.out 8
   have y7 := blk_frozen HX14.out 7
   have y8 := blk_frozen HX14.out 8
   refine hK.out _ _ ⟨(HB14.out.cell (World.block_lt_of_cell? w13 _ u5)).trans u5, ks2⟩ (fun hHeld => ?_)
   clear hK K
   refine norm_ (a' := ?_) ?_ ?_
   rotate_left
   ·show Act.put _ (some 85) _ = _
    simp only [Act.put, List.setIfInBounds_toArray, List.set_cons_zero, List.set_cons_succ, i64_w, i32_w]
    rfl
   refine pure_ (i := 7) (N := some 86) (v := ?_) (a' := ?_) #[true, true, true, true, true, true, true, true, true, false, false, false] rfl rfl (by kernel_rfl) (fun _ _ _ h => h) (Or.inl ⟨by rfl, ?_⟩) ?_ ?_
   rotate_left
   ·intro w'
    go_simp
    with_reducible rfl
   rotate_left
   ·simp only [Act.put, List.setIfInBounds_toArray, List.set_cons_zero, List.set_cons_succ, i64_w, i32_w]
    rfl
   refine last_ (i := 9) (N := none) #[true, true, true, true, true, true, true, true, true, true, false, false] rfl rfl (by kernel_rfl) (by decide) (fun K hK => ?_)
   refine skip_ (w1 := ?_) (by rfl) rfl ?_ ?_
   rotate_left
   ·go_simp
    rfl
   refine hK.out _ _ ?_
   clear hK K
   refine pure_ (i := 10) (N := some 88) (v := ?_) (a' := ?_) #[true, true, true, true, true, true, true, true, true, true, true, false] rfl rfl (by kernel_rfl) (fun _ _ _ h => h) (Or.inl ⟨by rfl, ?_⟩) ?_ ?_
   rotate_left
   ·intro w'
    go_simp
    with_reducible rfl
   rotate_left
   ·simp only [Act.put, List.setIfInBounds_toArray, List.set_cons_zero, List.set_cons_succ, i64_w, i32_w]
    rfl
   refine last_ (i := 11) (N := none) #[true, true, true, true, true, true, true, true, true, true, true, true] rfl rfl (by kernel_rfl) (by decide) (fun K hK => ?_)
   refine skip_ (w1 := ?_) (by rfl) rfl ?_ ?_
   rotate_left
   ·go_simp
    rfl
   refine hK.out _ _ ?_
   clear hK K
   refine done_ (by kernel_rfl) ?_
   obtain ⟨w15, hw15⟩ : ∃ w15, w15 = (w14.setCell ⟨k11, 7, none⟩ (.string str2)).setCell ⟨k11, 8, none⟩ (.int .i64 (wrap64 rh)) := ⟨_, rfl⟩
   rw [← hw15]
   have HN15 := Lib.hid (HN13.out.trans (show Nb w13 w15 k11 by rw [hw15]; exact ((Nb.of HB14.out k11).set 7 _).set 8 _))
   have HX15 := Lib.hid (show w15.heap[k11]? = some (.cells #[.bool true, .int .i64 0, .int .i64 (n : Int), .slice A4 m4 c4, .slice A5 m5 c5, .string str, .int .i64 (wrap64 rl), .string str2, .int .i64 (wrap64 rh), .bool false, .slice none 0 0] 46 (0, 0)) by
    rw [hw15]
    have h := blk_set (blk_set HX14.out 7 (.string str2)) 8 (.int .i64 (wrap64 rh))
    exact h.trans (by simp))
   clear hw15 hHeld u5 ks ks2 x7 x8 y7 y8 KS K64 K65 HKH2 HX14
   have HNA := Lib.hid (show Nb w5 w15 k11 from ((Nb.of HB6.out k11).trans HN11.out).trans HN15.out)
   have HV4' := Lib.hid (R_stay HV4.out rfl (fun k _ e => by
    obtain ⟨cs2, hc2⟩ := Kd.R_typed HV4.out k e
    exact HN15.out.ty HX11.out k _ _ hc2 (by decide)))
   have HV5' := Lib.hid (R_stay HV5.out rfl (fun k _ e => by
    obtain ⟨cs2, hc2⟩ := Kd.R_typed HV5.out k e
    exact HN15.out.ty HX11.out k _ _ hc2 (by decide)))
   have HFRN := Lib.hid (show ∀ W, Nb w15 W k11 → FrT w W from fun W hW => ⟨HFR5.out.1.trans (HNA.out.trans hW).1, fun b hlw => by
    have h1 := HFR5.out.2 b hlw
    have hl := Nat.lt_of_lt_of_le hlw HFR5.out.1.size
    have hk := HKK.out
    have hs2 := HB2.out.size
    exact ((HNA.out.trans hW).2 b hl (by omega)).trans h1⟩)
   obtain ⟨es, ck, mp1, mp2, mp3⟩ := H5.out.mp
   have HMP := Lib.hid (show ∀ W, Nb w15 W k11 → W.cell? ⟨lp, 0, none⟩ = some (ptr sb) ∧ W.cell? ⟨sb, 3, none⟩ = some (.map (some mb)) ∧ W.heap[mb]? = some (.map (rawM .u64 es) ck) from fun W hW => by
    have hN := HNA.out.trans hW
    refine ⟨blk_cell ((hN.ty HX5.out lp _ _ HLP5.out (by decide)).trans HLP5.out) 0, blk_cell ((hN.ty HX5.out sb _ _ H5.out.st.ctl.2 (by decide)).trans H5.out.st.ctl.2) 3, (hN.2 mb (blk_lt mp1) (fun e => ?_)).trans mp1⟩
    rw [e, HX5.out] at mp1
    injection mp1 with mp1
    cases mp1)
   have HLV := Lib.hid (show ∀ (k : Int) (v : Value), lookE k es = some v → v = .agg #[] from fun k v hv => look_val mp3 hv)
   clear mp1 mp2 mp3 HB6 HN11 HN15 HN13 HV4 HV5 HX5
   go_wp2_with fail
   obtain ⟨f46, hf46⟩ : ∃ f, f = bk46 (n : Int) A4 m4 c4 A5 m5 c5 str (wrap64 rl) str2 (wrap64 rh) := ⟨_, rfl⟩
   have HFE := Lib.hid hf46
   have HX16 := Lib.hid (show w15.heap[k11]? = some (.cells (f46 (.slice none 0 0)) 46 (0, 0)) by rw [hf46]; exact HX15.out)
   have HFF := Lib.hid (show (∀ v u, (f46 v).setIfInBounds 10 u = f46 u) ∧ ∀ v, (f46 v)[10]? = some v by rw [hf46]; exact ⟨fun v u => rfl, fun v => rfl⟩)
   clear hf46 HX15
   go_loopg [98] ls.length (fun kq v98 wr => ∃ i : Nat, v98 = .int .i64 (i : Int) ∧ Aside0 (i + kq = ls.length ∧ ∃ A nn cc ys, RuL w15 wr k11 f46 (10000 * i) A nn cc ys))
   case atStart => exact ⟨0, rfl, ⟨by omega, none, 0, 0, [], ⟨Nb.refl _ _, HX16.out, Kd.R_nil _ _ _ _ _, by simp⟩⟩⟩
   case round =>
    obtain ⟨wq, rfl⟩ : ∃ wq, wq = wr := ⟨_, rfl⟩
    obtain ⟨gq, rfl⟩ : ∃ gq, gq = gk := ⟨_, rfl⟩
    obtain ⟨i, rfl, HQI⟩ := hrel
    have HI := Lib.hid HQI.out.1
    have HF0 := Lib.hid HQI.out.2
    clear HQI
    by_cases hi : i < ls.length
    ·have d1 : decide ((i : Int) < (ls.length : Int)) = true := decide_eq_true (by omega)
     have si : IntKind.i64.wrap ((i : Int) + 1) = ((i + 1 : Nat) : Int) := by rw [IntWalk.i64_in _ (by have := HX.out; omega)]; omega
     have HGK := Lib.hid (show gq - 1 < gq ∧ i + 1 + (gq - 1) = ls.length by have := HI.out; omega)
     have HFW := Lib.hid (show FrT w wq by obtain ⟨A, nn, cc, ys, hF⟩ := HF0.out; exact HFRN.out _ hF.nb)
     obtain ⟨ad, cz, hA, _, hFK, hcz, hokz⟩ := Kd.F_get HC.out [] (i : Int) (by omega) (by omega)
     obtain ⟨A9, c9, ecz, hc9, hF9⟩ := Kd.FK_slice_open hFK
     subst hA
     subst ecz
     have hcell : wq.cell? (ad.add i) = some (.slice A9 (ls.getD i []).length c9) := by
      have h := hcz 0 _ rfl
      rw [Int.toNat_natCast] at h
      have h2 : w.cell? (ad.add i) = some (.slice A9 (ls.getD i []).length c9) := by simpa [Kd.slice] using h
      refine (World.cell?_of_block (HFS.out wq HFW.out _ ?_ (World.block_lt_of_cell? w _ h2))).trans h2
      have hb := hokz (by decide)
      have e : (ad.add i).block = ad.block := by unfold Addr.add; split <;> rfl
      rw [e]
      exact hb
     have HR := Lib.hid hF9
     have hl := HLS.out (ls.getD i []) (by simp [hi])
     clear hFK hcz hokz hF9 HI
     rw [Int.toNat_natCast] at HR hc9
     have HLI := Lib.hid hl
     have HCI := Lib.hid hc9
     clear hl hc9
     generalize ls.getD i [] = l at *
     go_wp2_with fail
     go_loopg [104] l.length (fun kq v104 wr => ∃ j : Nat, v104 = .int .i64 (j : Int) ∧ Aside0 (j + kq = l.length ∧ ∃ A nn cc ys, RuL w15 wr k11 f46 (10000 * i + j) A nn cc ys))
     case atStart => exact ⟨0, rfl, ⟨by omega, HF0.out⟩⟩
     case round =>
      clear hcell
      obtain ⟨wz, rfl⟩ : ∃ wz, wz = wr := ⟨_, rfl⟩
      obtain ⟨j, rfl, HQJ⟩ := hrel
      have HJ := Lib.hid HQJ.out.1
      have HFJ := Lib.hid HQJ.out.2
      clear HQJ
      by_cases hj : j < l.length
      ·have d2 : decide ((j : Int) < (l.length : Int)) = true := decide_eq_true (by omega)
       have sj : IntKind.i64.wrap ((j : Int) + 1) = ((j + 1 : Nat) : Int) := by rw [IntWalk.i64_in _ (by have := HLI.out.1; omega)]; omega
       have HGJ := Lib.hid (show gk - 1 < gk ∧ j + 1 + (gk - 1) = l.length by have := HJ.out; omega)
       obtain ⟨A, nn, cc, ys, hF⟩ := HFJ.out
       have HF := Lib.hid hF
       clear hF HFJ
       obtain ⟨ad2, hA2, k0, k1, k2, k3, k4, k5, k6, k7, k8⟩ := at_T68 (Kd.F_now (Kd.F_step HR.out (HFS.out wz (HFRN.out _ HF.out.nb)))) (j : Int) (by omega) (by omega)
       subst hA2
       have e0 : rd_T68 l (j : Int) = l.getD j z68 := by unfold rd_T68; rw [Int.toNat_natCast]
       rw [e0] at k0 k1 k2 k3 k4 k5 k6 k7 k8
       rw [Int.toNat_natCast] at k0 k1 k2 k3 k4 k5 k6 k7 k8
       have hit := (HLI.out.2 (l.getD j z68) (by simp [hj])).n0
       clear HJ e0
       generalize l.getD j z68 = t at *
       obtain ⟨g0, g1, g2, g3, g4, g5, g6, g7, g8⟩ := t
       dsimp only at k0 k1 k2 k3 k4 k5 k6 k7 k8 hit
       go_upto_region 25 with (fail)
       obtain ⟨w20, hw20⟩ : ∃ w20, w20 = wz.alloc (.cells #[.int .i64 g0, .string g1, .int .i64 g2, .string g3, .int .i64 g4, .int .i64 g5, .int .i64 g6, .int .i64 g7, .int .i64 g8] 68) := ⟨_, rfl⟩
       rw [← hw20]
       obtain ⟨k17, hk17⟩ : ∃ b, b = wz.heap.size := ⟨_, rfl⟩
       rw [← hk17]
       have HB20 := Lib.hid (show Below wz.heap.size wz w20 by rw [hw20]; exact below_alloc (Below.refl _ _) _)
       have HY := Lib.hid (show w20.heap[k17]? = some (.cells #[.int .i64 g0, .string g1, .int .i64 g2, .string g3, .int .i64 g4, .int .i64 g5, .int .i64 g6, .int .i64 g7, .int .i64 g8] 68 (0, 0)) by rw [hw20, hk17]; exact blk_new wz _)
       clear hw20 hk17 k0 k1 k2 k3 k4 k5 k6 k7 k8
       have HF20 := Lib.hid (HF.out.below HB20.out)
       obtain ⟨p1, p2, p3⟩ := HMP.out w20 HF20.out.nb
       obtain ⟨r, hr⟩ : ∃ r, (lookE g0 es).isSome = r := ⟨_, rfl⟩
       have K67 := Lib.hid (running_calls (w := w20) p1 p2 p3 hr (fun v hv => HLV.out g0 v hv))
       have u0 := u64_in hit
       have y0 := blk_cell HY.out 0
       clear p1 p2 p3 hr
       go_wp2_with fail
       refine K67.out.mono ?_
       rintro e21 w21 ⟨rfl, hb21⟩
       have HF21 := Lib.hid (HF20.out.below hb21)
       have y0' : w21.cell? ⟨k17, 0, none⟩ = some (.int .i64 g0) := (hb21.cell (World.block_lt_of_cell? w20 _ y0)).trans y0
       have m10 : w21.cell? ⟨k11, 10, none⟩ = some (.slice A nn cc) := (blk_cell HF21.out.blk 10).trans (HFF.out.2 _)
       clear hb21 y0 K67
       cases r with
       | true =>
        go_wp2_with (first | ((with_reducible refine gate_builtin (b := .append) (xs := #[.tmp 114, .tmp 117]) rfl ?_); at_builtin; refine Kd.R_append (Kd.int .i64) (w0 := w21) w15.heap.size rfl (.tmp 114) (.tmp 117) 28 3 (.int .i64 0) 8 rfl Tryz.underlying28 info3 rfl (by decide) (by omega) (.slice A nn cc) ys g0 [.int .i64 g0] (fun _ => True) (fun _ => False) rfl rfl ?aP (fun _ hk => hk.elim) ?aF ?aO ?aB ?aS ?aL ?_; (case aP => exact rfl); (case aB => exact Below.refl _ _); (case aF => exact (fun _ _ => trivial)); (case aO => exact HF21.out.row); (case aS => exact HF21.out.nb.1.size); (case aL => (have h1 := HF21.out.len; have h2 := HLI.out.1; have h3 := HX.out.2.1; omega)); intro v22 w22 ho hb hg hat; obtain ⟨n22, A22, c22, hv⟩ : ∃ n A c, v22 = .slice A n c := (by obtain ⟨A, c, e⟩ := Kd.R_slice ho; exact ⟨_, A, c, e⟩); subst hv; have HF22 := Lib.hid (HF21.out.set HFF.out.1 ho hg); have h22 : w22.heap[k11]? = some (.cells (f46 (.slice A nn cc)) 46 (0, 0)) := (hg.block k11 (blk_lt HF21.out.blk) (fun e => by (obtain ⟨cs2, hc2⟩ := Kd.R_typed HF21.out.row k11 e.symm; rw [HF21.out.blk] at hc2; injection hc2 with hc2; injection hc2 with _ e _; exact absurd e (by decide)))).trans HF21.out.blk; have m10' : w22.cell? ⟨k11, 10, none⟩ = some (.slice A nn cc) := (blk_cell h22 10).trans (HFF.out.2 _); have m10f := blk_frozen h22 10; clear ho hb hg hat h22))
        go_roundg (gk - 1)
        case measure => exact HGJ.out.1
        case rel => exact ⟨j + 1, rfl, ⟨HGJ.out.2, A22, n22, c22, _, HF22.out⟩⟩
       | false =>
        go_wp2_with fail
        go_roundg (gk - 1)
        case measure => exact HGJ.out.1
        case rel => exact ⟨j + 1, rfl, ⟨HGJ.out.2, A, nn, cc, _, HF21.out.mono (by omega)⟩⟩
      ·have d2 : decide ((j : Int) < (l.length : Int)) = false := decide_eq_false (by omega)
       have HFE2 := Lib.hid (show ∃ A nn cc ys, RuL w15 wz k11 f46 (10000 * (i + 1)) A nn cc ys by
        obtain ⟨A, nn, cc, ys, hF⟩ := HFJ.out
        exact ⟨A, nn, cc, ys, hF.mono (by have := HJ.out; have := HLI.out.1; omega)⟩)
       go_wp2_with fail
       go_roundg (gq - 1)
       case measure => exact HGK.out.1
       case rel => exact ⟨i + 1, rfl, ⟨HGK.out.2, HFE2.out⟩⟩
    ·have d1 : decide ((i : Int) < (ls.length : Int)) = false := decide_eq_false (by omega)
     obtain ⟨A, nn, cc, ys, hF⟩ := HF0.out
     have HF := Lib.hid hF
     have hblk : wq.heap[k11]? = some (.cells (bk46 (n : Int) A4 m4 c4 A5 m5 c5 str (wrap64 rl) str2 (wrap64 rh) (.slice A nn cc)) 46 (0, 0)) := by rw [← HFE.out]; exact hF.blk
     clear HF0 hF
     have x0 : wq.cell? ⟨k11, 0, none⟩ = some (.bool true) := blk_cell hblk 0
     have x1 : wq.cell? ⟨k11, 1, none⟩ = some (.int .i64 0) := blk_cell hblk 1
     have x2 : wq.cell? ⟨k11, 2, none⟩ = some (.int .i64 (n : Int)) := blk_cell hblk 2
     have x3 : wq.cell? ⟨k11, 3, none⟩ = some (.slice A4 m4 c4) := blk_cell hblk 3
     have x4 : wq.cell? ⟨k11, 4, none⟩ = some (.slice A5 m5 c5) := blk_cell hblk 4
     have x5 : wq.cell? ⟨k11, 5, none⟩ = some (.string str) := blk_cell hblk 5
     have x6 : wq.cell? ⟨k11, 6, none⟩ = some (.int .i64 (wrap64 rl)) := blk_cell hblk 6
     have x7 : wq.cell? ⟨k11, 7, none⟩ = some (.string str2) := blk_cell hblk 7
     have x8 : wq.cell? ⟨k11, 8, none⟩ = some (.int .i64 (wrap64 rh)) := blk_cell hblk 8
     have x9 : wq.cell? ⟨k11, 9, none⟩ = some (.bool false) := blk_cell hblk 9
     have x10 : wq.cell? ⟨k11, 10, none⟩ = some (.slice A nn cc) := blk_cell hblk 10
     have hN := HNA.out.trans HF.out.nb
     have hw8 : w4.heap.size ≤ w8.heap.size := Nat.le_trans HB5.out.size (Nat.le_trans HB6s.out HN8.out.1.size)
     have hw0 : w.heap.size ≤ w4.heap.size := (below_step HB2.out HB24.out).size
     have hqE : ∀ q ∈ 46 :: k46.E, q ∉ [144, 126] ∧ q ≠ 107 := by decide
     have HRV := Lib.hid (show Kd.R k46 46 wq w.heap.size (fun _ => True) (.slice A8 n8 c8) [] from Kd.R_lower (Kd.R_mono (Kd.R_step (Kd.R_bound HR3.out) (fun k hk hl => by
      obtain ⟨_, _, hlt, q, hq, cells, hc⟩ := hk
      have h4 := HB4.out.block k hlt
      obtain ⟨e1, e2⟩ := hqE q hq
      have h5 := HF5.out k cells q (h4.trans hc) e1 (fun e => by
       have h := HLP4.out
       rw [← e, h4, hc] at h
       injection h with h
       injection h with _ e _
       exact e2 e)
      have hkk := HKK.out
      exact ((hN.2 k (blk_lt (h5.trans (h4.trans hc))) (by omega)).trans h5).trans h4)) (fun _ _ => trivial)) HB2.out.size)
     have stay3 : ∀ {v : Value} {l : List Int}, Kd.R (Kd.int .i64) 3 w15 w8.heap.size (fun _ => True) v l → Kd.R (Kd.int .i64) 3 wq w.heap.size (fun k => w4.heap.size ≤ k) v l := fun {v l} h => Kd.R_lower (Kd.R_mono (Kd.R_bound (R_stay h rfl (fun k _ e => by
      obtain ⟨cs2, hc2⟩ := Kd.R_typed h k e
      exact HF.out.nb.ty HX16.out k _ _ hc2 (by decide)))) (fun k hk => Nat.le_trans hw8 hk.2.1)) (Nat.le_trans hw0 hw8)
     have hrow : Kd.R (Kd.int .i64) 3 wq w.heap.size (fun k => w4.heap.size ≤ k) (.slice A nn cc) ys := Kd.R_lower (Kd.R_mono (Kd.R_bound HF.out.row) (fun k hk => Nat.le_trans (Nat.le_trans HB5.out.size HNA.out.1.size) hk.2.1)) (Nat.le_trans hw0 (Nat.le_trans HB5.out.size HNA.out.1.size))
     have HM := Lib.hid (k46_mkM wq w.heap.size (fun k => w4.heap.size ≤ k) ⟨true, 0, (n : Int), LT, LB, str, wrap64 rl, str2, wrap64 rh, false, ys⟩ (stay3 HV4'.out) (stay3 HV5'.out) hrow)
     have HOW := Lib.hid (show ∀ k, w4.heap.size ≤ k → True ∧ some k ≠ (Value.slice A8 n8 c8).ownBlock from fun k hk => ⟨trivial, fun e => by
      have h1 := Kd.R_lt HR3.out k e.symm
      have h2 := HB4.out.size
      omega⟩)
     have HSZ9 := Lib.hid (Nat.le_trans hw0 (Nat.le_trans HB5.out.size hN.1.size))
     have HFW := Lib.hid (HFRN.out _ HF.out.nb)
     clear hblk hN hw8 hw0 hqE stay3 hrow
     go_wp2_with (first | ((with_reducible refine gate_builtin (b := .append) (xs := #[.tmp 122, .tmp 124]) rfl ?_); at_builtin; refine Kd.R_append k46 (w0 := wq) w.heap.size rfl (.tmp 122) (.tmp 124) 38 46 (.agg #[(.bool false), (.int .i64 0), (.int .i64 0), (.slice none 0 0), (.slice none 0 0), (.string ⟨#[]⟩), (.int .i64 0), (.string ⟨#[]⟩), (.int .i64 0), (.bool false), (.slice none 0 0)]) 152 rfl Tryz.underlying38 info46 rfl (by decide) (by omega) (.slice A8 n8 c8) [] ⟨true, 0, (n : Int), LT, LB, str, wrap64 rl, str2, wrap64 rh, false, ys⟩ [.bool true, .int .i64 0, .int .i64 (n : Int), .slice A4 m4 c4, .slice A5 m5 c5, .string str, .int .i64 (wrap64 rl), .string str2, .int .i64 (wrap64 rh), .bool false, .slice A nn cc] (fun _ => True) (fun k => w4.heap.size ≤ k) rfl rfl ?aP HOW.out ?aF ?aO ?aB ?aS ?aL ?_; (case aP => exact HM.out); (case aB => exact Below.refl _ _); (case aF => exact (fun _ _ => trivial)); (case aO => exact HRV.out); (case aS => exact HSZ9.out); (case aL => exact (by decide)); intro v9 w23 ho hb hg hat; obtain ⟨n23, A23, c23, hv⟩ : ∃ n A c, v9 = .slice A n c := (by obtain ⟨A, c, e⟩ := Kd.R_slice ho; exact ⟨_, A, c, e⟩); subst hv; have HR23 := Lib.hid ho; have HFR23 := Lib.hid (show FrT w w23 from ⟨HFW.out.1.trans ((Below.refl 0 wq).grown hg (Nat.zero_le _) (fun _ _ => Nat.zero_le _)), fun b hb2 => (hg.block b (Nat.lt_of_lt_of_le hb2 HFW.out.1.size) (fun e => by (have h1 := Kd.R_base HRV.out b e.symm; omega))).trans (HFW.out.2 b hb2)⟩); clear ho hb hg hat))
     go_roundg 0
     case measure => exact Nat.zero_lt_one
     case rel => exact ⟨1, n23, A23, c23, rfl, rfl, ⟨rfl, HFR23.out, .inr ⟨rfl, _, HR23.out, rfl, by first | rfl | exact HLT.out.symm, by first | rfl | exact HLB2.out.symm⟩⟩⟩
  ·have HE := Lib.hid (show Run1Post w (takeTop rE x0) (botL xn (rgOf (takeTop rE x0))) (.returned (.slice A8 n8 c8)) wr from ⟨_, x, rfl, hr, hx0, hx3, hx4, hfr⟩)
   clear hr hx0 hx3 hx4 hfr hjk
   go_wp2_with fail
   rw [HQ.out]
   exact HE.out
end Go.Proofs.YtnineoajmgneiaaGreat.Rg
namespace Go.Proofs.YtnineoajmgneiaaGreat.Lw
open Go.RowKit YtnineoajmgneiaaGreatW YtnineoajmgneiaaGreatW.PrintWords YtnineoajmgneiaaGreatW.PrintLast YtnineoajmgneiaaGreatW.PrintMore Fr L Ky Tm Lm It Tg Sk Nw Bd Tp Rg Pk
open YtnineoajmgneiaaGreat.Od (ord)
set_option linter.unusedVariables false
set_option linter.unusedSimpArgs false
def T1 : S68 := ⟨1, ⟨#[97]⟩, 0, ⟨#[98]⟩, 0, 5, 0, 0, 0⟩
def T2 : S68 := ⟨2, ⟨#[97]⟩, 0, ⟨#[99]⟩, 0, 5, 0, 0, 0⟩
def LS : List (List S68) := [[T1], [T2]]
def XS : List (List Tb) := LS.map (·.map tbOf)
def OP : Lm.Op := ⟨2, 10, 2, 1, 1000, 100, 100, 0⟩
def tcl (t : S68) : List Value := [.int .i64 t.f0, .string t.f1, .int .i64 t.f2, .string t.f3, .int .i64 t.f4, .int .i64 t.f5, .int .i64 t.f6, .int .i64 t.f7, .int .i64 t.f8]
theorem one_C {W : World} {b : Nat} {t : S68} (h : W.heap[b]? = some (.cells (tcl t).toArray 68 (0, 0))) : Kd.C k68 W (some ⟨b, 0, none⟩) 1 [t] := by
  refine ⟨rfl, by omega, fun _ => ⟨_, rfl, fun j p hj => ?_⟩⟩
  cases j with
  | zero =>
    simp only [List.getElem?_cons_zero, Option.some.injEq] at hj
    subst hj
    refine ⟨tcl t, rfl, k68_mk W t, fun i u hi => ?_⟩
    rw [Addr.add_lit, blk_cell h, show 0 + (0 * k68.sz + i) = i by omega, List.getElem?_toArray]
    exact hi
  | succ j => simp at hj
theorem ls_C {W : World} {b0 b1 b2 : Nat} (h0 : W.heap[b0]? = some (.cells (tcl T1).toArray 68 (0, 0))) (h1 : W.heap[b1]? = some (.cells (tcl T2).toArray 68 (0, 0)))
    (h2 : W.heap[b2]? = some (.cells #[.slice (some ⟨b0, 0, none⟩) 1 1, .slice (some ⟨b1, 0, none⟩) 1 1] 34 (0, 0))) : Kd.C (Kd.slice 68 k68) W (some ⟨b2, 0, none⟩) LS.length LS := by
  refine ⟨rfl, by decide, fun _ => ⟨_, rfl, fun j p hj => ?_⟩⟩
  match j, hj with
  | 0, hj =>
    obtain rfl : [T1] = p := by simpa [LS] using hj
    refine ⟨[.slice (some ⟨b0, 0, none⟩) 1 1], rfl, ⟨_, 1, rfl, Nat.le_refl _, one_C h0⟩, fun i u hi => ?_⟩
    cases i with
    | zero => rw [Addr.add_lit, blk_cell h2]; exact hi
    | succ i => simp at hi
  | 1, hj =>
    obtain rfl : [T2] = p := by simpa [LS] using hj
    refine ⟨[.slice (some ⟨b1, 0, none⟩) 1 1], rfl, ⟨_, 1, rfl, Nat.le_refl _, one_C h1⟩, fun i u hi => ?_⟩
    cases i with
    | zero => rw [Addr.add_lit, blk_cell h2]; exact hi
    | succ i => simp at hi
  | j + 2, hj => simp [LS] at hj
theorem int_C {W : World} {b t : Nat} {x : Int} (h : W.heap[b]? = some (.cells #[.int .i64 x] t (0, 0))) : Kd.C (Kd.int .i64) W (some ⟨b, 0, none⟩) 1 [x] := by
  refine ⟨rfl, by omega, fun _ => ⟨_, rfl, fun j p hj => ?_⟩⟩
  cases j with
  | zero =>
    simp only [List.getElem?_cons_zero, Option.some.injEq] at hj
    subst hj
    refine ⟨[.int .i64 x], rfl, rfl, fun i u hi => ?_⟩
    cases i with
    | zero => rw [Addr.add_lit, blk_cell h]; exact hi
    | succ i => simp at hi
  | succ j => simp at hj
theorem in1 (n : Int) (hn : 0 ≤ n ∧ n ≤ 1099511627776) (s t : ByteArray) (hs : s.size ≤ 2000000) (ht : t.size ≤ 2000000) : InTab ⟨n, s, 0, t, 0, 5, 0, 0, 0⟩ := by
  refine ⟨hn, hs, ?_, ht, ?_, ?_, ?_, ?_, ?_⟩ <;> simp
theorem LS_in : ∀ l ∈ LS, ∀ t ∈ l, InTab t := by
  intro l hl t ht
  simp only [LS, List.mem_cons, List.not_mem_nil, or_false] at hl
  rcases hl with rfl | rfl
  · simp only [List.mem_cons, List.not_mem_nil, or_false] at ht
    rw [ht]
    exact in1 _ (by omega) _ _ (by decide) (by decide)
  · simp only [List.mem_cons, List.not_mem_nil, or_false] at ht
    rw [ht]
    exact in1 _ (by omega) _ _ (by decide) (by decide)
theorem LS_len : ∀ l ∈ LS, l.length = 1 := by
  intro l hl
  simp only [LS, List.mem_cons, List.not_mem_nil, or_false] at hl
  rcases hl with rfl | rfl <;> rfl
theorem XS_ord : ∀ (i : Nat) (l : List Tb), XS[i]? = some l → Od.SW l.length (It.ltOf i l) ∧ ord l.length (It.ltOf i l) = List.range l.length := by
  intro i l h
  have hm := List.mem_of_getElem? h
  obtain ⟨l0, h0, rfl⟩ := List.mem_map.1 hm
  refine Oo.ord_of (fun a b hab hb => ?_)
  rw [List.length_map, LS_len l0 h0] at hb
  omega
theorem XS_klen : ∀ l ∈ XS, ∀ t ∈ l, KLen t := by
  have hk : ∀ s : ByteArray, s.size ≤ 10 → 8 ≤ (Tm.keyOf s 0).length ∧ (Tm.keyOf s 0).length ≤ 100000000 := fun s hs => by
    unfold Tm.keyOf
    rw [List.length_append, show (be64b (top 0)).length = 8 from rfl, Tm.list_size]
    omega
  intro l hl t ht
  obtain ⟨l0, h0, rfl⟩ := List.mem_map.1 hl
  obtain ⟨t0, h1, rfl⟩ := List.mem_map.1 ht
  simp only [LS, List.mem_cons, List.not_mem_nil, or_false] at h0
  rcases h0 with rfl | rfl
  · simp only [List.mem_cons, List.not_mem_nil, or_false] at h1
    rw [h1]
    exact ⟨hk _ (by decide), hk _ (by decide)⟩
  · simp only [List.mem_cons, List.not_mem_nil, or_false] at h1
    rw [h1]
    exact ⟨hk _ (by decide), hk _ (by decide)⟩
theorem bl_one : Tg.bl4 OP (XS.map total) = ((1 : Nat) : Int) := by
  have hl : (XS.map total).length = 2 := rfl
  have h := Tg.bl4_range OP (XS.map total) (by rw [hl]; omega)
  rw [hl] at h
  omega
theorem ten : floatOfInt FloatKind.f64 10 = 4621819117588971520 := by decide +kernel
theorem tops : (takeTop rE [tbOf T1]).map (·.num) = [1] := by kernel_rfl
theorem bots : (botL [tbOf T2] (rgOf (takeTop rE [tbOf T1]))).map (·.num) = [2] := by kernel_rfl
theorem mono1 (t : Tb) (r : Rg) : Mono [t] r := by
  refine ⟨fun a b hab hb h => ?_, fun a b hab hb h => ?_⟩
  · have : a = b := by simp at hb; omega
    rw [← this]; exact h
  · have : a = b := by simp at hb; omega
    rw [← this]; exact h
theorem ltrt : ltN [tbOf T2] (rgOf (takeTop rE [tbOf T1])) ≤ rtN [tbOf T2] (rgOf (takeTop rE [tbOf T1])) := by decide +kernel
theorem one_pick {S : Nat → Nat} {qs : List Q3} (h : Picked (XS.length - 1) S qs) (h0 : ONE ≤ S 0) : qs.length = 1 := by
  have e := h.perm.length_eq
  rw [List.length_map, List.length_map, show XS.length - 1 = 1 from rfl, show List.range 1 = [0] from rfl, List.filter_cons_of_pos (by exact decide_eq_true h0)] at e
  exact e
set_option maxRecDepth 100000 in
set_option maxHeartbeats 4000000 in
theorem work_calls {w : World} : Calls Tryz.prog 24 #[] w fun e w' => e = .returned (.bool true) ∧ Below w.heap.size w w' := by
  obtain ⟨Q, hQ⟩ : ∃ Q : Ending → World → Prop, Q = fun e w' => e = .returned (.bool true) ∧ Below w.heap.size w w' := ⟨_, rfl⟩
  rw [← hQ]
  have HQ := Lib.hid hQ
  clear hQ
  go_enter Tryz.func24, Tryz.ntmps24
  go_upto_region 3 with (fail)
  obtain ⟨b0, hb0⟩ : ∃ b, b = w.heap.size := ⟨_, rfl⟩
  obtain ⟨b1, hb1⟩ : ∃ b, b = b0 + 1 := ⟨_, rfl⟩
  obtain ⟨b2, hb2⟩ : ∃ b, b = b1 + 1 := ⟨_, rfl⟩
  obtain ⟨b3, hb3⟩ : ∃ b, b = b2 + 1 := ⟨_, rfl⟩
  obtain ⟨wa, hwa⟩ : ∃ wa, wa = w.alloc (.cells (tcl T1).toArray 68) := ⟨_, rfl⟩
  obtain ⟨wb, hwb⟩ : ∃ wb, wb = wa.alloc (.cells (tcl T2).toArray 68) := ⟨_, rfl⟩
  obtain ⟨wc, hwc⟩ : ∃ wc, wc = wb.alloc (.cells #[.slice (some ⟨b0, 0, none⟩) 1 1, .slice (some ⟨b1, 0, none⟩) 1 1] 34) := ⟨_, rfl⟩
  obtain ⟨w1, hw1⟩ : ∃ w1, w1 = wc.alloc (.cells #[.int .i64 2, .int .i64 10, .int .i64 2, .int .i64 1, .int .i64 1000, .int .i64 100, .int .i64 100, .int .i64 0] 24) := ⟨_, rfl⟩
  have ha : Below w.heap.size w wa := by rw [hwa]; exact below_alloc (Below.refl _ _) _
  have hb : Below wa.heap.size wa wb := by rw [hwb]; exact below_alloc (Below.refl _ _) _
  have hc : Below wb.heap.size wb wc := by rw [hwc]; exact below_alloc (Below.refl _ _) _
  have hd : Below wc.heap.size wc w1 := by rw [hw1]; exact below_alloc (Below.refl _ _) _
  have sa : wa.heap.size = b1 := by rw [hwa, Nw.szA, hb1, hb0]
  have sb : wb.heap.size = b2 := by rw [hwb, Nw.szA, sa, hb2]
  have sc : wc.heap.size = b3 := by rw [hwc, Nw.szA, sb, hb3]
  have h0 : wa.heap[b0]? = some (.cells (tcl T1).toArray 68 (0, 0)) := by rw [hwa, hb0]; exact blk_new w _
  have h1 : wb.heap[b1]? = some (.cells (tcl T2).toArray 68 (0, 0)) := by rw [hwb, ← sa]; exact blk_new wa _
  have h2 : wc.heap[b2]? = some (.cells #[.slice (some ⟨b0, 0, none⟩) 1 1, .slice (some ⟨b1, 0, none⟩) 1 1] 34 (0, 0)) := by rw [hwc, ← sb]; exact blk_new wb _
  have h3 : w1.heap[b3]? = some (.cells #[.int .i64 2, .int .i64 10, .int .i64 2, .int .i64 1, .int .i64 1000, .int .i64 100, .int .i64 100, .int .i64 0] 24 (0, 0)) := by rw [hw1, ← sc]; exact blk_new wc _
  have X2 := (hd.block _ (blk_lt h2)).trans h2
  have X1 := (hd.block _ (Nat.lt_of_lt_of_le (blk_lt h1) hc.size)).trans ((hc.block _ (blk_lt h1)).trans h1)
  have hX0 := (hb.block _ (blk_lt h0)).trans h0
  have X0 := (hd.block _ (Nat.lt_of_lt_of_le (blk_lt hX0) hc.size)).trans ((hc.block _ (blk_lt hX0)).trans hX0)
  have HX0 := Lib.hid X0
  have HX1 := Lib.hid X1
  have HX2 := Lib.hid X2
  have HX3 := Lib.hid h3
  have HB1 := Lib.hid (below_step (below_step (below_step ha hb) hc) hd)
  rw [show (((w.alloc (.cells #[.int .i64 1, .string ⟨#[97]⟩, .int .i64 0, .string ⟨#[98]⟩, .int .i64 0, .int .i64 5, .int .i64 0, .int .i64 0, .int .i64 0] 68)).alloc (.cells #[.int .i64 2, .string ⟨#[97]⟩, .int .i64 0, .string ⟨#[99]⟩, .int .i64 0, .int .i64 5, .int .i64 0, .int .i64 0, .int .i64 0] 68)).alloc (.cells #[.slice (some ⟨w.heap.size, 0, none⟩) 1 1, .slice (some ⟨w.heap.size + 1, 0, none⟩) 1 1] 34)).alloc (.cells #[.int .i64 2, .int .i64 10, .int .i64 2, .int .i64 1, .int .i64 1000, .int .i64 100, .int .i64 100, .int .i64 0] 24) = w1 by rw [hw1, hwc, hwb, hwa, hb1, hb0]; rfl]
  rw [← hb0, ← hb1, ← hb2, ← hb3]
  clear ha hb hc hd sa sb sc h0 h1 h2 h3 X0 X1 X2 hX0 hw1 hwc hwb hwa hb0 hb1 hb2 hb3
  have o0 := blk_cell HX3.out 0
  have o1 := blk_cell HX3.out 1
  have o2 := blk_cell HX3.out 2
  have o3 := blk_cell HX3.out 3
  have o4 := blk_cell HX3.out 4
  have o5 := blk_cell HX3.out 5
  have o6 := blk_cell HX3.out 6
  have o7 := blk_cell HX3.out 7
  go_wp2_with fail
  obtain ⟨w2, hw2⟩ : ∃ w2, w2 = w1.alloc (.cells #[.int .i64 0, .int .i64 0, .int .i64 1, .int .i64 10, .int .i64 0] 42) := ⟨_, rfl⟩
  rw [← hw2]
  obtain ⟨gs, hgs⟩ : ∃ b, b = w1.heap.size := ⟨_, rfl⟩
  rw [← hgs]
  have HB2 := Lib.hid (show Below w1.heap.size w1 w2 by rw [hw2]; exact below_alloc (Below.refl _ _) _)
  have HG2 := Lib.hid (show w2.heap[gs]? = some (.cells #[.int .i64 0, .int .i64 0, .int .i64 1, .int .i64 10, .int .i64 0] 42 (0, 0)) by rw [hw2, hgs]; exact blk_new w1 _)
  clear hw2 hgs o0 o1 o2 o3 o4 o5 o6 o7
  have HY0 := Lib.hid ((HB2.out.block _ (blk_lt HX0.out)).trans HX0.out)
  have HY1 := Lib.hid ((HB2.out.block _ (blk_lt HX1.out)).trans HX1.out)
  have HY2 := Lib.hid ((HB2.out.block _ (blk_lt HX2.out)).trans HX2.out)
  have HY3 := Lib.hid ((HB2.out.block _ (blk_lt HX3.out)).trans HX3.out)
  have K55 := Lib.hid (run1_calls (w := w2) (A0 := some ⟨b2, 0, none⟩) (gs := gs) (c0 := 2) (sc0 := 1) (n := 1) (sc := dq 10 10) (fx := floatOfInt FloatKind.f64 10) (comp := 1) (tn := 10) (dnum := 0) (ls := LS) (m := 2) (a := 10) (b := 2) (c := 1) (d := 1000) (e := 100) (f := 100) (g := 0) (xs := XS) (x0 := [tbOf T1]) (xn := [tbOf T2]) rfl (ok := fun k => k = b0 ∨ k = b1 ∨ k = b2)
    (fun W hW => ls_C ((hW b0 (.inl rfl) (blk_lt HY0.out)).trans HY0.out) ((hW b1 (.inr (.inl rfl)) (blk_lt HY1.out)).trans HY1.out) ((hW b2 (.inr (.inr rfl)) (blk_lt HY2.out)).trans HY2.out))
    (fun k hk => by rcases hk with rfl | rfl | rfl; exact ⟨_, _, HY0.out, by decide⟩; exact ⟨_, _, HY1.out, by decide⟩; exact ⟨_, _, HY2.out, by decide⟩)
    (by decide) rfl (by decide) (by decide) (fun l hl => by rw [LS_len l hl]; omega) LS_in XS_ord rfl (by omega) (by omega)
    (blk_cell HG2.out 0) (blk_cell HG2.out 1) (blk_cell HG2.out 2) (blk_cell HG2.out 3) (blk_cell HG2.out 4)
    (fun W => run_convert_int_float W 3 62 .i64 .f64 10 (by kernel_rfl) (by kernel_rfl))
    (fun W => by have h := run_dq (a := 10) (b := 10) (by omega) (by omega) W; rw [ten] at h; rw [ten]; exact h)
    rfl rfl (by omega) bl_one XS_klen (Nat.le_of_lt (dq_facts (by omega) (by omega)).2.1)
    (by have h : 4607182418800017408 ≤ dq 10 10 := ((dq_facts (a := 10) (b := 10) (by omega) (by omega)).2.2).2 (by omega); unfold lowF; rw [decide_eq_false (p := dq 10 10 < 4607182418800017408) (by omega)]; simp)
    (by decide) (mono1 _ _) ltrt)
  go_wp2_with fail
  refine K55.out.mono ?_
  rintro e w3 ⟨v, x, rfl, hr, hx0, hx3, hx4, hfr⟩
  rw [tops] at hx3
  rw [bots] at hx4
  obtain ⟨nv, Av, cv, hv⟩ : ∃ n A c, v = .slice A n c := (by obtain ⟨A, c, e⟩ := Kd.R_slice hr; exact ⟨_, A, c, e⟩)
  subst hv
  obtain ⟨n1, lv, hC⟩ := Kd.R_reads' hr
  rw [show ([x] : List S46).length = 1 from rfl] at n1 hC
  subst n1
  have ty : ∀ {b t : Nat} {arr : Array Value}, w2.heap[b]? = some (.cells arr t (0, 0)) → t ∉ [144, 126] → w3.heap[b]? = some (.cells arr t (0, 0)) := fun h ht => (hfr.2 _ (blk_lt h)).trans h
  have HZ0 := Lib.hid (ty HY0.out (by decide))
  have HZ1 := Lib.hid (ty HY1.out (by decide))
  have HZ2 := Lib.hid (ty HY2.out (by decide))
  have HZ3 := Lib.hid (ty HY3.out (by decide))
  have HF := Lib.hid (show FrT w w3 from (FrT.of HB1.out).trans ((FrT.of HB2.out).trans hfr))
  have HC := Lib.hid hC
  have HX := Lib.hid (And.intro hx0 (And.intro hx3 hx4))
  clear ty hr hC hx0 hx3 hx4 hfr lv K55
  have K25 := Lib.hid (targets_calls (w := w3) (A0 := some ⟨b2, 0, none⟩) (c0 := 2) (ls := LS) (m := 2) (a := 10) (b := 2) (c := 1) (d := 1000) (e := 100) (f := 100) (g := 0) (xs := XS) rfl (ls_C HZ0.out HZ1.out HZ2.out) (by decide) rfl (by decide) (by decide) (fun l hl => by rw [LS_len l hl]; omega) LS_in XS_ord rfl (by omega) (by omega))
  have o0 := blk_cell HZ3.out 0
  have o1 := blk_cell HZ3.out 1
  have o2 := blk_cell HZ3.out 2
  have o3 := blk_cell HZ3.out 3
  have o4 := blk_cell HZ3.out 4
  have o5 := blk_cell HZ3.out 5
  have o6 := blk_cell HZ3.out 6
  have o7 := blk_cell HZ3.out 7
  go_wp2_with fail
  refine K25.out.mono ?_
  rintro e w4 ⟨A4, c4, B4, d4, rfl, _, _, _, _, hb4⟩
  rw [show bl4 ⟨2, 10, 2, 1, 1000, 100, 100, 0⟩ (List.map total XS) = ((1 : Nat) : Int) from bl_one]
  have HB4 := Lib.hid hb4
  have HF4 := Lib.hid (show FrT w w4 from HF.out.trans (FrT.of hb4))
  have HW3 := Lib.hid ((hb4.block _ (blk_lt HZ3.out)).trans HZ3.out)
  have HV0 := Lib.hid ((hb4.block _ (blk_lt HZ0.out)).trans HZ0.out)
  have HV1 := Lib.hid ((hb4.block _ (blk_lt HZ1.out)).trans HZ1.out)
  have HV2 := Lib.hid ((hb4.block _ (blk_lt HZ2.out)).trans HZ2.out)
  have HC4 := Lib.hid (Kd.C_below HC.out hb4)
  clear o0 o1 o2 o3 o4 o5 o6 o7 hb4 K25
  generalize (blT ⟨2, 10, 2, 1, 1000, 100, 100, 0⟩ (List.map total XS)).2.length = nn4
  generalize (files ⟨2, 10, 2, 1, 1000, 100, 100, 0⟩ (List.map total XS)).length = mm4
  obtain ⟨ad, A3, c3, A4', c4', A10, c10, eA, x0, -, -, x3, x4, -, -, -, -, -, -, l3, g3, l4, g4, -, -⟩ := at_T46 HC4.out 0 (by omega) (by omega)
  subst eA
  rw [show rd_T46 [x] 0 = x from rfl] at x0 x3 x4 l3 g3 l4 g4
  obtain ⟨hx0, hx3, hx4⟩ := HX.out
  rw [hx0] at x0
  rw [hx3] at x3 l3 g3
  rw [hx4] at x4 l4 g4
  rw [show ((0 : Int)).toNat * 11 = 0 from rfl] at x0 x3 x4
  have a0 : ad.add 0 = ad := Addr.add_zero' ad
  rw [a0] at x0 x3 x4
  have H3 := Lib.hid g3
  have H4 := Lib.hid g4
  have HL3 := Lib.hid l3
  have HL4 := Lib.hid l4
  clear hx0 hx3 hx4 l3 g3 l4 g4 a0
  go_wp2_with fail
  obtain ⟨w5, hw5⟩ : ∃ w5, w5 = w4.alloc (.cells #[.int .i64 1] 3) := ⟨_, rfl⟩
  rw [← hw5]
  obtain ⟨k5, hk5⟩ : ∃ b, b = w4.heap.size := ⟨_, rfl⟩
  rw [← hk5]
  have hb5 : Below w4.heap.size w4 w5 := by rw [hw5]; exact below_alloc (Below.refl _ _) _
  have hx5 : w5.heap[k5]? = some (.cells #[.int .i64 1] 3 (0, 0)) := by rw [hw5, hk5]; exact blk_new w4 _
  refine (laws_sameInts.calls 5 A3 c3 [1] (some ⟨k5, 0, none⟩) 1 [1] true w5 (Kd.C_below H3.out hb5) HL3.out (int_C hx5) (Nat.le_refl _) (by kernel_rfl)).mono ?_
  rintro e w6 ⟨rfl, hd6⟩
  have HB6 := Lib.hid (below_step hb5 hd6.below)
  have y4 := (HB6.out.cell (World.block_lt_of_cell? w4 _ x4)).trans x4
  clear hw5 hk5 hb5 hx5 hd6 x0 x3 x4
  go_wp2_with fail
  obtain ⟨w7, hw7⟩ : ∃ w7, w7 = w6.alloc (.cells #[.int .i64 2] 3) := ⟨_, rfl⟩
  rw [← hw7]
  obtain ⟨k7, hk7⟩ : ∃ b, b = w6.heap.size := ⟨_, rfl⟩
  rw [← hk7]
  have hb7 : Below w6.heap.size w6 w7 := by rw [hw7]; exact below_alloc (Below.refl _ _) _
  have hx7 : w7.heap[k7]? = some (.cells #[.int .i64 2] 3 (0, 0)) := by rw [hw7, hk7]; exact blk_new w6 _
  refine (laws_sameInts.calls 5 A4' c4' [2] (some ⟨k7, 0, none⟩) 1 [2] true w7 (Kd.C_below (Kd.C_below H4.out HB6.out) hb7) HL4.out (int_C hx7) (Nat.le_refl _) (by kernel_rfl)).mono ?_
  rintro e w8 ⟨rfl, hd8⟩
  have HB8 := Lib.hid (below_step HB6.out (below_step hb7 hd8.below))
  have HO8 := Lib.hid ((HB8.out.block _ (blk_lt HW3.out)).trans HW3.out)
  have K51 := Lib.hid (pick51_calls (w := w8) (A0 := some ⟨b2, 0, none⟩) (c0 := 2) (ls := LS) (m := 2) (a := 10) (b := 2) (c := 1) (d := 1000) (e := 100) (f := 100) (g := 0) (xs := XS) rfl (ls_C ((HB8.out.block _ (blk_lt HV0.out)).trans HV0.out) ((HB8.out.block _ (blk_lt HV1.out)).trans HV1.out) ((HB8.out.block _ (blk_lt HV2.out)).trans HV2.out)) (by decide) rfl (by decide) (by decide) (fun l hl => by rw [LS_len l hl]; omega) LS_in XS_ord rfl (by omega) (by omega) (by omega))
  clear hw7 hk7 hb7 hx7 hd8 y4
  have o0 := blk_cell HO8.out 0
  have o1 := blk_cell HO8.out 1
  have o2 := blk_cell HO8.out 2
  have o3 := blk_cell HO8.out 3
  have o4 := blk_cell HO8.out 4
  have o5 := blk_cell HO8.out 5
  have o6 := blk_cell HO8.out 6
  have o7 := blk_cell HO8.out 7
  go_wp2_with fail
  refine K51.out.mono ?_
  rintro e w9 ⟨A9, c9, qs, rfl, _, _, hpk, _, hb9⟩
  rw [one_pick hpk ((dq_facts (a := 1) (b := 1) (by omega) (by omega)).2.2.2 (by omega))]

  have HF9 := Lib.hid (show FrT w w9 from HF4.out.trans ((FrT.of HB8.out).trans (FrT.of hb9)))
  clear hpk hb9 o0 o1 o2 o3 o4 o5 o6 o7
  go_wp2_with fail
  rw [HQ.out]
  exact ⟨rfl, HF9.out.below⟩
end Go.Proofs.YtnineoajmgneiaaGreat.Lw
namespace Go.Proofs.YtnineoajmgneiaaGreat.Lo
open Go.RowKit YtnineoajmgneiaaGreatW YtnineoajmgneiaaGreatW.PrintWords YtnineoajmgneiaaGreatW.PrintLast YtnineoajmgneiaaGreatW.PrintMore Fr L Ky Tm Lm It Tg Tp Tl Lk
open YtnineoajmgneiaaGreat.Ls (tAt)
set_option linter.unusedVariables false
set_option linter.unusedSimpArgs false
theorem tat {l : List S68} {a : Nat} (h : a < l.length) : tAt (l.map tbOf) a = tbOf l[a] := by simp [tAt, h]
theorem num_lt {l : List S68} (h : RowOk 0 l) : ∀ (d a : Nat), (hb : a + d + 1 < l.length) → (l[a]'(by omega)).f0 < (l[a + d + 1]).f0
  | 0, a, hb => (h.adj a _ _ (List.getElem?_eq_getElem (by omega)) (List.getElem?_eq_getElem hb)).1 rfl
  | d + 1, a, hb => by
    have h1 := num_lt h d a (by omega)
    have h2 := (h.adj (a + d + 1) _ _ (List.getElem?_eq_getElem (by omega)) (List.getElem?_eq_getElem hb)).1 rfl
    exact Int.lt_trans h1 h2
theorem le_lt {a b c : List UInt8} (h : Op.bytesLess a b = true ∨ a = b) (k : Op.bytesLess b c = true) : cmpU a c < 0 := by
  rw [Oo.less_cmp] at k
  have k := of_decide_eq_true k
  rcases h with h | h
  · rw [Oo.less_cmp] at h
    exact Oo.cmpU_trans (of_decide_eq_true h) k
  · rw [h]; exact k
theorem key_lt {i : Nat} {l : List S68} (hi : i ≠ 0) (h : RowOk i l) : ∀ (d a : Nat), (hb : a + d + 1 < l.length) → cmpU (l[a]'(by omega)).f1.toList (l[a + d + 1]).f1.toList < 0
  | 0, a, hb => le_lt (h.tab _ (List.getElem_mem (by omega))).o ((h.adj a _ _ (List.getElem?_eq_getElem (by omega)) (List.getElem?_eq_getElem hb)).2 hi)
  | d + 1, a, hb => by
    have h1 := key_lt hi h d a (by omega)
    have h2 := le_lt (h.tab _ (List.getElem_mem (show a + d + 1 < l.length by omega))).o ((h.adj (a + d + 1) _ _ (List.getElem?_eq_getElem (by omega)) (List.getElem?_eq_getElem hb)).2 hi)
    exact Oo.cmpU_trans h1 h2
theorem row_ord {i : Nat} {l : List S68} (h : RowOk i l) : Od.SW (l.map tbOf).length (It.ltOf i (l.map tbOf)) ∧ Od.ord (l.map tbOf).length (It.ltOf i (l.map tbOf)) = List.range (l.map tbOf).length := by
  refine Oo.ord_of (fun a b hab hb => ?_)
  rw [List.length_map] at hb
  obtain ⟨d, rfl⟩ : ∃ d, b = a + d + 1 := ⟨b - a - 1, by omega⟩
  unfold It.ltOf
  by_cases hi : i = 0
  · subst hi
    rw [if_pos rfl, tat (show a < l.length by omega), tat hb]
    exact decide_eq_true (num_lt h d a hb)
  · rw [if_neg hi, tat (show a < l.length by omega), tat hb]
    exact decide_eq_true (Oo.key_lt (key_lt hi h d a hb))
variable {ls : List (List S68)} {m a b c d e f g : Int}
theorem ok_ord (h : LvOk ls m a b c d e f g) : ∀ (i : Nat) (l : List Tb), (ls.map (·.map tbOf))[i]? = some l → Od.SW l.length (It.ltOf i l) ∧ Od.ord l.length (It.ltOf i l) = List.range l.length := by
  intro i l hl
  rw [List.getElem?_map] at hl
  obtain ⟨l0, h0, rfl⟩ := Option.map_eq_some_iff.1 hl
  exact row_ord (h.row i l0 h0)
theorem ok_mem (h : LvOk ls m a b c d e f g) {l : List S68} (hl : l ∈ ls) : l.length ≤ 1000 ∧ ∀ t ∈ l, TOk t := by
  obtain ⟨i, hi⟩ := List.mem_iff_getElem?.1 hl
  exact ⟨(h.row i l hi).len, (h.row i l hi).tab⟩
theorem ok_in (h : LvOk ls m a b c d e f g) (hts : ∀ l ∈ ls, ∀ t ∈ l, t.f1.size ≤ 2000000 ∧ t.f3.size ≤ 2000000) : ∀ l ∈ ls, ∀ t ∈ l, InTab t := fun l hl t ht => in_tab ((ok_mem h hl).2 t ht) (hts l hl t ht)
theorem ok_len (h : LvOk ls m a b c d e f g) : 2 ≤ ls.length ∧ ls.length ≤ 7 := by have := h.opt.m; have := h.len; omega
theorem u64_in {g : Int} (h : 0 ≤ g ∧ g ≤ 1099511627776) : IntKind.u64.wrap g = g := IntWalk.u64_in _ (by omega)
theorem targets_ok {w : World} {A0 : Option Addr} {c0 : Nat} (hC : Kd.C (Kd.slice 68 k68) w A0 ls.length ls) (hc0 : ls.length ≤ c0) (h : LvOk ls m a b c d e f g) (hts : ∀ l ∈ ls, ∀ t ∈ l, t.f1.size ≤ 2000000 ∧ t.f3.size ≤ 2000000) :
    Calls Tryz.prog 25 #[.slice A0 ls.length c0, .agg #[.int .i64 m, .int .i64 a, .int .i64 b, .int .i64 c, .int .i64 d, .int .i64 e, .int .i64 f, .int .i64 g]] w (AllPost w ⟨m, a, b, c, d, e, f, g⟩ ((ls.map (·.map tbOf)).map total)) :=
  targets_calls rfl hC hc0 (by rw [List.length_map]; exact h.len.symm) (by have := ok_len h; omega) (ok_len h).1 (fun l hl => by have := (ok_mem h hl).1; omega) (ok_in h hts) (ok_ord h) (u64_in h.opt.g) h.opt.a.1 (by have := h.opt.d; omega)
theorem pick_ok {w : World} {A0 : Option Addr} {c0 : Nat} (hC : Kd.C (Kd.slice 68 k68) w A0 ls.length ls) (hc0 : ls.length ≤ c0) (h : LvOk ls m a b c d e f g) (hts : ∀ l ∈ ls, ∀ t ∈ l, t.f1.size ≤ 2000000 ∧ t.f3.size ≤ 2000000) :
    Calls Tryz.prog 51 #[.slice A0 ls.length c0, .agg #[.int .i64 m, .int .i64 a, .int .i64 b, .int .i64 c, .int .i64 d, .int .i64 e, .int .i64 f, .int .i64 g]] w (Pk.ToldPost w ((ls.map (·.map tbOf)).length - 1) (Pk.score ((ls.map (·.map tbOf)).getD 0 []).length ⟨m, a, b, c, d, e, f, g⟩ ((ls.map (·.map tbOf)).map total))) :=
  Pk.pick51_calls rfl hC hc0 (by rw [List.length_map]; exact h.len.symm) (by have := ok_len h; omega) (ok_len h).1 (fun l hl => by have := (ok_mem h hl).1; omega) (ok_in h hts) (ok_ord h) (u64_in h.opt.g) h.opt.a.1 (by have := h.opt.d; omega) (by have := h.opt.c; omega)
end Go.Proofs.YtnineoajmgneiaaGreat.Lo
namespace Go.Proofs.YtnineoajmgneiaaGreat.Rw
open Go.ChangeShapes Go.WideShapes Go.ChangeAt Go.RowKit Go.Deep YtnineoajmgneiaaGreatW.PrintWords L
set_option linter.unusedVariables false
set_option linter.unusedSimpArgs false
theorem one_le {H : Type} (d : DataW H) : 1 ≤ Rows.uptoBulk d := by
  cases d with
  | lit l => cases l <;> simp [Rows.uptoBulk]
  | nil => simp [Rows.uptoBulk]
  | ptr d => simp [Rows.uptoBulk]
  | slice elems spare => simp [Rows.uptoBulk]
  | agg parts => simp [Rows.uptoBulk]
  | iface t d => simp [Rows.uptoBulk]
  | map entries => simp [Rows.uptoBulk]
  | held h => simp [Rows.uptoBulk]
theorem append {H : Type} (l r : List (DataW H)) : Rows.uptoBulkAll (l ++ r) = Rows.uptoBulkAll l + Rows.uptoBulkAll r := by
  induction l with
  | nil => simp [Rows.uptoBulkAll]
  | cons x l ih => simp only [List.cons_append, Rows.uptoBulkAll, ih]; omega
theorem length_le {H : Type} (l : List (DataW H)) : l.length ≤ Rows.uptoBulkAll l := by
  induction l with
  | nil => simp [Rows.uptoBulkAll]
  | cons x r ih => have := one_le x; simp only [Rows.uptoBulkAll, List.length_cons]; omega
/-- One of each. -/
theorem list_of {α : Type} {P : Nat → α → Prop} : ∀ n : Nat, (∀ i, i < n → ∃ s, P i s) → ∃ l : List α, l.length = n ∧ ∀ i s, l[i]? = some s → P i s
  | 0, _ => ⟨[], rfl, fun i s h => by simp at h⟩
  | n + 1, h => by
    obtain ⟨l, hl, hp⟩ := list_of n (fun i hi => h i (by omega))
    obtain ⟨s, hs⟩ := h n (by omega)
    refine ⟨l ++ [s], by simp [hl], fun i s2 h2 => ?_⟩
    by_cases hi : i < n
    · rw [List.getElem?_append_left (by omega)] at h2
      exact hp i s2 h2
    · have hin : i < (l ++ [s]).length := (List.getElem?_eq_some_iff.1 h2).1
      have : i = n := by simp [hl] at hin; omega
      subst this
      rw [List.getElem?_append_right (by omega)] at h2
      simp [hl] at h2
      subst h2
      exact hs
theorem part_le {H : Type} {d : DataW H} {l : List (DataW H)} (h : d ∈ l) : Rows.uptoBulk d ≤ Rows.uptoBulkAll l := by
  induction l with
  | nil => cases h
  | cons x r ih =>
    simp only [Rows.uptoBulkAll]
    cases List.mem_cons.1 h with
    | inl e => subst e; omega
    | inr e => have := ih e; omega
section
variable {H : Type} {enc : TypeId × Value → H} {P : Program} {w : World} {base : Nat} {spare : Nat → Bool} {held : Bool}
theorem open_slice_fields {t e : TypeId} {fs : Array Field} {fuel : Nat} {cs : List Value} {x : DataW H × List MemPlace} (ht : P.underlying t = some (.slice e)) (he : P.underlying e = some (.struct fs))
    (hone : oneCellFields P fs = true) (hC : P.cellsOf e = fs.size) (h : DataW.trod enc P w base spare held fuel t cs = some x) :
    (cs = [.slice none 0 0] ∧ x = (.nil, [])) ∨
    ∃ (a : Addr) (len cap m : Nat) (D : Nat → DataW H) (Pl : Nat → List MemPlace), cs = [.slice (some a) len cap] ∧ base ≤ a.block ∧ len ≤ cap ∧ cap ≤ maxLen ∧ m = (if spare a.block then cap else len) ∧
      x = (.slice ((List.range len).map D) ((List.range (m - len)).map fun j => D (len + j)), MemPlace.row a (m * fs.size) ++ (List.range m).flatMap Pl) ∧
      ∀ i, i < m → ∃ (ys : List (DataW H × List MemPlace)) (n : Nat), D i = .agg (ys.map (·.1)) ∧ Pl i = ys.flatMap (·.2) ∧ ys.length = fs.size ∧
        ∀ (j : Nat) (f : Field), fs[j]? = some f → ∃ (v : Value) (y : DataW H × List MemPlace), w.cell? (a.add (i * fs.size + j)) = some v ∧ ys[j]? = some y ∧ DataW.trod enc P w base spare held n f.type [v] = some y := by
  rcases open_slice ht h with h0 | ⟨a, len, cap, m, n, D, Pl, hcs, hb, hl, hm, hmm, hx, hi⟩
  · exact .inl h0
  · refine .inr ⟨a, len, cap, m, D, Pl, hcs, hb, hl, hm, hmm, by rw [hC] at hx; exact hx, fun i him => ?_⟩
    obtain ⟨cs', hc, ht'⟩ := hi i him
    rw [hC] at hc
    obtain ⟨ys, n', hn', hy, hlen, hyl, hf⟩ := DataW.trod_struct he ht'
    obtain ⟨_, hcl, hat⟩ := World.cells?_some hc
    simp only [Prod.mk.injEq] at hy
    refine ⟨ys, n', hy.1, hy.2, hyl, fun j f hj => ?_⟩
    obtain ⟨ho, hk⟩ := hone_of hone j f hj
    have hjl : j < fs.size := (Array.getElem?_eq_some_iff.1 hj).1
    have hcell := hat j hjl
    have hv : cs'[j]? = some (cs'[j]'(by omega)) := List.getElem?_eq_getElem (by omega)
    have h1 := hf j f hj
    rw [ho, hk] at h1
    have hone' : (cs'.drop j).take 1 = [cs'[j]'(by omega)] := by
      rw [List.drop_eq_getElem_cons (by omega)]
      rfl
    rw [hone'] at h1
    have hys : ys[j]? = some (ys[j]'(by omega)) := List.getElem?_eq_getElem (by omega)
    refine ⟨_, _, ?_, hys, h1.trans hys⟩
    rw [← Go.Deep.add_add, hcell, hv]
end
theorem sum_bulk {H : Type} {α : Type} (f : α → Nat) (D : Nat → DataW H) : ∀ (n : Nat) (l : List α), l.length = n → (∀ i s, l[i]? = some s → f s ≤ Rows.uptoBulk (D i)) → (l.map f).sum ≤ Rows.uptoBulkAll ((List.range n).map D)
  | 0, l, hl, _ => by
    have : l = [] := List.eq_nil_of_length_eq_zero hl
    subst this
    simp
  | n + 1, l, hl, h => by
    have hn : n < l.length := by omega
    have e : l = l.take n ++ [l[n]] := by
      have := List.take_succ_eq_append_getElem hn
      rw [← this, List.take_of_length_le (by omega)]
    have h1 := sum_bulk f D n (l.take n) (by rw [List.length_take]; omega) (fun i s hs => h i s (by
      have hi : i < n := by have := (List.getElem?_eq_some_iff.1 hs).1; rw [List.length_take] at this; omega
      rw [List.getElem?_take, if_pos hi] at hs
      exact hs))
    have h2 := h n l[n] (List.getElem?_eq_getElem hn)
    have e2 : (l.map f).sum = ((l.take n).map f).sum + f l[n] := by
      conv => lhs; rw [e]
      rw [List.map_append, List.sum_append]
      simp
    rw [e2, List.range_succ, List.map_append, append]
    simp only [List.map_cons, List.map_nil, Rows.uptoBulkAll] at *
    omega
theorem sum_mem {α : Type} (f : α → Nat) {x : α} : ∀ {l : List α}, x ∈ l → f x ≤ (l.map f).sum
  | y :: t, h => by
    rw [List.map_cons, List.sum_cons]
    rcases List.mem_cons.1 h with e | e
    · rw [e]; omega
    · have := sum_mem f e; omega
theorem sum_len {α : Type} (f : α → Nat) (hf : ∀ x, 1 ≤ f x) : ∀ l : List α, l.length ≤ (l.map f).sum
  | [] => by simp
  | x :: t => by
    have := sum_len f hf t
    have := hf x
    rw [List.map_cons, List.sum_cons, List.length_cons]
    omega
def wT (t : S68) : Nat := t.f1.size + t.f3.size + 1
def wL (l : List S68) : Nat := (l.map wT).sum + 1
theorem cells9 {w : World} {a : Addr} {i : Nat} {x0 x1 x2 x3 x4 x5 x6 x7 x8 : Value} (h0 : w.cell? (a.add (i * 9 + 0)) = some x0) (h1 : w.cell? (a.add (i * 9 + 1)) = some x1) (h2 : w.cell? (a.add (i * 9 + 2)) = some x2) (h3 : w.cell? (a.add (i * 9 + 3)) = some x3) (h4 : w.cell? (a.add (i * 9 + 4)) = some x4) (h5 : w.cell? (a.add (i * 9 + 5)) = some x5) (h6 : w.cell? (a.add (i * 9 + 6)) = some x6) (h7 : w.cell? (a.add (i * 9 + 7)) = some x7) (h8 : w.cell? (a.add (i * 9 + 8)) = some x8) : ∀ j u, [x0, x1, x2, x3, x4, x5, x6, x7, x8][j]? = some u → w.cell? (a.add (i * 9 + j)) = some u := by
  intro j u hj
  match j, hj with
  | 0, hj => simp at hj; rw [← hj]; exact h0
  | 1, hj => simp at hj; rw [← hj]; exact h1
  | 2, hj => simp at hj; rw [← hj]; exact h2
  | 3, hj => simp at hj; rw [← hj]; exact h3
  | 4, hj => simp at hj; rw [← hj]; exact h4
  | 5, hj => simp at hj; rw [← hj]; exact h5
  | 6, hj => simp at hj; rw [← hj]; exact h6
  | 7, hj => simp at hj; rw [← hj]; exact h7
  | 8, hj => simp at hj; rw [← hj]; exact h8
  | j + 9, hj => simp at hj
def Good (w : World) (a : Addr) {H : Type} (D : Nat → DataW H) (i : Nat) (s : S68) : Prop :=
  (∃ c : List Value, c.length = 9 ∧ k68.K w s c ∧ ∀ j u, c[j]? = some u → w.cell? (a.add (i * 9 + j)) = some u) ∧ wT s ≤ Rows.uptoBulk (D i)
theorem open_tabs0 {H : Type} {enc : TypeId × Value → H} {w : World} {fuel : Nat} {cs : List Value} {x : DataW H × List MemPlace} (hf : DataW.trod enc Tryz.prog w 0 (fun _ => true) true fuel 34 cs = some x) :
    ∃ (A : Option Addr) (len cap : Nat) (l : List S68), cs = [.slice A len cap] ∧ l.length = len ∧ len ≤ cap ∧ Kd.C k68 w A len l ∧ wL l ≤ Rows.uptoBulk x.1 := by
  rcases open_slice_fields Tryz.underlying34 Tryz.underlying68 (by kernel_rfl) (by kernel_rfl) hf with ⟨hcs, hd⟩ | ⟨a, len, cap, m, D, Pl, hcs, hb, hl, hm, hmm, hx, hi⟩
  · exact ⟨none, 0, 0, [], hcs, rfl, Nat.le_refl _, ⟨rfl, by omega, fun h => absurd h (by omega)⟩, by rw [hd]; exact one_le _⟩
  · simp only [if_true] at hmm
    obtain rfl := hmm
    have hel : ∀ i, i < len → ∃ s : S68, Good w a D i s := by
      intro i hil
      obtain ⟨ys, n, hD, hP, hlen, hfld⟩ := hi i (by omega)
      obtain ⟨v0, y0, c0, hy0, t0⟩ := hfld 0 _ rfl
      obtain ⟨v1, y1, c1, hy1, t1⟩ := hfld 1 _ rfl
      obtain ⟨v2, y2, c2, hy2, t2⟩ := hfld 2 _ rfl
      obtain ⟨v3, y3, c3, hy3, t3⟩ := hfld 3 _ rfl
      obtain ⟨v4, y4, c4, hy4, t4⟩ := hfld 4 _ rfl
      obtain ⟨v5, y5, c5, hy5, t5⟩ := hfld 5 _ rfl
      obtain ⟨v6, y6, c6, hy6, t6⟩ := hfld 6 _ rfl
      obtain ⟨v7, y7, c7, hy7, t7⟩ := hfld 7 _ rfl
      obtain ⟨v8, y8, c8, hy8, t8⟩ := hfld 8 _ rfl
      obtain ⟨n0, e0, _, _⟩ := DataW.trod_int Tryz.underlying3 t0
      obtain ⟨s1, e1, x1, _⟩ := DataW.trod_string Tryz.underlying9 t1
      obtain ⟨n2, e2, _, _⟩ := DataW.trod_int Tryz.underlying3 t2
      obtain ⟨s3, e3, x3, _⟩ := DataW.trod_string Tryz.underlying9 t3
      obtain ⟨n4, e4, _, _⟩ := DataW.trod_int Tryz.underlying3 t4
      obtain ⟨n5, e5, _, _⟩ := DataW.trod_int Tryz.underlying3 t5
      obtain ⟨n6, e6, _, _⟩ := DataW.trod_int Tryz.underlying3 t6
      obtain ⟨n7, e7, _, _⟩ := DataW.trod_int Tryz.underlying3 t7
      obtain ⟨n8, e8, _, _⟩ := DataW.trod_int Tryz.underlying3 t8
      injection e0 with e0
      subst e0
      injection e1 with e1
      subst e1
      injection e2 with e2
      subst e2
      injection e3 with e3
      subst e3
      injection e4 with e4
      subst e4
      injection e5 with e5
      subst e5
      injection e6 with e6
      subst e6
      injection e7 with e7
      subst e7
      injection e8 with e8
      subst e8
      refine ⟨⟨n0, s1, n2, s3, n4, n5, n6, n7, n8⟩, ⟨_, rfl, k68_mk w ⟨n0, s1, n2, s3, n4, n5, n6, n7, n8⟩, cells9 c0 c1 c2 c3 c4 c5 c6 c7 c8⟩, ?_⟩
      have hw1 : Rows.uptoBulk y1.1 = s1.size + 1 := by
        rw [x1]
        simp [Rows.uptoBulk]
      have hw3 : Rows.uptoBulk y3.1 = s3.size + 1 := by
        rw [x3]
        simp [Rows.uptoBulk]
      have hsum : Rows.uptoBulk y1.1 + Rows.uptoBulk y3.1 ≤ Rows.uptoBulkAll (ys.map (·.1)) := by
        have h9 : ys.length = 9 := hlen
        match ys, h9, hy1, hy3 with
        | [z0, z1, z2, z3, z4, z5, z6, z7, z8], _, hy1, hy3 =>
          simp at hy1 hy3
          subst hy1
          subst hy3
          simp only [List.map_cons, List.map_nil, Rows.uptoBulkAll]
          omega
      rw [hD]
      simp only [Rows.uptoBulk, wT]
      omega
    obtain ⟨l, hll, hlp⟩ := list_of len hel
    refine ⟨some a, len, _, l, hcs, hll, hl, ⟨hll, by simp [maxLen] at hm; omega, fun _ => ⟨a, rfl, fun j s hj => (hlp j s hj).1⟩⟩, ?_⟩
    have hx1 : x.1 = .slice ((List.range len).map D) ((List.range (_ - len)).map fun j => D (len + j)) := congrArg Prod.fst hx
    rw [hx1]
    simp only [Rows.uptoBulk, wL]
    have := sum_bulk wT D len l hll (fun i s hs => (hlp i s hs).2)
    omega
theorem open_tabs {H : Type} {enc : TypeId × Value → H} {w : World} {A : Option Addr} {len cap : Nat} {d : DataW H} {p : List MemPlace} (h : DataW.Trod enc Tryz.prog w 0 (fun _ => true) true 34 (.slice A len cap) d p) :
    ∃ l : List S68, l.length = len ∧ len ≤ cap ∧ Kd.C k68 w A len l ∧ wL l ≤ Rows.uptoBulk d := by
  obtain ⟨fuel, hf⟩ := h
  obtain ⟨A2, len2, cap2, l, hcs, h1, h2, h3, h4⟩ := open_tabs0 hf
  simp [Value.cells] at hcs
  obtain ⟨rfl, rfl, rfl⟩ := hcs
  exact ⟨l, h1, h2, h3, h4⟩
theorem open_levels {H : Type} {enc : TypeId × Value → H} {w : World} {A : Option Addr} {len cap : Nat} {d : DataW H} {p : List MemPlace} (h : DataW.Trod enc Tryz.prog w 0 (fun _ => true) true 22 (.slice A len cap) d p) :
    ∃ l : List (List S68), l.length = len ∧ len ≤ cap ∧ Kd.C (Kd.slice 68 k68) w A len l ∧ (l.map wL).sum + 1 ≤ Rows.uptoBulk d := by
  obtain ⟨fuel, hf⟩ := h
  rcases open_slice Tryz.underlying22 hf with ⟨hcs, hd⟩ | ⟨a, len', cap', m, n, D, Pl, hcs, hb, hl, hm, hmm, hx, hi⟩
  · simp [Value.cells] at hcs
    obtain ⟨rfl, rfl, rfl⟩ := hcs
    exact ⟨[], rfl, Nat.le_refl _, ⟨rfl, by omega, fun h => absurd h (by omega)⟩, by simp; exact one_le _⟩
  · simp [Value.cells] at hcs
    obtain ⟨rfl, rfl, rfl⟩ := hcs
    simp only [if_true] at hmm
    obtain rfl := hmm
    have hc34 : Tryz.prog.cellsOf 34 = 1 := by kernel_rfl
    have hel : ∀ i, i < len → ∃ s : List S68, (∃ c : List Value, c.length = 1 ∧ (Kd.slice 68 k68).K w s c ∧ ∀ j u, c[j]? = some u → w.cell? (a.add (i * 1 + j)) = some u) ∧ wL s ≤ Rows.uptoBulk (D i) := by
      intro i hil
      obtain ⟨cs', hc, ht'⟩ := hi i (by omega)
      rw [hc34] at hc
      obtain ⟨A2, len2, cap2, l2, e2, hl2, hlc2, hC2, hb2⟩ := open_tabs0 ht'
      subst e2
      subst hl2
      obtain ⟨_, hcl, hat⟩ := World.cells?_some hc
      refine ⟨l2, ⟨[.slice A2 l2.length cap2], rfl, ⟨A2, cap2, rfl, hlc2, hC2⟩, fun j u hu => ?_⟩, hb2⟩
      match j, hu with
      | 0, hu =>
        simp at hu
        rw [← hu]
        have := hat 0 (by decide)
        rw [Go.Deep.add_add] at this
        simpa using this
      | j + 1, hu => simp at hu
    obtain ⟨l, hll, hlp⟩ := list_of len hel
    refine ⟨l, hll, hl, ⟨hll, by simp [maxLen] at hm; omega, fun _ => ⟨a, rfl, fun j s hj => (hlp j s hj).1⟩⟩, ?_⟩
    have hx1 : d = .slice ((List.range len).map D) ((List.range (_ - len)).map fun j => D (len + j)) := congrArg Prod.fst hx
    rw [hx1]
    simp only [Rows.uptoBulk]
    have := sum_bulk wL D len l hll (fun i s hs => (hlp i s hs).2)
    omega
theorem tabs_of {l : List S68} (h : wL l ≤ 1048576) : l.length ≤ 2000000 ∧ ∀ t ∈ l, t.f1.size ≤ 2000000 ∧ t.f3.size ≤ 2000000 := by
  unfold wL at h
  refine ⟨?_, fun t ht => ?_⟩
  · have := sum_len wT (fun x => by unfold wT; omega) l
    omega
  · have := sum_mem wT ht
    have e : wT t = t.f1.size + t.f3.size + 1 := rfl
    omega
theorem levels_of {ls : List (List S68)} (h : (ls.map wL).sum ≤ 1048576) : ls.length ≤ 2000000 ∧ ∀ l ∈ ls, l.length ≤ 2000000 ∧ ∀ t ∈ l, t.f1.size ≤ 2000000 ∧ t.f3.size ≤ 2000000 := by
  refine ⟨?_, fun l hl => tabs_of ?_⟩
  · have := sum_len wL (fun x => by unfold wL; omega) ls
    omega
  · have := sum_mem wL hl
    omega
set_option maxRecDepth 100000 in
theorem open_opts {H : Type} {enc : TypeId × Value → H} {w : World} {base : Nat} {v : Value} {d : DataW H} {p : List MemPlace} (hv : Value.okWide Tryz.prog w .any base 24 v) (h : DataW.Trod enc Tryz.prog w 0 (fun _ => true) true 24 v d p) :
    ∃ m a b c e f g k : Int, v = .agg #[.int .i64 m, .int .i64 a, .int .i64 b, .int .i64 c, .int .i64 e, .int .i64 f, .int .i64 g, .int .i64 k] := by
  obtain ⟨fuel, hf⟩ := h
  obtain ⟨cs, rfl, hcs⟩ := okWide_struct Tryz.underlying24 hv
  have h8 : Tryz.prog.cellsOf 24 = 8 := by kernel_rfl
  rw [h8] at hcs
  obtain ⟨ys, n', hn', hy, hlen, hyl, hfl⟩ := DataW.trod_struct Tryz.underlying24 hf
  obtain ⟨x0, x1, x2, x3, x4, x5, x6, x7, rfl⟩ : ∃ x0 x1 x2 x3 x4 x5 x6 x7, cs = #[x0, x1, x2, x3, x4, x5, x6, x7] := by
    obtain ⟨l⟩ := cs
    match l, hcs with
    | [a, b, c, d, e, f, g, h], _ => exact ⟨a, b, c, d, e, f, g, h, rfl⟩
  have hk3 : Tryz.prog.cellsOf 3 = 1 := by kernel_rfl
  obtain ⟨y0, y1, y2, y3, y4, y5, y6, y7, rfl⟩ : ∃ y0 y1 y2 y3 y4 y5 y6 y7, ys = [y0, y1, y2, y3, y4, y5, y6, y7] := by
    have h5 : ys.length = 8 := hyl
    match ys, h5 with
    | [a, b, c, d, e, f, g, h], _ => exact ⟨a, b, c, d, e, f, g, h, rfl⟩
  have f0 : DataW.trod enc Tryz.prog w 0 (fun _ => true) true n' 3 (([x0, x1, x2, x3, x4, x5, x6, x7].drop 0).take (Tryz.prog.cellsOf 3)) = some y0 := hfl 0 _ rfl
  have f1 : DataW.trod enc Tryz.prog w 0 (fun _ => true) true n' 3 (([x0, x1, x2, x3, x4, x5, x6, x7].drop 1).take (Tryz.prog.cellsOf 3)) = some y1 := hfl 1 _ rfl
  have f2 : DataW.trod enc Tryz.prog w 0 (fun _ => true) true n' 3 (([x0, x1, x2, x3, x4, x5, x6, x7].drop 2).take (Tryz.prog.cellsOf 3)) = some y2 := hfl 2 _ rfl
  have f3 : DataW.trod enc Tryz.prog w 0 (fun _ => true) true n' 3 (([x0, x1, x2, x3, x4, x5, x6, x7].drop 3).take (Tryz.prog.cellsOf 3)) = some y3 := hfl 3 _ rfl
  have f4 : DataW.trod enc Tryz.prog w 0 (fun _ => true) true n' 3 (([x0, x1, x2, x3, x4, x5, x6, x7].drop 4).take (Tryz.prog.cellsOf 3)) = some y4 := hfl 4 _ rfl
  have f5 : DataW.trod enc Tryz.prog w 0 (fun _ => true) true n' 3 (([x0, x1, x2, x3, x4, x5, x6, x7].drop 5).take (Tryz.prog.cellsOf 3)) = some y5 := hfl 5 _ rfl
  have f6 : DataW.trod enc Tryz.prog w 0 (fun _ => true) true n' 3 (([x0, x1, x2, x3, x4, x5, x6, x7].drop 6).take (Tryz.prog.cellsOf 3)) = some y6 := hfl 6 _ rfl
  have f7 : DataW.trod enc Tryz.prog w 0 (fun _ => true) true n' 3 (([x0, x1, x2, x3, x4, x5, x6, x7].drop 7).take (Tryz.prog.cellsOf 3)) = some y7 := hfl 7 _ rfl
  rw [hk3] at f0
  rw [hk3] at f1
  rw [hk3] at f2
  rw [hk3] at f3
  rw [hk3] at f4
  rw [hk3] at f5
  rw [hk3] at f6
  rw [hk3] at f7
  obtain ⟨n0, e0, _, _⟩ := DataW.trod_int Tryz.underlying3 f0
  obtain ⟨n1, e1, _, _⟩ := DataW.trod_int Tryz.underlying3 f1
  obtain ⟨n2, e2, _, _⟩ := DataW.trod_int Tryz.underlying3 f2
  obtain ⟨n3, e3, _, _⟩ := DataW.trod_int Tryz.underlying3 f3
  obtain ⟨n4, e4, _, _⟩ := DataW.trod_int Tryz.underlying3 f4
  obtain ⟨n5, e5, _, _⟩ := DataW.trod_int Tryz.underlying3 f5
  obtain ⟨n6, e6, _, _⟩ := DataW.trod_int Tryz.underlying3 f6
  obtain ⟨n7, e7, _, _⟩ := DataW.trod_int Tryz.underlying3 f7
  simp at e0 e1 e2 e3 e4 e5 e6 e7
  subst e0
  subst e1
  subst e2
  subst e3
  subst e4
  subst e5
  subst e6
  subst e7
  exact ⟨n0, n1, n2, n3, n4, n5, n6, n7, rfl⟩
end Go.Proofs.YtnineoajmgneiaaGreat.Rw
namespace Go.Proofs.YtnineoajmgneiaaGreat.Lo
open Go.RowKit YtnineoajmgneiaaGreatW YtnineoajmgneiaaGreatW.PrintWords YtnineoajmgneiaaGreatW.PrintLast YtnineoajmgneiaaGreatW.PrintMore Fr L Ky Tm Lm It Tg Tp Tl Lk
set_option linter.unusedVariables false
set_option linter.unusedSimpArgs false
theorem fits8 (t : S68) (h : t.f1.size ≤ 2000000 ∧ t.f3.size ≤ 2000000) : laws_zzFits8.f t.f0 t.f1 t.f2 t.f3 t.f4 t.f5 t.f6 t.f7 t.f8 = some true := by
  unfold laws_zzFits8.f
  rw [if_neg (by omega), if_neg (by omega)]
theorem fits7_at {l : List S68} (hl : l.length ≤ 2000000) (h : ∀ t ∈ l, t.f1.size ≤ 2000000 ∧ t.f3.size ≤ 2000000) : ∀ (m j k : Nat), j + m = l.length → m + 1 ≤ k → laws_zzFits7.l0 k l (l.length : Int) (j : Int) = some true
  | 0, j, k, hj, hk => by
    obtain ⟨k, rfl⟩ : ∃ q, k = q + 1 := ⟨k - 1, by omega⟩
    rw [laws_zzFits7.l0, if_neg (by omega)]
  | m + 1, j, k, hj, hk => by
    obtain ⟨k, rfl⟩ : ∃ q, k = q + 1 := ⟨k - 1, by omega⟩
    have hjl : j < l.length := by omega
    have e : rd_T68 l (j : Int) = l[j] := by simp [rd_T68, hjl]
    rw [laws_zzFits7.l0, if_pos (by omega), if_pos (by omega), if_pos (by omega), e, fits8 _ (h _ (List.getElem_mem hjl)), Option.bind_some, if_pos rfl, show wrap64 ((j : Int) + 1) = ((j + 1 : Nat) : Int) by unfold wrap64; omega]
    exact fits7_at hl h m (j + 1) k (by omega) (by omega)
theorem fits7 {l : List S68} (hl : l.length ≤ 2000000) (h : ∀ t ∈ l, t.f1.size ≤ 2000000 ∧ t.f3.size ≤ 2000000) {k : Nat} (hk : 2000001 ≤ k) : laws_zzFits7.f k l = some true := by
  unfold laws_zzFits7.f
  rw [if_neg (by omega)]
  exact fits7_at hl h l.length 0 k (by omega) (by omega)
theorem fits6_at {ls : List (List S68)} (hl : ls.length ≤ 2000000) (h1 : ∀ l ∈ ls, l.length ≤ 2000000) (h : ∀ l ∈ ls, ∀ t ∈ l, t.f1.size ≤ 2000000 ∧ t.f3.size ≤ 2000000) : ∀ (m j k : Nat), j + m = ls.length → m + 2000002 ≤ k → laws_zzFits6.l0 k ls (ls.length : Int) (j : Int) = some true
  | 0, j, k, hj, hk => by
    obtain ⟨k, rfl⟩ : ∃ q, k = q + 1 := ⟨k - 1, by omega⟩
    rw [laws_zzFits6.l0, if_neg (by omega)]
  | m + 1, j, k, hj, hk => by
    obtain ⟨k, rfl⟩ : ∃ q, k = q + 1 := ⟨k - 1, by omega⟩
    have hjl : j < ls.length := by omega
    have e : rd_L3 ls (j : Int) = ls[j] := by simp [rd_L3, hjl]
    rw [laws_zzFits6.l0, if_pos (by omega), if_pos (by omega), if_pos (by omega), e, fits7 (h1 _ (List.getElem_mem hjl)) (h _ (List.getElem_mem hjl)) (by omega), Option.bind_some, if_pos rfl, show wrap64 ((j : Int) + 1) = ((j + 1 : Nat) : Int) by unfold wrap64; omega]
    exact fits6_at hl h1 h m (j + 1) k (by omega) (by omega)
theorem fits6 {ls : List (List S68)} (hl : ls.length ≤ 2000000) (h1 : ∀ l ∈ ls, l.length ≤ 2000000) (h : ∀ l ∈ ls, ∀ t ∈ l, t.f1.size ≤ 2000000 ∧ t.f3.size ≤ 2000000) : laws_zzFits6.f (ls.length + 2000002) ls = some true := by
  unfold laws_zzFits6.f
  rw [if_neg (by omega)]
  exact fits6_at hl h1 h ls.length 0 _ (by omega) (by omega)
theorem same_at {l : List Int} (hl : l.length ≤ 1000000) : ∀ (m j k : Nat), j + m = l.length → m + 1 ≤ k → laws_sameInts.l0 k l l (l.length : Int) (j : Int) = some true
  | 0, j, k, hj, hk => by
    obtain ⟨k, rfl⟩ : ∃ q, k = q + 1 := ⟨k - 1, by omega⟩
    rw [laws_sameInts.l0, if_neg (by omega)]
  | m + 1, j, k, hj, hk => by
    obtain ⟨k, rfl⟩ : ∃ q, k = q + 1 := ⟨k - 1, by omega⟩
    rw [laws_sameInts.l0, if_pos (by omega), if_pos (by omega), if_pos (by omega), if_pos (by omega), if_pos rfl, show wrap64 ((j : Int) + 1) = ((j + 1 : Nat) : Int) by unfold wrap64; omega]
    exact same_at hl m (j + 1) k (by omega) (by omega)
theorem same_spec {l : List Int} (hl : l.length ≤ 1000000) : laws_sameInts.f (l.length + 1) l l = some true := by
  unfold laws_sameInts.f
  rw [if_pos rfl]
  exact same_at hl l.length 0 _ (by omega) (by omega)
theorem lp4_len (o : Lm.Op) (bl : Int) : ∀ (k i : Nat) (t : Int) (F : List Int), (lp4 o bl k i t F).length = F.length
  | 0, i, t, F => rfl
  | k + 1, i, t, F => by
    rw [lp4]
    split
    · rw [lp4_len o bl k, List.length_set]
    · split
      · rw [lp4_len o bl k, List.length_set]
      · rw [lp4_len o bl k, List.length_set]
theorem files_len (o : Lm.Op) (sz : List Int) : (files o sz).length = sz.length := by
  unfold files
  rw [lp4_len, List.length_replicate]
theorem lp1_len (o : Lm.Op) : ∀ (i : Nat) (bl : Int) (T : List Int) (db : Int), (lp1 o i bl T db).2.length = T.length
  | 0, bl, T, db => rfl
  | i + 1, bl, T, db => by rw [Tg.lp1_step, lp1_len o i, List.length_set]
theorem T_len (o : Lm.Op) (sz : List Int) : (blT o sz).2.length = sz.length := by
  unfold blT
  rw [lp1_len, List.length_replicate]
end Go.Proofs.YtnineoajmgneiaaGreat.Lo
namespace Go.Proofs.YtnineoajmgneiaaGreat.Gl
open Go
set_option maxRecDepth 100000
theorem and2 {a b : Bool} (h : a = true) (k : b = true) : (a && b) = true := by rw [h, k]; rfl
noncomputable abbrev P : Program := Tryz.pinned.checked.prog
/-- The words of the program's name, as numbers of letters. -/
def w1 : List Char := ([104, 97, 114, 110, 101, 115, 115] : List Nat).map Char.ofNat
def w2 : List Char := ([100, 98, 54, 50, 52, 48, 53, 98, 48, 48, 52, 50, 98, 97, 57, 50, 52, 102, 57, 57, 52, 54, 49, 101, 55, 53, 100, 98, 49, 50, 99, 55, 98, 53, 98, 102, 100, 52, 99, 99, 101, 100, 49, 51, 98, 100, 53, 50, 54, 54, 102, 57, 55, 50, 52, 57, 50, 53, 101, 54, 100, 97, 51, 101] : List Nat).map Char.ofNat
def w3 : List Char := ([99, 117, 116] : List Nat).map Char.ofNat
def rest : List Char := ([97, 116, 32, 108, 111, 111, 112, 46, 101, 120, 97, 109, 112, 108, 101, 47, 112, 117, 98, 45, 108, 101, 118, 101, 108, 115, 97, 110, 100, 109, 97, 114, 107, 115, 47, 108, 97, 119, 115, 46, 70, 110, 84, 97, 114, 103, 101, 116, 70, 105, 108, 101, 115, 32, 108, 111, 111, 112, 46, 101, 120, 97, 109, 112, 108, 101, 47, 112, 117, 98, 45, 108, 101, 118, 101, 108, 115, 97, 110, 100, 109, 97, 114, 107, 115, 47, 108, 97, 119, 115, 46, 70, 110, 84, 97, 114, 103, 101, 116, 83, 105, 122, 101, 115, 32, 108, 111, 111, 112, 46, 101, 120, 97, 109, 112, 108, 101, 47, 112, 117, 98, 45, 108, 101, 118, 101, 108, 115, 97, 110, 100, 109, 97, 114, 107, 115, 47, 108, 97, 119, 115, 46, 70, 110, 84, 97, 114, 103, 101, 116, 84, 97, 98, 108, 101, 115, 32, 108, 111, 111, 112, 46, 101, 120, 97, 109, 112, 108, 101, 47, 112, 117, 98, 45, 108, 101, 118, 101, 108, 115, 97, 110, 100, 109, 97, 114, 107, 115, 47, 108, 97, 119, 115, 46, 70, 110, 70, 105, 108, 108, 65, 103, 97, 105, 110, 32, 108, 111, 111, 112, 46, 101, 120, 97, 109, 112, 108, 101, 47, 112, 117, 98, 45, 108, 101, 118, 101, 108, 115, 97, 110, 100, 109, 97, 114, 107, 115, 47, 108, 97, 119, 115, 46, 70, 110, 70, 105, 108, 108, 65, 112, 97, 114, 116, 32, 108, 111, 111, 112, 46, 101, 120, 97, 109, 112, 108, 101, 47, 112, 117, 98, 45, 108, 101, 118, 101, 108, 115, 97, 110, 100, 109, 97, 114, 107, 115, 47, 108, 97, 119, 115, 46, 70, 110, 70, 105, 108, 108, 68, 111, 110, 101, 32, 108, 111, 111, 112, 46, 101, 120, 97, 109, 112, 108, 101, 47, 112, 117, 98, 45, 108, 101, 118, 101, 108, 115, 97, 110, 100, 109, 97, 114, 107, 115, 47, 108, 97, 119, 115, 46, 70, 110, 70, 105, 108, 108, 69, 109, 112, 116, 121, 32, 108, 111, 111, 112, 46, 101, 120, 97, 109, 112, 108, 101, 47, 112, 117, 98, 45, 108, 101, 118, 101, 108, 115, 97, 110, 100, 109, 97, 114, 107, 115, 47, 108, 97, 119, 115, 46, 70, 110, 70, 105, 108, 108, 70, 114, 101, 101, 32, 108, 111, 111, 112, 46, 101, 120, 97, 109, 112, 108, 101, 47, 112, 117, 98, 45, 108, 101, 118, 101, 108, 115, 97, 110, 100, 109, 97, 114, 107, 115, 47, 108, 97, 119, 115, 46, 70, 110, 70, 105, 108, 108, 77, 101, 101, 116, 115, 32, 108, 111, 111, 112, 46, 101, 120, 97, 109, 112, 108, 101, 47, 112, 117, 98, 45, 108, 101, 118, 101, 108, 115, 97, 110, 100, 109, 97, 114, 107, 115, 47, 108, 97, 119, 115, 46, 70, 110, 70, 105, 108, 108, 78, 101, 120, 116, 32, 108, 111, 111, 112, 46, 101, 120, 97, 109, 112, 108, 101, 47, 112, 117, 98, 45, 108, 101, 118, 101, 108, 115, 97, 110, 100, 109, 97, 114, 107, 115, 47, 108, 97, 119, 115, 46, 70, 110, 70, 105, 108, 108, 78, 117, 109, 98, 101, 114, 115, 32, 108, 111, 111, 112, 46, 101, 120, 97, 109, 112, 108, 101, 47, 112, 117, 98, 45, 108, 101, 118, 101, 108, 115, 97, 110, 100, 109, 97, 114, 107, 115, 47, 108, 97, 119, 115, 46, 70, 110, 70, 105, 108, 108, 79, 110, 101, 32, 108, 111, 111, 112, 46, 101, 120, 97, 109, 112, 108, 101, 47, 112, 117, 98, 45, 108, 101, 118, 101, 108, 115, 97, 110, 100, 109, 97, 114, 107, 115, 47, 108, 97, 119, 115, 46, 70, 110, 70, 105, 108, 108, 79, 117, 116, 32, 108, 111, 111, 112, 46, 101, 120, 97, 109, 112, 108, 101, 47, 112, 117, 98, 45, 108, 101, 118, 101, 108, 115, 97, 110, 100, 109, 97, 114, 107, 115, 47, 108, 97, 119, 115, 46, 70, 110, 70, 105, 108, 108, 82, 117, 110, 115, 32, 108, 111, 111, 112, 46, 101, 120, 97, 109, 112, 108, 101, 47, 112, 117, 98, 45, 108, 101, 118, 101, 108, 115, 97, 110, 100, 109, 97, 114, 107, 115, 47, 108, 97, 119, 115, 46, 70, 110, 70, 105, 108, 108, 84, 97, 98, 108, 101, 115, 32, 108, 111, 111, 112, 46, 101, 120, 97, 109, 112, 108, 101, 47, 112, 117, 98, 45, 108, 101, 118, 101, 108, 115, 97, 110, 100, 109, 97, 114, 107, 115, 47, 108, 97, 119, 115, 46, 70, 110, 80, 105, 99, 107, 76, 101, 118, 101, 108, 115, 32, 108, 111, 111, 112, 46, 101, 120, 97, 109, 112, 108, 101, 47, 112, 117, 98, 45, 108, 101, 118, 101, 108, 115, 97, 110, 100, 109, 97, 114, 107, 115, 47, 108, 97, 119, 115, 46, 70, 110, 80, 105, 99, 107, 79, 114, 100, 101, 114, 32, 108, 111, 111, 112, 46, 101, 120, 97, 109, 112, 108, 101, 47, 112, 117, 98, 45, 108, 101, 118, 101, 108, 115, 97, 110, 100, 109, 97, 114, 107, 115, 47, 108, 97, 119, 115, 46, 70, 110, 80, 105, 99, 107, 90, 101, 114, 111, 32, 108, 111, 111, 112, 46, 101, 120, 97, 109, 112, 108, 101, 47, 112, 117, 98, 45, 108, 101, 118, 101, 108, 115, 97, 110, 100, 109, 97, 114, 107, 115, 47, 108, 97, 119, 115, 46, 70, 110, 84, 97, 114, 103, 101, 116, 66, 97, 115, 101] : List Nat).map Char.ofNat
theorem bytes : P.initOrder.toByteArray = List.utf8Encode (w1 ++ Char.ofNat 32 :: (w2 ++ Char.ofNat 32 :: (w3 ++ Char.ofNat 32 :: rest))) := by kernel_rfl
theorem letters : P.initOrder.toList = w1 ++ Char.ofNat 32 :: (w2 ++ Char.ofNat 32 :: (w3 ++ Char.ofNat 32 :: rest)) := by
  rw [String.toByteArray_inj.1 (bytes.trans (String.toByteArray_ofList).symm), String.toList_ofList]
theorem word : ∀ (l r : List Char), (∀ c ∈ l, c ≠ Char.ofNat 32) → wordsSigns (l ++ Char.ofNat 32 :: r) = l :: wordsSigns r
  | [], r, _ => rfl
  | c :: l, r, h => by
    have ih := word l r (fun x hx => h x (List.mem_cons_of_mem _ hx))
    rw [List.cons_append, wordsSigns, ih]
    exact h c List.mem_cons_self
theorem words : wordsSigns P.initOrder.toList = w1 :: w2 :: w3 :: wordsSigns rest := by
  rw [letters, word _ _ (by decide), word _ _ (by decide), word _ _ (by decide)]
theorem behind : behindMainWord (wordsSigns P.initOrder.toList) = "cut".toList :: wordsSigns rest := by
  have e1 : ((w1 == "harness".toList || w1 == "ownmain".toList) && isSumSigns w2) = true := by kernel_rfl
  have e3 : w3 = "cut".toList := by kernel_rfl
  rw [words, behindMainWord, if_pos e1, e3]
theorem b1 : (laidOutB P) = true := by kernel_rfl
theorem b2 : (mapsRowed P) = true := by kernel_rfl
theorem b6 : ((P.stops == [])) = true := by kernel_rfl
theorem b8 : ((P.stopKnobs == [])) = true := by kernel_rfl
theorem b22 : ((Rows.fnTargetFilesUptoRow.plainKeys == P.plainKeys)) = true := by kernel_rfl
theorem b24 : (P.stopsHeard) = true := by kernel_rfl
theorem l1 : P.laysLater = false := by kernel_rfl
theorem l2 : P.bearsReflect = false := by kernel_rfl
theorem l3 : P.doorRows = [] := by kernel_rfl
theorem strip (R : List (List Char)) : stripLifts liftWords ("cut".toList :: R) = ([], "cut".toList :: R) := by kernel_rfl
theorem enter_of (Q : Program) (R : List (List Char)) (h : behindMainWord (wordsSigns Q.initOrder.toList) = "cut".toList :: R) (k1 : Q.laysLater = false) (k2 : Q.bearsReflect = false) (k3 : Q.doorRows = []) : Q.mayEnter = true := by
  unfold Program.mayEnter Program.doorFits
  rw [h, k1, k2, k3]
  simp only [strip]
  kernel_rfl
theorem final_of (Q : Program) (R : List (List Char)) (h : behindMainWord (wordsSigns Q.initOrder.toList) = "cut".toList :: R) : Q.liftsFinal = false := by
  unfold Program.liftsFinal Program.headLifts
  rw [h]
  simp only [strip]
  kernel_rfl
theorem make_of (Q : Program) (R : List (List Char)) (h : behindMainWord (wordsSigns Q.initOrder.toList) = "cut".toList :: R) : Q.make = some .cut := by
  unfold Program.make Program.headLifts
  rw [h]
  kernel_rfl
theorem b25 : (P.mayEnter) = true := enter_of P _ behind l1 l2 l3
theorem b26 : ((Rows.fnTargetFilesUptoRow.lifted == P.liftsFinal)) = true := by rw [final_of P _ behind]; kernel_rfl
theorem b27 : ((P.make == some Rows.fnTargetFilesUptoRow.make)) = true := by rw [make_of P _ behind]; kernel_rfl
end Go.Proofs.YtnineoajmgneiaaGreat.Gl
