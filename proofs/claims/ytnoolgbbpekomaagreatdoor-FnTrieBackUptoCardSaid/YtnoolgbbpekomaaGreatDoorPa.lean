/- What the reference's functions of spans and matches tell: plain, the rounds of their loops counted. -/
import Derived.Test.YtnoolgbbpekomaaGreatDoorMd
import Derived.Test.YtnoolgbbpekomaaGreatDoorUb
namespace Go.Proofs.YtnoolgbbpekomaaGreatDoor.Pa
open Go.RowKit YtnoolgbbpekomaaGreatDoorW.PrintWords YtnoolgbbpekomaaGreatDoorW.PrintLast YtnoolgbbpekomaaGreatDoorW.PrintMore T
set_option linter.unusedVariables false
set_option linter.unusedSimpArgs false
theorem Ev.one {α : Type} {g : Nat → Option α} {r : α} (h : ∀ k, g (k + 1) = some r) : Ev g r := Ev.step h (Ev.now r)
theorem wrap_up {m : Nat} (h : m < 9223372036854775807) : wrap64 ((m : Int) + 1) = ((m + 1 : Nat) : Int) := by unfold wrap64; omega
theorem rd67 {l : List S67} {m : Nat} (h : m < l.length) : rd_T67 l (m : Int) = l[m] := by simp [rd_T67, h]
theorem rd42 {l : List S42} {m : Nat} (h : m < l.length) : rd_T42 l (m : Int) = l[m] := by simp [rd_T42, h]
theorem rdI {l : List Int} {m : Nat} (h : m < l.length) : rd l (m : Int) = l[m] := by simp [rd, h]
theorem rdL {l : List (List Int)} {m : Nat} (h : m < l.length) : rd_L8 l (m : Int) = l[m] := by simp [rd_L8, h]
theorem drop_all {α : Type} (l : List α) : l.drop l.length = [] := List.drop_length
/-- A span that is told of. -/
def spOk (s : S67) : Bool := decide (0 ≤ s.f0 ∧ s.f0 ≤ s.f1 ∧ s.f1 ≤ 2000)
theorem spans_go (l : List S67) (hl : l.length ≤ 1000000000000) : ∀ d m : Nat, m + d = l.length → Ev (fun k => spec_SpansOk.l0 k l (l.length : Int) (m : Int)) ((l.drop m).all spOk)
  | 0, m, hm => by
    have hm : m = l.length := by omega
    subst hm
    rw [drop_all]
    exact Ev.one (fun k => by rw [spec_SpansOk.l0, if_neg (by omega)]; rfl)
  | d + 1, m, hm => by
    have hml : m < l.length := by omega
    have hx := rd67 hml
    rw [List.drop_eq_getElem_cons hml, List.all_cons]
    by_cases h1 : l[m].f0 < 0
    · have e : spOk l[m] = false := by unfold spOk; rw [decide_eq_false_iff_not]; omega
      rw [e]
      exact Ev.one (fun k => by rw [spec_SpansOk.l0, if_pos (by omega), if_pos (by omega), if_pos (by omega), hx, if_pos h1]; rfl)
    by_cases h2 : l[m].f1 < l[m].f0
    · have e : spOk l[m] = false := by unfold spOk; rw [decide_eq_false_iff_not]; omega
      rw [e]
      exact Ev.one (fun k => by rw [spec_SpansOk.l0, if_pos (by omega), if_pos (by omega), if_pos (by omega), hx, if_neg h1, if_pos h2]; rfl)
    by_cases h3 : l[m].f1 > 2000
    · have e : spOk l[m] = false := by unfold spOk; rw [decide_eq_false_iff_not]; omega
      rw [e]
      exact Ev.one (fun k => by rw [spec_SpansOk.l0, if_pos (by omega), if_pos (by omega), if_pos (by omega), hx, if_neg h1, if_neg h2, if_pos h3]; rfl)
    · have e : spOk l[m] = true := by unfold spOk; rw [decide_eq_true_iff]; omega
      rw [e, Bool.true_and]
      exact Ev.step (fun k => by rw [spec_SpansOk.l0, if_pos (by omega), if_pos (by omega), if_pos (by omega), hx, if_neg h1, if_neg h2, if_neg h3, wrap_up (by omega)]) (spans_go l hl d (m + 1) (by omega))
theorem spans_ev (l : List S67) (hl : l.length ≤ 1000000000000) : Ev (fun k => spec_SpansOk.f k l) (l.all spOk) := spans_go l hl l.length 0 (by omega)
/-- A place in one of some spans. -/
def inSp (l : List S67) (a : Int) : Bool := l.any fun s => decide (s.f0 ≤ a ∧ a ≤ s.f1)
theorem hole_go (l : List S67) (hl : l.length ≤ 1000000000000) (a : Int) : ∀ d m : Nat, m + d = l.length → Ev (fun k => spec_Hole.l0 k a l (l.length : Int) (m : Int)) (inSp (l.drop m) a)
  | 0, m, hm => by
    have hm : m = l.length := by omega
    subst hm
    rw [drop_all]
    exact Ev.one (fun k => by rw [spec_Hole.l0, if_neg (by omega)]; rfl)
  | d + 1, m, hm => by
    have hml : m < l.length := by omega
    have hx := rd67 hml
    have ih := hole_go l hl a d (m + 1) (by omega)
    rw [List.drop_eq_getElem_cons hml]
    unfold inSp at ih ⊢
    rw [List.any_cons]
    by_cases h1 : a ≥ l[m].f0
    · by_cases h2 : a ≤ l[m].f1
      · have e : decide (l[m].f0 ≤ a ∧ a ≤ l[m].f1) = true := decide_eq_true ⟨h1, h2⟩
        rw [e]
        exact Ev.one (fun k => by rw [spec_Hole.l0, if_pos (by omega), if_pos (by omega), if_pos (by omega), hx, if_pos h1, if_pos h2]; rfl)
      · have e : decide (l[m].f0 ≤ a ∧ a ≤ l[m].f1) = false := decide_eq_false (fun h => h2 h.2)
        rw [e, Bool.false_or]
        exact Ev.step (fun k => by rw [spec_Hole.l0, if_pos (by omega), if_pos (by omega), if_pos (by omega), hx, if_pos h1, if_neg h2, wrap_up (by omega)]) ih
    · have e : decide (l[m].f0 ≤ a ∧ a ≤ l[m].f1) = false := decide_eq_false (fun h => h1 h.1)
      rw [e, Bool.false_or]
      exact Ev.step (fun k => by rw [spec_Hole.l0, if_pos (by omega), if_pos (by omega), if_pos (by omega), hx, if_neg h1, wrap_up (by omega)]) ih
theorem hole_ev (l : List S67) (hl : l.length ≤ 1000000000000) (a : Int) : Ev (fun k => spec_Hole.f k l a) (inSp l a) := hole_go l hl a l.length 0 (by omega)
/-! Texts. -/
def ba (l : List UInt8) : ByteArray := ⟨l.toArray⟩
theorem ba_app (a b : List UInt8) : ba a ++ ba b = ba (a ++ b) := by
  apply ByteArray.ext
  rw [ByteArray.data_append]
  simp [ba]
theorem ba_size (a : List UInt8) : (ba a).size = a.length := by simp [ba, ByteArray.size]
theorem ba_list (a : List UInt8) : (ba a).data.toList = a := by simp [ba]
theorem str_one {d : Nat} (h : d < 10) (n : Int) (hn : n = (d : Int)) : strOfNums [(wrap64 (48 + Int.tmod n 10)) % 256] = ba [UInt8.ofNat (48 + d)] := by
  subst hn
  have e1 : Int.tmod (d : Int) 10 = (d : Int) := by rw [Int.tmod_eq_emod_of_nonneg (by omega)]; omega
  have e2 : (wrap64 (48 + (d : Int))) % 256 = ((48 + d : Nat) : Int) := by unfold wrap64; omega
  rw [e1, e2]
  unfold strOfNums ba
  congr 2
theorem dec_len (n : Nat) : (De.dec n).length ≤ n + 1 := by
  induction n using De.dec.induct with
  | case1 n h => rw [De.dec, dif_pos h]; simp
  | case2 n h ih =>
    rw [De.dec, dif_neg h, List.length_append, List.length_singleton]
    omega
theorem dec_ev : ∀ n : Nat, n ≤ 1000000 → Ev (fun k => spec_Decimal.f k (n : Int)) (ba (De.dec n)) := by
  intro n
  induction n using De.dec.induct with
  | case1 n h =>
    intro hn
    have e : De.dec n = [UInt8.ofNat (48 + n)] := by rw [De.dec, dif_pos h]
    rw [e]
    exact Ev.one (fun k => by rw [spec_Decimal.f, if_pos (by omega), str_one h _ rfl])
  | case2 n h ih =>
    intro hn
    have e : De.dec n = De.dec (n / 10) ++ [UInt8.ofNat (48 + n % 10)] := by rw [De.dec, dif_neg h]
    have e2 : De.dec (n % 10) = [UInt8.ofNat (48 + n % 10)] := by rw [De.dec, dif_pos (by omega)]
    have e3 : wrap64 (Int.tdiv (n : Int) 10) = ((n / 10 : Nat) : Int) := by
      rw [Int.tdiv_eq_ediv_of_nonneg (by omega)]
      unfold wrap64
      omega
    have e4 : Int.tmod (n : Int) 10 = ((n % 10 : Nat) : Int) := by rw [Int.tmod_eq_emod_of_nonneg (by omega)]; omega
    have hd : Ev (fun k => spec_Decimal.f k ((n % 10 : Nat) : Int)) (ba [UInt8.ofNat (48 + n % 10)]) := Ev.one (fun k => by rw [spec_Decimal.f, if_pos (by omega), str_one (by omega) _ rfl])
    have hl1 := dec_len (n / 10)
    rw [e]
    refine Ev.step (f := fun k => (spec_Decimal.f k ((n / 10 : Nat) : Int)).bind fun t182 => (spec_Decimal.f k ((n % 10 : Nat) : Int)).bind fun t183 => if t182.size + t183.size ≤ 9223372036854775807 then some (t182 ++ t183) else none) (fun k => by rw [spec_Decimal.f, if_neg (by omega), e3, e4]) ?_
    refine Ev.bind (ih (by omega)) (Ev.bind hd ?_)
    rw [if_pos (by rw [ba_size, ba_size, List.length_singleton]; omega), ba_app]
    exact Ev.now _
/-- Spans as places. -/
def nats (l : List S67) : List (Nat × Nat) := l.map fun s => (s.f0.toNat, s.f1.toNat)
theorem c44 : (⟨#[44]⟩ : ByteArray) = ba [44] := rfl
theorem c32 : (⟨#[32]⟩ : ByteArray) = ba [32] := rfl
theorem c45 : (⟨#[45]⟩ : ByteArray) = ba [45] := rfl
theorem c0 : (⟨#[]⟩ : ByteArray) = ba [] := rfl
theorem spanT_len (d : Bool) (s : Nat × Nat) (h : s.1 ≤ s.2) (h2 : s.2 ≤ 2000) : (Df.spanT d s).length ≤ 4010 := by
  unfold Df.spanT
  have h1 := dec_len s.1
  have h3 := dec_len s.2
  rw [List.length_append]
  split
  · rw [List.length_cons]; omega
  · rw [List.length_nil]; omega
theorem text_go (sp d : Bool) (l : List S67) (hl : l.length ≤ 100000000) (hok : l.all spOk = true) : ∀ (e m : Nat) (out : List UInt8), m + e = l.length → out.length ≤ 10000 * m →
    Ev (fun k => spec_HolesText.l0 k sp d (ba out) l (l.length : Int) (m : Int)) (ba (out ++ (if m = 0 then Dg.holesT sp d (nats (l.drop m)) else Dg.tailT sp d (nats (l.drop m)))))
  | 0, m, out, hm, ho => by
    have hm : m = l.length := by omega
    subst hm
    rw [drop_all]
    have : (if l.length = 0 then Dg.holesT sp d (nats []) else Dg.tailT sp d (nats [])) = [] := by split <;> rfl
    rw [this, List.append_nil]
    exact Ev.one (fun k => by rw [spec_HolesText.l0, if_neg (by omega)])
  | e + 1, m, out, hm, ho => by
    have hml : m < l.length := by omega
    have hx := rd67 hml
    have hs : 0 ≤ l[m].f0 ∧ l[m].f0 ≤ l[m].f1 ∧ l[m].f1 ≤ 2000 := of_decide_eq_true (List.all_eq_true.1 hok _ (List.getElem_mem hml))
    obtain ⟨a, ha⟩ : ∃ a : Nat, l[m].f0 = (a : Int) := ⟨l[m].f0.toNat, by omega⟩
    obtain ⟨b, hb⟩ : ∃ b : Nat, l[m].f1 = (b : Int) := ⟨l[m].f1.toNat, by omega⟩
    have hn : nats (l.drop m) = (a, b) :: nats (l.drop (m + 1)) := by
      rw [List.drop_eq_getElem_cons hml]
      unfold nats
      rw [List.map_cons, ha, hb]
      rfl
    have hda := dec_ev a (by omega)
    have hdb := dec_ev b (by omega)
    have hla := dec_len a
    have hlb := dec_len b
    -- behind the comma
    have body : ∀ o : List UInt8, o.length ≤ 10000 * m + 2 → Ev (fun k => spec_HolesText.j1 k sp d (ba o) l (l.length : Int) (m : Int) (a : Int) (b : Int)) (ba (o ++ Df.spanT d (a, b) ++ Dg.tailT sp d (nats (l.drop (m + 1))))) := by
      intro o hol
      by_cases hc : (b : Int) > (a : Int) ∨ d = true
      · have hst : Df.spanT d (a, b) = De.dec a ++ 45 :: De.dec b := by
          unfold Df.spanT
          rw [if_pos (hc.imp (fun h => Int.ofNat_lt.1 h) id)]
        rw [hst]
        have fin := text_go sp d l hl hok e (m + 1) (o ++ De.dec a ++ 45 :: De.dec b) (by omega) (by simp only [List.length_append, List.length_cons]; omega)
        rw [if_neg (by omega)] at fin
        have e9 : o ++ (De.dec a ++ 45 :: De.dec b) ++ Dg.tailT sp d (nats (l.drop (m + 1))) = o ++ De.dec a ++ 45 :: De.dec b ++ Dg.tailT sp d (nats (l.drop (m + 1))) := by simp
        rw [e9]
        refine Ev.step (f := fun k => (spec_Decimal.f k (a : Int)).bind fun t186 => (spec_Decimal.f k (b : Int)).bind fun t187 => if (ba o).size + t186.size ≤ 9223372036854775807 then (if 1 + t187.size ≤ 9223372036854775807 then (if (ba o ++ t186).size + (ba [45] ++ t187).size ≤ 9223372036854775807 then spec_HolesText.l0 k sp d ((ba o ++ t186) ++ (ba [45] ++ t187)) l (l.length : Int) (wrap64 ((m : Int) + 1)) else none) else none) else none) (fun k => ?_) ?_
        · rw [spec_HolesText.j1]
          cases h1 : spec_Decimal.f k (a : Int) with
          | none => rfl
          | some t =>
            simp only [Option.bind_some]
            by_cases hs2 : (ba o).size + t.size ≤ 9223372036854775807
            · rw [if_pos hs2]
              by_cases hc1 : (b : Int) > (a : Int)
              · rw [if_pos hc1]
                congr 1
                funext t187
                rw [if_pos hs2]
                rfl
              · have hd : d = true := hc.resolve_left hc1
                rw [if_neg hc1, if_pos hd]
                congr 1
                funext t187
                rw [if_pos hs2]
                rfl
            · rw [if_neg hs2]
              cases spec_Decimal.f k (b : Int) with
              | none => rfl
              | some t2 => rw [Option.bind_some, if_neg hs2]
        · refine Ev.bind hda (Ev.bind hdb (Ev.congr (fun k => ?_) fin))
          rw [if_pos (by rw [ba_size, ba_size]; omega), if_pos (by rw [ba_size]; omega), if_pos (by rw [ba_app, ba_app, ba_size, ba_size]; simp only [List.length_append, List.length_cons, List.length_nil]; omega), ba_app, ba_app, ba_app, wrap_up (by omega)]
          rfl
      · have hc1 : ¬ (b : Int) > (a : Int) := fun h => hc (.inl h)
        have hc2 : ¬ d = true := fun h => hc (.inr h)
        have hst : Df.spanT d (a, b) = De.dec a := by
          unfold Df.spanT
          rw [if_neg (fun h => h.elim (fun h => hc1 (Int.ofNat_lt.2 h)) hc2), List.append_nil]
        rw [hst]
        have fin := text_go sp d l hl hok e (m + 1) (o ++ De.dec a) (by omega) (by simp only [List.length_append]; omega)
        rw [if_neg (by omega)] at fin
        refine Ev.step (f := fun k => (spec_Decimal.f k (a : Int)).bind fun t186 => if (ba o).size + t186.size ≤ 9223372036854775807 then spec_HolesText.l0 k sp d (ba o ++ t186) l (l.length : Int) (wrap64 ((m : Int) + 1)) else none) (fun k => ?_) ?_
        · rw [spec_HolesText.j1]
          congr 1
          funext t
          rw [if_neg hc1, if_neg hc2]
        · refine Ev.bind hda (Ev.congr (fun k => ?_) fin)
          rw [if_pos (by rw [ba_size, ba_size]; omega), ba_app, wrap_up (by omega)]
    rw [hn]
    by_cases h0 : m = 0
    · subst h0
      rw [if_pos rfl]
      have := body out (by omega)
      rw [List.append_assoc] at this
      refine Ev.step (fun k => ?_) this
      rw [spec_HolesText.l0, if_pos (by omega), if_pos (by omega), if_pos (by omega), if_neg (by omega), hx, ha, hb]
    · rw [if_neg h0]
      have e7 : Dg.tailT sp d ((a, b) :: nats (l.drop (m + 1))) = 44 :: (Dg.pre sp ++ Df.spanT d (a, b)) ++ Dg.tailT sp d (nats (l.drop (m + 1))) := by
        unfold Dg.tailT
        rw [List.flatMap_cons]
      rw [e7]
      cases sp with
      | true =>
        have := body (out ++ [44] ++ [32]) (by simp only [List.length_append, List.length_singleton]; omega)
        have e8 : out ++ [44] ++ [32] ++ Df.spanT d (a, b) ++ Dg.tailT true d (nats (l.drop (m + 1))) = out ++ (44 :: (Dg.pre true ++ Df.spanT d (a, b)) ++ Dg.tailT true d (nats (l.drop (m + 1)))) := by simp [Dg.pre]
        rw [e8] at this
        refine Ev.step (fun k => ?_) this
        rw [spec_HolesText.l0, if_pos (by omega), if_pos (by omega), if_pos (by omega), if_pos (by omega), if_pos (by rw [ba_size]; omega), if_pos rfl, c44, c32, ba_app, if_pos (by rw [ba_size, List.length_append, List.length_singleton]; omega), ba_app, hx, ha, hb]
      | false =>
        have := body (out ++ [44]) (by simp only [List.length_append, List.length_singleton]; omega)
        have e8 : out ++ [44] ++ Df.spanT d (a, b) ++ Dg.tailT false d (nats (l.drop (m + 1))) = out ++ (44 :: (Dg.pre false ++ Df.spanT d (a, b)) ++ Dg.tailT false d (nats (l.drop (m + 1)))) := by simp [Dg.pre]
        rw [e8] at this
        refine Ev.step (fun k => ?_) this
        rw [spec_HolesText.l0, if_pos (by omega), if_pos (by omega), if_pos (by omega), if_pos (by omega), if_pos (by rw [ba_size]; omega), if_neg (by decide), c44, ba_app, hx, ha, hb]
/-- The text of spans. -/
def textOf (sp d : Bool) (l : List S67) : List UInt8 := Dg.holesT sp d (nats l)
theorem text_ev (sp d : Bool) (l : List S67) (hl : l.length ≤ 100000000) (hok : l.all spOk = true) : Ev (fun k => spec_HolesText.f k l sp d) (ba (textOf sp d l)) := by
  have := text_go sp d l hl hok l.length 0 [] (by omega) (by simp)
  rw [if_pos rfl, List.drop_zero, List.nil_append] at this
  exact this
/-! Matches. -/
def mOk (m : S42) : Bool := decide (m.f1.size ≤ 2000) && (m.f2.all spOk && decide (0 ≤ m.f3 ∧ m.f3 ≤ 1099511627776))
/-- Of a size. -/
structure Small (l : List S42) : Prop where
  len : l.length ≤ 10000000
  sp : ∀ m ∈ l, m.f2.length ≤ 100000000
  pre : ∀ m ∈ l, m.f1.size ≤ 100000000
theorem matches_go (l : List S42) (hl : Small l) : ∀ d m : Nat, m + d = l.length → Ev (fun k => spec_MatchesOk.l0 k l (l.length : Int) (m : Int)) ((l.drop m).all mOk)
  | 0, m, hm => by
    have hm : m = l.length := by omega
    subst hm
    rw [drop_all]
    exact Ev.one (fun k => by rw [spec_MatchesOk.l0, if_neg (by omega)]; rfl)
  | d + 1, m, hm => by
    have hll := hl.len
    have hml : m < l.length := by omega
    have hx := rd42 hml
    have hsp := hl.sp _ (List.getElem_mem hml)
    have ih := matches_go l hl d (m + 1) (by omega)
    have hse := spans_ev l[m].f2 (by omega)
    rw [List.drop_eq_getElem_cons hml, List.all_cons]
    by_cases h1 : (l[m].f1.size : Int) > 2000
    · have e : mOk l[m] = false := by unfold mOk; rw [decide_eq_false (by omega), Bool.false_and]
      rw [e]
      exact Ev.one (fun k => by rw [spec_MatchesOk.l0, if_pos (by omega), if_pos (by omega), if_pos (by omega), hx, if_pos h1]; rfl)
    · have e : mOk l[m] = (l[m].f2.all spOk && decide (0 ≤ l[m].f3 ∧ l[m].f3 ≤ 1099511627776)) := by unfold mOk; rw [decide_eq_true (by omega), Bool.true_and]
      rw [e]
      refine Ev.step (f := fun k => (spec_SpansOk.f k l[m].f2).bind fun t223 => if t223 = true then ((spec_Within.f l[m].f3 0 1099511627776).bind fun t224 => if t224 = true then spec_MatchesOk.l0 k l (l.length : Int) (wrap64 ((m : Int) + 1)) else some false) else some false) (fun k => by rw [spec_MatchesOk.l0, if_pos (by omega), if_pos (by omega), if_pos (by omega), hx, if_neg h1]) ?_
      refine Ev.bind hse ?_
      cases hb : l[m].f2.all spOk with
      | false => exact Ev.now _
      | true =>
        have hw : spec_Within.f l[m].f3 0 1099511627776 = some (decide (0 ≤ l[m].f3 ∧ l[m].f3 ≤ 1099511627776)) := by
          unfold spec_Within.f
          by_cases h2 : l[m].f3 ≥ 0
          · rw [if_pos h2]
            congr 1
            rw [decide_eq_decide]
            exact ⟨fun h => ⟨h2, h⟩, fun h => h.2⟩
          · rw [if_neg h2, decide_eq_false (fun h => h2 h.1)]
        simp only [if_pos, hw, Option.bind_some, Bool.true_and]
        by_cases h3 : 0 ≤ l[m].f3 ∧ l[m].f3 ≤ 1099511627776
        · rw [decide_eq_true h3, Bool.true_and]
          simp only [if_pos, wrap_up (show m < 9223372036854775807 by omega)]
          exact ih
        · rw [decide_eq_false h3]
          exact Ev.now _
theorem matches_ev (l : List S42) (hl : Small l) : Ev (fun k => spec_MatchesOk.f k l) (l.all mOk) := matches_go l hl l.length 0 (by omega)
/-- The turn of a match. -/
def kindOf (pl : Bool) (m : S42) : Int := if m.f0 = true then (if pl = true ∧ m.f2 = [] then 1 else 3) else (if pl = true ∧ m.f2 = [] then 0 else 2)
def turnOf (sp d pl : Bool) (m : S42) : S64 := ⟨kindOf pl m, m.f1, ba (textOf sp d m.f2), m.f3⟩
theorem len_zero {α : Type} {l : List α} : (l.length : Int) = 0 ↔ l = [] := by
  constructor
  · intro h; exact List.eq_nil_of_length_eq_zero (by omega)
  · intro h; rw [h]; rfl
theorem turns_go (sp d pl : Bool) (l : List S42) (hl : Small l) (hok : l.all mOk = true) : ∀ (e m : Nat) (acc : List S64), m + e = l.length → acc.length = m →
    Ev (fun k => spec_Turns.l0 k sp d pl acc l (l.length : Int) (m : Int)) (acc ++ (l.drop m).map (turnOf sp d pl))
  | 0, m, acc, hm, ha => by
    have hm : m = l.length := by omega
    subst hm
    rw [drop_all, List.map_nil, List.append_nil]
    exact Ev.one (fun k => by rw [spec_Turns.l0, if_neg (by omega)])
  | e + 1, m, acc, hm, ha => by
    have hll := hl.len
    have hml : m < l.length := by omega
    have hx := rd42 hml
    have hsp := hl.sp _ (List.getElem_mem hml)
    have hmo := List.all_eq_true.1 hok _ (List.getElem_mem hml)
    have hspo : l[m].f2.all spOk = true := by
      unfold mOk at hmo
      simp only [Bool.and_eq_true] at hmo
      exact hmo.2.1
    have hte := text_ev sp d l[m].f2 (by omega) hspo
    have ih := turns_go sp d pl l hl hok e (m + 1) (acc ++ [turnOf sp d pl l[m]]) (by omega) (by rw [List.length_append, List.length_singleton, ha])
    rw [List.drop_eq_getElem_cons hml, List.map_cons]
    rw [List.append_assoc, List.singleton_append] at ih
    refine Ev.step (f := fun k => (spec_HolesText.f k l[m].f2 sp d).bind fun t => spec_Turns.l0 k sp d pl (acc ++ [⟨kindOf pl l[m], l[m].f1, t, l[m].f3⟩]) l (l.length : Int) ((m + 1 : Nat) : Int)) (fun k => ?_) (Ev.bind hte ih)
    rw [spec_Turns.l0, if_pos (by omega), if_pos (by omega), if_pos (by omega), hx]
    congr 1
    funext t
    rw [wrap_up (show m < 9223372036854775807 by omega)]
    have hac : acc.length < 2932031007402 := by omega
    unfold kindOf
    by_cases h1 : l[m].f0 = true
    · rw [if_pos h1, if_pos h1]
      by_cases h2 : pl = true
      · rw [if_pos h2]
        by_cases h3 : l[m].f2 = []
        · rw [if_pos (len_zero.2 h3), if_pos hac, if_pos ⟨h2, h3⟩]; rfl
        · rw [if_neg (fun h => h3 (len_zero.1 h)), if_pos hac, if_neg (fun h => h3 h.2)]
      · rw [if_neg h2, if_pos hac, if_neg (fun h => h2 h.1)]
    · rw [if_neg h1, if_neg h1]
      by_cases h2 : pl = true
      · rw [if_pos h2]
        by_cases h3 : l[m].f2 = []
        · rw [if_pos (len_zero.2 h3), if_pos hac, if_pos ⟨h2, h3⟩]; rfl
        · rw [if_neg (fun h => h3 (len_zero.1 h)), if_pos hac, if_neg (fun h => h3 h.2)]
      · rw [if_neg h2, if_pos hac, if_neg (fun h => h2 h.1)]
theorem turns_ev (sp d pl : Bool) (l : List S42) (hl : Small l) (hok : l.all mOk = true) : Ev (fun k => spec_Turns.f k l sp d pl) (l.map (turnOf sp d pl)) := turns_go sp d pl l hl hok l.length 0 [] (by omega) rfl
end Go.Proofs.YtnoolgbbpekomaaGreatDoor.Pa
