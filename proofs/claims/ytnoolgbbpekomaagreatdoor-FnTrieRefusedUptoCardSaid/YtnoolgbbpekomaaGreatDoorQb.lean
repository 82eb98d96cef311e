/- FnHolesBad: the plain law. -/
import Derived.Test.YtnoolgbbpekomaaGreatDoorPc
import Derived.Test.YtnoolgbbpekomaaGreatDoorVb
import Derived.Test.YtnoolgbbpekomaaGreatDoorUw
namespace Go.Proofs.YtnoolgbbpekomaaGreatDoor.Qb
open Go.RowKit YtnoolgbbpekomaaGreatDoorW.PrintWords YtnoolgbbpekomaaGreatDoorW.PrintLast YtnoolgbbpekomaaGreatDoorW.PrintMore T Tr Gp Fx Em Pa Pb Pc
set_option linter.unusedVariables false
set_option linter.unusedSimpArgs false
/-! A word. -/
def letB (n : Int) : Bool := decide (97 ≤ n ∧ n ≤ 122)
def okB (n : Int) : Bool := letB n || decide (48 ≤ n ∧ n ≤ 57 ∨ n = 45)
def wordB (l : List Int) (flag : Bool) : Bool := l.all okB && (flag || l.any letB)
theorem word_go (s : ByteArray) (hs : s.size ≤ 1000000000000) : ∀ (d m : Nat) (flag : Bool), m + d = s.size → Ev (fun k => laws_wordOk.l0 k s flag (m : Int)) (wordB ((bytesOf s).drop m) flag)
  | 0, m, flag, hm => by
    have e : (bytesOf s).drop m = [] := List.drop_eq_nil_of_le (by rw [bytesOf_length]; omega)
    rw [e]
    have e2 : wordB [] flag = flag := by unfold wordB; simp
    rw [e2]
    exact Ev.one (fun k => by rw [laws_wordOk.l0, if_neg (by omega)])
  | d + 1, m, flag, hm => by
    have hkl : m < (bytesOf s).length := by rw [bytesOf_length]; omega
    rw [List.drop_eq_getElem_cons hkl, bt_bytes s m hkl]
    have ih := fun f => word_go s hs d (m + 1) f (by omega)
    obtain ⟨n, hn⟩ : ∃ n, n = bt s (m : Int) := ⟨_, rfl⟩
    rw [← hn]
    have e : ∀ flag, wordB (n :: (bytesOf s).drop (m + 1)) flag = (okB n && wordB ((bytesOf s).drop (m + 1)) (flag || letB n)) := by
      intro flag
      unfold wordB
      rw [List.all_cons, List.any_cons]
      cases okB n <;> cases letB n <;> cases flag <;> simp
    rw [e]
    by_cases h1 : 97 ≤ n ∧ n ≤ 122
    · have hl : letB n = true := decide_eq_true h1
      have ho : okB n = true := by unfold okB; rw [hl]; rfl
      rw [hl, ho, Bool.true_and, Bool.or_true]
      refine Ev.step (f := fun k => laws_wordOk.j1 k s flag (m : Int) n true) (fun k => ?_) (Ev.step (fun k => ?_) (ih true))
      · rw [laws_wordOk.l0, if_pos (by omega), if_pos (by omega), ← hn, if_pos h1.1, decide_eq_true h1.2]
      · rw [laws_wordOk.j1, if_pos rfl, wrap_up (by omega)]
    · have hl : letB n = false := decide_eq_false h1
      rw [hl, Bool.or_false]
      have hst : ∀ k, laws_wordOk.l0 (k + 1) s flag (m : Int) = laws_wordOk.j1 k s flag (m : Int) n false := by
        intro k
        rw [laws_wordOk.l0, if_pos (by omega), if_pos (by omega), ← hn]
        by_cases h2 : n ≥ 97
        · rw [if_pos h2, decide_eq_false (fun h3 => h1 ⟨h2, h3⟩)]
        · rw [if_neg h2]
      by_cases h3 : 48 ≤ n ∧ n ≤ 57 ∨ n = 45
      · have ho : okB n = true := by unfold okB; rw [decide_eq_true h3, Bool.or_true]
        rw [ho, Bool.true_and]
        refine Ev.step hst (Ev.step (fun k => ?_) (ih flag))
        rw [laws_wordOk.j1, if_neg (by decide), wrap_up (by omega)]
        by_cases h4 : n < 48
        · rw [if_pos h4, if_pos (by omega)]
        · rw [if_neg h4]
          by_cases h5 : n > 57
          · omega
          · rw [if_neg h5]
      · have ho : okB n = false := by unfold okB; rw [hl, decide_eq_false h3]; rfl
        rw [ho, Bool.false_and]
        refine Ev.step hst (Ev.one (fun k => ?_))
        rw [laws_wordOk.j1, if_neg (by decide)]
        by_cases h4 : n < 48
        · rw [if_pos h4, if_neg (by omega)]
        · rw [if_neg h4, if_pos (by omega), if_neg (by omega)]
theorem word_ev (s : ByteArray) (hs : s.size ≤ 1000000000000) : Ev (fun k => laws_wordOk.f k s) (wordB (bytesOf s) false) := by
  have := word_go s hs s.size 0 false (by omega)
  rw [List.drop_zero] at this
  exact this
theorem word_is {s : ByteArray} (h : wordB (bytesOf s) false = true) : Dh.WordOk s.data.toList ∧ ∀ b ∈ s.data.toList, b.toNat < 128 := by
  unfold wordB at h
  rw [Bool.false_or, Bool.and_eq_true, List.all_eq_true, List.any_eq_true] at h
  have hb : ∀ b ∈ s.data.toList, okB (b.toNat : Int) = true := fun b hb => h.1 _ (List.mem_map.2 ⟨b, hb, rfl⟩)
  have hr : ∀ b ∈ s.data.toList, 45 ≤ b.toNat ∧ b.toNat < 128 := by
    intro b hm
    have := hb b hm
    unfold okB letB at this
    rw [Bool.or_eq_true, decide_eq_true_iff, decide_eq_true_iff] at this
    omega
  refine ⟨⟨fun b hm => (hr b hm).1, ?_⟩, fun b hm => (hr b hm).2⟩
  obtain ⟨x, hx, hlx⟩ := h.2
  obtain ⟨b, hm, rfl⟩ := List.mem_map.1 hx
  refine ⟨b, hm, ?_⟩
  unfold letB at hlx
  rw [decide_eq_true_iff] at hlx
  omega
theorem FnHolesBad (l : List S67) (s : ByteArray) (hl : l.length ≤ 100000000) (hs : s.size ≤ 100000000) : Ev (fun k => laws_FnHolesBad.f k l s) true := by
  refine Ev.congr (f := fun k => laws_FnHolesBad.j0 k l s false) (fun k => by unfold laws_FnHolesBad.f; rw [if_neg (by omega), decide_eq_false (show ¬ (s.size : Int) > 2147483647 by omega)]) ?_
  have fin : Ev (fun k => laws_FnHolesBad.j1 k l s true) true := Ev.step (f := fun k => (laws_triesWork.f k).bind fun t => some t) (fun k => by rw [laws_FnHolesBad.j1, if_pos rfl]) (Ev.bind works_ev (Ev.now true))
  refine Ev.step (f := fun k => (spec_SpansOk.f k l).bind fun t202 => if t202 = true then ((laws_wordOk.f k s).bind fun t203 => laws_FnHolesBad.j1 k l s (!t203)) else laws_FnHolesBad.j1 k l s true) (fun k => by rw [laws_FnHolesBad.j0, if_neg (by decide)]) ?_
  refine Ev.bind (spans_ev l (by omega)) ?_
  cases hok : l.all spOk with
  | false => exact Ev.congr (fun k => by rw [if_neg (by decide)]) fin
  | true =>
    refine Ev.congr (fun k => by rw [if_pos rfl]) (Ev.bind (word_ev s (by omega)) ?_)
    cases hw : wordB (bytesOf s) false with
    | false => exact fin
    | true =>
      obtain ⟨hw1, hw2⟩ := word_is hw
      have htl := text_len false false hok
      have htk := text_tok false false hok hl
      have hse : ba s.data.toList = s := rfl
      have hsz : s.data.toList.length = s.size := by rw [← hse, ba_size, ba_list]
      refine Ev.step (f := fun k => (spec_HolesText.f k l false false).bind fun t205 => (if t205.toList = ([] : List UInt8) then (if t205.size + s.size ≤ 9223372036854775807 then ((impl_Holes.f (t205 ++ s)).bind fun bt206 => (if bt206.2 = true then (some false) else ((laws_triesWork.f k).bind fun t210 => (some t210)))) else (none)) else (if t205.size + 1 ≤ 9223372036854775807 then (if (t205 ++ (⟨#[44]⟩ : ByteArray)).size + s.size ≤ 9223372036854775807 then ((impl_Holes.f ((t205 ++ (⟨#[44]⟩ : ByteArray)) ++ s)).bind fun bt211 => (if bt211.2 = true then (some false) else ((laws_triesWork.f k).bind fun t215 => (some t215)))) else (none)) else (none)))) (fun k => by rw [laws_FnHolesBad.j1, if_neg (by decide)]) ?_
      refine Ev.bind (text_ev false false l hl hok) ?_
      have htoL : (ba (textOf false false l)).toList = textOf false false l := by rw [Lib.toList_data, ba_list]
      by_cases he : textOf false false l = []
      · obtain ⟨r, hr⟩ := Di.parse_word hw1
        have hi : impl_Holes.f (ba (textOf false false l) ++ s) = some (r, false) := by
          unfold impl_Holes.f
          rw [he, ← hse, ba_app, ba_list, List.nil_append, if_pos ⟨by omega, hw2⟩, hr]
        refine Ev.congr (fun k => ?_) (Ev.bind works_ev (Ev.now true))
        rw [htoL, if_pos he, if_pos (by rw [ba_size]; omega), hi, Option.bind_some, if_neg Bool.false_ne_true]
      · have hcons : ∃ x t, nats l = x :: t := by
          cases hn : nats l with
          | nil => exact absurd (by unfold textOf; rw [hn]; rfl) he
          | cons x t => exact ⟨x, t, rfl⟩
        obtain ⟨x, t, hn⟩ := hcons
        have hnk := nats_ok hok
        rw [hn] at hnk
        obtain ⟨r, hr⟩ := Di.parse_bad false false x t (w := s.data.toList) (fun y hy => ⟨(hnk y hy).1, by have := (hnk y hy).2; omega⟩) hw1
        have htx : textOf false false l = Dg.holesT false false (x :: t) := by unfold textOf; rw [hn]
        have e1 : (ba (textOf false false l) ++ (⟨#[44]⟩ : ByteArray)) ++ s = ba (textOf false false l ++ 44 :: s.data.toList) := by
          rw [c44, ba_app]
          conv => lhs; rw [← hse]
          rw [ba_app, List.append_assoc]
          rfl
        have hi : impl_Holes.f ((ba (textOf false false l) ++ (⟨#[44]⟩ : ByteArray)) ++ s) = some (r, false) := by
          unfold impl_Holes.f
          rw [e1, ba_list, if_pos, htx, hr]
          refine ⟨by rw [List.length_append, List.length_cons]; omega, fun b hb => ?_⟩
          rcases List.mem_append.1 hb with hb | hb
          · exact htk.2 b hb
          · rcases List.mem_cons.1 hb with hb | hb
            · rw [hb]; decide
            · exact hw2 b hb
        refine Ev.congr (fun k => ?_) (Ev.bind works_ev (Ev.now true))
        rw [htoL, if_neg he, if_pos (by rw [ba_size]; omega), if_pos (by rw [c44, ba_app, ba_size, List.length_append, List.length_singleton]; omega), hi, Option.bind_some, if_neg Bool.false_ne_true]
end Go.Proofs.YtnoolgbbpekomaaGreatDoor.Qb
