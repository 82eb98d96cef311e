/- Indices that are begun in order and done in any order: the mark is always at the last one up to which all are done: the plain law. -/
import Derived.Test.YtimakagmhikhfaaMx4
import Derived.Test.YtimakagmhikhfaaPc
namespace Go.Proofs.Ytimakagmhikhfaa.Pure
open Go.RowKit Go.Proofs.Ytimakagmhikhfaa.M Go.Proofs.Ytimakagmhikhfaa.Mk Go.Proofs.Ytimakagmhikhfaa.Sm Go.Proofs.YtimakagmhikhfaaW.PrintWords Go.Proofs.YtimakagmhikhfaaW.PrintLast
set_option linter.unusedVariables false
def obg (x : Int) : S31 := ⟨0, x, []⟩
def odn (x : Int) : S31 := ⟨2, x, []⟩
def cntl (D L : List Int) : List (Int × Int) := L.map fun y => (y, if y ∈ D then 0 else 1)
def wantAt (D L : List Int) : Int := (popz 0 (cntl D L)).1
theorem popz_ins {x : Int} : ∀ (l : List (Int × Int)) (u c : Int), Asc l → cnt x l = some c → c ≠ 0 → popz (popz u l).1 (ins x (-1) (popz u l).2) = popz u (ins x (-1) l)
  | [], u, c, _, h, _ => by simp [cnt] at h
  | (j, c0) :: t, u, c, ha, h, hc => by
    have ⟨h1, h2⟩ := List.pairwise_cons.1 ha
    simp only [cnt] at h
    by_cases e0 : c0 = 0
    · have hj : j ≠ x := by
        intro e
        rw [if_pos e] at h
        injection h with h
        omega
      rw [if_neg hj] at h
      have hlt : j < x := h1 (x, c) (cnt_some h)
      have e1 : popz u ((j, c0) :: t) = popz j t := by simp [popz, e0]
      have e2 : ins x (-1) ((j, c0) :: t) = (j, c0) :: ins x (-1) t := by simp [ins, hlt]
      have e3 : popz u ((j, c0) :: ins x (-1) t) = popz j (ins x (-1) t) := by simp [popz, e0]
      rw [e1, e2, e3]
      exact popz_ins t j c h2 h hc
    · have e1 : popz u ((j, c0) :: t) = (u, (j, c0) :: t) := by simp [popz, e0]
      rw [e1]
theorem cnt_popz {x : Int} : ∀ (l : List (Int × Int)) (u c : Int), cnt x l = some c → c ≠ 0 → cnt x (popz u l).2 = some c
  | [], u, c, h, _ => by simp [cnt] at h
  | (j, c0) :: t, u, c, h, hc => by
    simp only [popz]
    split
    · rename_i e0
      simp only [cnt] at h
      by_cases hj : j = x
      · rw [if_pos hj] at h
        injection h with h
        omega
      · rw [if_neg hj] at h
        exact cnt_popz t j c h hc
    · exact h
theorem cntl_asc {D : List Int} : ∀ {L : List Int}, L.Pairwise (· < ·) → Asc (cntl D L)
  | [], _ => List.Pairwise.nil
  | x :: L, h => by
    have ⟨h1, h2⟩ := List.pairwise_cons.1 h
    refine List.pairwise_cons.2 ⟨fun p hp => ?_, cntl_asc h2⟩
    obtain ⟨y, hy, e⟩ := List.mem_map.1 hp
    rw [← e]
    exact h1 y hy
theorem cntl_cnt {D : List Int} {x : Int} (hx : x ∉ D) : ∀ {L : List Int}, x ∈ L → cnt x (cntl D L) = some 1
  | [], h => by cases h
  | y :: L, h => by
    simp only [cntl, List.map_cons, cnt]
    by_cases e : y = x
    · rw [if_pos e, e, if_neg hx]
    · rw [if_neg e]
      rcases List.mem_cons.1 h with h | h
      · exact absurd h.symm e
      · exact cntl_cnt hx h
theorem ins_cntl {D : List Int} {x : Int} (hx : x ∉ D) : ∀ {L : List Int}, L.Pairwise (· < ·) → x ∈ L → ins x (-1) (cntl D L) = cntl (D ++ [x]) L
  | [], _, h => by cases h
  | y :: L, hp, h => by
    have ⟨h1, h2⟩ := List.pairwise_cons.1 hp
    by_cases e : y = x
    · subst e
      have ht : cntl D L = cntl (D ++ [y]) L := by
        unfold cntl
        refine List.map_congr_left (fun z hz => ?_)
        have : z ≠ y := by have := h1 z hz; omega
        simp [this]
      simp only [cntl, List.map_cons, ins] at ht ⊢
      rw [if_neg (by omega), if_pos trivial, ht, if_neg hx]
      simp
    · have hm : x ∈ L := by
        rcases List.mem_cons.1 h with h | h
        · exact absurd h.symm e
        · exact h
      have hlt := h1 x hm
      have ih := ins_cntl hx h2 hm
      simp only [cntl, List.map_cons, ins] at ih ⊢
      rw [if_pos hlt, ih]
      simp [e]
theorem oact_b (p : Bool) (x : Int) (σ : Wat) (ws : List Int) : actOk p (obg x) σ ws = ((σ.begin_ x).1, (σ.begin_ x).2, ws) := by unfold actOk obg; rw [if_pos rfl]
theorem oact_d (p : Bool) (x : Int) (σ : Wat) (ws : List Int) : actOk p (odn x) σ ws = ((σ.done_ x).1, (σ.done_ x).2, ws) := by unfold actOk odn; rw [if_neg (by simp), if_neg (by simp), if_pos rfl]
/-- All are done, one behind the other. -/
theorem run_dn (L : List Int) (hL : L.Pairwise (· < ·)) (last : Int) : ∀ (E D : List Int) (p : Bool), (∀ x ∈ E, x ∈ L) → (∀ x ∈ E, x ∉ D) → E.Pairwise (· ≠ ·) → ∃ r, run p (E.map odn) ⟨(popz 0 (cntl D L)).1, last, (popz 0 (cntl D L)).2⟩ [] = some r ∧ r.length = E.length ∧ ∀ i, i < E.length → (rd_T34 r (i : Int)).f0 = wantAt (D ++ E.take (i + 1)) L
  | [], D, p, _, _, _ => ⟨[], rfl, rfl, fun i h => by simp at h⟩
  | x :: E, D, p, hs, hn, hd => by
    have ⟨d1, d2⟩ := List.pairwise_cons.1 hd
    have hx := hn x List.mem_cons_self
    have hxL := hs x List.mem_cons_self
    have hc := cntl_cnt hx hxL
    have hop : isOpen (popz 0 (cntl D L)).2 x = true := by
      unfold isOpen
      rw [cnt_popz _ 0 1 hc (by omega)]
      rfl
    have hadd : (Wat.mk (popz 0 (cntl D L)).1 last (popz 0 (cntl D L)).2).add x (-1) = ⟨(popz 0 (cntl (D ++ [x]) L)).1, last, (popz 0 (cntl (D ++ [x]) L)).2⟩ := by
      unfold Wat.add
      simp only []
      rw [popz_ins _ 0 1 (cntl_asc hL) hc (by omega), ins_cntl hx hL hxL]
    have hb : (Wat.mk (popz 0 (cntl D L)).1 last (popz 0 (cntl D L)).2).done_ x = (true, ⟨(popz 0 (cntl (D ++ [x]) L)).1, last, (popz 0 (cntl (D ++ [x]) L)).2⟩) := by
      unfold Wat.done_
      rw [if_pos hop, hadd]
    obtain ⟨r, hr, hl, hw⟩ := run_dn L hL last E (D ++ [x]) ((odn x).f0 == 4) (fun y hy => hs y (List.mem_cons_of_mem _ hy)) (fun y hy h => by
      rcases List.mem_append.1 h with h | h
      · exact hn y (List.mem_cons_of_mem _ hy) h
      · exact d1 y hy (List.mem_singleton.1 h).symm) d2
    refine ⟨markOf ⟨(popz 0 (cntl (D ++ [x]) L)).1, last, (popz 0 (cntl (D ++ [x]) L)).2⟩ [] :: r, ?_, by simp [hl], fun i hi => ?_⟩
    · rw [List.map_cons, run, oact_d, hb]
      simp only [if_true]
      rw [hr]
      rfl
    · cases i with
      | zero => simp [rd_T34, markOf, wantAt]
      | succ i =>
        have := hw i (by simpa using hi)
        simpa [rd_T34] using this
theorem ins_end {x : Int} : ∀ (l : List (Int × Int)), (∀ p ∈ l, p.1 < x) → ins x 1 l = l ++ [(x, 1)]
  | [], _ => rfl
  | (j, c) :: t, h => by
    have h1 : j < x := h (j, c) List.mem_cons_self
    simp only [ins]
    rw [if_pos h1, ins_end t (fun p hp => h p (List.mem_cons_of_mem _ hp))]
    rfl
theorem popz_ones (u : Int) (L : List Int) : popz u (L.map fun y => (y, (1 : Int))) = (u, L.map fun y => (y, (1 : Int))) := by
  cases L with
  | nil => rfl
  | cons x L => simp [popz]
/-- All are begun, one behind the other. -/
theorem run_bg (t : List S31) (rest : List S34) (lastL : Int) (All : List Int) (h : ∀ p last, ∃ r, run p t ⟨0, last, All.map fun y => (y, 1)⟩ [] = some r ∧ r.length = t.length ∧ r.map (·.f0) = rest.map (·.f0)) : ∀ (E B : List Int) (p : Bool) (last : Int), B ++ E = All → (B ++ E).Pairwise (· < ·) → (∀ x ∈ E, 1 ≤ x ∧ x ≤ most) → ∃ r, run p (E.map obg ++ t) ⟨0, last, B.map fun y => (y, 1)⟩ [] = some r ∧ r.length = E.length + t.length ∧ r.map (·.f0) = List.replicate E.length 0 ++ rest.map (·.f0)
  | [], B, p, last, hA, hp, hx => by
    obtain ⟨r, h1, h2, h3⟩ := h p last
    rw [List.append_nil] at hA
    subst hA
    exact ⟨r, by simpa using h1, by simpa using h2, by simpa using h3⟩
  | x :: E, B, p, last, hA, hp, hx => by
    have hxx := hx x List.mem_cons_self
    have hlt : ∀ q ∈ (B.map fun y => (y, (1 : Int))), q.1 < x := fun q hq => by
      obtain ⟨y, hy, e⟩ := List.mem_map.1 hq
      rw [← e]
      exact (List.pairwise_append.1 hp).2.2 y hy x List.mem_cons_self
    have hb : (Wat.mk 0 last (B.map fun y => (y, 1))).begin_ x = (true, ⟨0, x, (B ++ [x]).map fun y => (y, 1)⟩) := by
      unfold Wat.begin_
      rw [if_neg (show ¬ (x ≤ (0 : Int) ∨ most < x) by omega)]
      unfold Wat.add
      simp only []
      rw [ins_end _ hlt]
      have : (B.map fun y => (y, (1 : Int))) ++ [(x, 1)] = (B ++ [x]).map fun y => (y, (1 : Int)) := by simp
      rw [this, popz_ones]
    obtain ⟨r, h1, h2, h3⟩ := run_bg t rest lastL All h E (B ++ [x]) ((obg x).f0 == 4) x (by simpa using hA) (by simpa using hp) (fun y hy => hx y (List.mem_cons_of_mem _ hy))
    refine ⟨markOf ⟨0, x, (B ++ [x]).map fun y => (y, 1)⟩ [] :: r, ?_, by simp [h2]; omega, ?_⟩
    · rw [List.map_cons, List.cons_append, run, oact_b, hb]
      simp only [if_true]
      rw [h1]
      rfl
    · simp [h3, markOf, List.replicate_succ]
theorem cntl_nil (L : List Int) : cntl [] L = L.map fun y => (y, 1) := by simp [cntl]
theorem run_order (L D : List Int) (hL : L.Pairwise (· < ·)) (hx : ∀ x ∈ L, 1 ≤ x ∧ x ≤ most) (hD : ∀ x ∈ D, x ∈ L) (hN : D.Pairwise (· ≠ ·)) : ∃ r, run true (L.map obg ++ D.map odn) w0 [] = some r ∧ r.length = L.length + D.length ∧ ∀ i, i < L.length + D.length → (rd_T34 r (i : Int)).f0 = wantAt (D.take (i + 1 - L.length)) L := by
  have key : ∃ rest : List S34, rest.length = D.length ∧ (∀ i, i < D.length → (rd_T34 rest (i : Int)).f0 = wantAt (D.take (i + 1)) L) ∧ ∀ p last, ∃ r, run p (D.map odn) ⟨0, last, L.map fun y => (y, 1)⟩ [] = some r ∧ r.length = (D.map odn).length ∧ r.map (·.f0) = rest.map (·.f0) := by
    have all : ∀ last p, ∃ r, run p (D.map odn) ⟨0, last, L.map fun y => (y, 1)⟩ [] = some r ∧ r.length = D.length ∧ ∀ i, i < D.length → (rd_T34 r (i : Int)).f0 = wantAt (D.take (i + 1)) L := fun last p => by
      have := run_dn L hL last D [] p hD (fun x _ h => by cases h) hN
      rw [cntl_nil, popz_ones] at this
      simpa using this
    obtain ⟨r0, _, l0, w0⟩ := all 0 true
    refine ⟨r0, l0, w0, fun p last => ?_⟩
    obtain ⟨r, h1, h2, h3⟩ := all last p
    refine ⟨r, h1, by simp [h2], ?_⟩
    refine List.ext_getElem (by simp [h2, l0]) (fun i hi1 hi2 => ?_)
    have hi : i < D.length := by simpa [h2] using hi1
    have e1 := h3 i hi
    have e2 := w0 i hi
    simp only [List.getElem_map]
    have g1 : rd_T34 r (i : Int) = r[i]'(by omega) := by simp [rd_T34, show i < r.length by omega]
    have g2 : rd_T34 r0 (i : Int) = r0[i]'(by omega) := by simp [rd_T34, show i < r0.length by omega]
    rw [← g1, ← g2, e1, e2]
  obtain ⟨rest, hl, hw, hr⟩ := key
  obtain ⟨r, h1, h2, h3⟩ := run_bg (D.map odn) rest 0 L hr L [] true 0 rfl (by simpa using hL) hx
  have h2' : r.length = L.length + D.length := by simpa using h2
  refine ⟨r, h1, h2', fun i hi => ?_⟩
  have hir : i < r.length := by omega
  have g1 : rd_T34 r (i : Int) = r[i] := by simp [rd_T34, hir]
  have g2 : (r.map (·.f0))[i]'(by simpa using hir) = (r[i]).f0 := by simp
  rw [g1, ← g2]
  simp only [h3]
  by_cases hlt : i < L.length
  · rw [List.getElem_append_left (by simpa using hlt)]
    rw [show i + 1 - L.length = 0 by omega]
    simp [wantAt, cntl_nil, popz_ones]
  · rw [List.getElem_append_right (by simp; omega)]
    have e := hw (i - L.length) (by omega)
    have g3 : rd_T34 rest ((i - L.length : Nat) : Int) = rest[i - L.length]'(by omega) := by simp [rd_T34, show i - L.length < rest.length by omega]
    rw [g3] at e
    simp only [List.length_replicate, List.getElem_map]
    rw [e, show i - L.length + 1 = i + 1 - L.length by omega]
/-! ### the printed loops -/
theorem ow1 (m : Nat) (h : m ≤ 2097152) : wrap64 ((m : Int) + 1) = ((m + 1 : Nat) : Int) := by unfold wrap64; omega
theorem ord (l : List Int) (i : Nat) (h : i < l.length) : rd l (i : Int) = l[i] := by simp [rd, h]
theorem has_go (x : Int) (D : List Int) (hD : D.length ≤ 1000) (K : Nat) : ∀ d m : Nat, m + d = D.length → spec_Has.l0 (d + 1 + K) x D (D.length : Int) (m : Int) = some (decide (x ∈ D.drop m))
  | 0, m, hm => by
    have : m = D.length := by omega
    subst this
    rw [show 0 + 1 + K = K + 1 by omega, spec_Has.l0, if_neg (by omega)]
    simp
  | d + 1, m, hm => by
    have hml : m < D.length := by omega
    rw [show d + 1 + 1 + K = (d + 1 + K) + 1 by omega, spec_Has.l0, if_pos (by omega), if_pos (by omega), if_pos (by omega), ord D m hml, List.drop_eq_getElem_cons hml]
    by_cases e : D[m] = x
    · rw [if_pos e]
      simp [e]
    · rw [if_neg e, ow1 m (by omega), has_go x D hD K d (m + 1) (by omega)]
      have e' : (x ∈ D[m] :: D.drop (m + 1)) ↔ x ∈ D.drop (m + 1) := by
        rw [List.mem_cons]
        exact ⟨fun h => h.resolve_left (Ne.symm e), .inr⟩
      congr 1
      exact decide_eq_decide.2 e'.symm
theorem has_ (x : Int) (D : List Int) (hD : D.length ≤ 1000) (F : Nat) (hF : 1001 ≤ F) : spec_Has.f F D x = some (decide (x ∈ D)) := by
  obtain ⟨K, rfl⟩ : ∃ K, F = D.length + 1 + K := ⟨F - (D.length + 1), by omega⟩
  have := has_go x D hD K D.length 0 (by omega)
  rw [show ((0 : Nat) : Int) = 0 from rfl, List.drop_zero] at this
  exact this
/-- The mark that is wanted, and the check. -/
theorem l4_go (L D : List Int) (hL : L.length ≤ 300) (hD : D.length ≤ 1000) (x9 : List S31) (x15 : List S34) (i : Nat) (hi : i < x15.length) (hb : x15.length ≤ 1000) (N : Int) (K : Nat) (hK : 1001 ≤ K) : ∀ d j : Nat, j + d = L.length → ∀ u : Int, (rd_T34 x15 (i : Int)).f0 = (popz u (cntl D (L.drop j))).1 → ∃ F ≤ d + 1, ∀ G, laws_FnMarkOrder.l4 (F + (K + G)) L x9 x15 D (i : Int) u (j : Int) N (i : Int) = laws_FnMarkOrder.l3 (K + G) L x9 x15 D N ((i + 1 : Nat) : Int)
  | 0, j, hj, u, h => by
    have : j = L.length := by omega
    subst this
    refine ⟨1, by omega, fun G => ?_⟩
    simp only [List.drop_length] at h
    have h' : (rd_T34 x15 (i : Int)).f0 = u := h
    rw [show 1 + (K + G) = (K + G) + 1 by omega, laws_FnMarkOrder.l4, if_neg (by omega), if_pos (by omega), if_pos (by omega), if_pos h', ow1 i (by omega)]
  | d + 1, j, hj, u, h => by
    have hjl : j < L.length := by omega
    rw [List.drop_eq_getElem_cons hjl] at h
    simp only [cntl, List.map_cons, popz] at h
    by_cases hm : L[j] ∈ D
    · rw [if_pos (by rw [if_pos hm])] at h
      obtain ⟨F, hF1, hF2⟩ := l4_go L D hL hD x9 x15 i hi hb N K hK d (j + 1) (by omega) L[j] h
      refine ⟨F + 1, by omega, fun G => ?_⟩
      rw [show F + 1 + (K + G) = (F + (K + G)) + 1 by omega, laws_FnMarkOrder.l4, if_pos (by omega), if_pos (by omega), ord L j hjl, has_ _ D hD _ (by omega), Option.bind_some, decide_eq_true hm, if_pos rfl, ow1 j (by omega), hF2 G]
    · rw [if_neg (by rw [if_neg hm]; omega)] at h
      refine ⟨1, by omega, fun G => ?_⟩
      rw [show 1 + (K + G) = (K + G) + 1 by omega, laws_FnMarkOrder.l4, if_pos (by omega), if_pos (by omega), ord L j hjl, has_ _ D hD _ (by omega), Option.bind_some, decide_eq_false hm, if_neg (by simp), if_pos (by omega), if_pos (by omega), if_pos h, ow1 i (by omega)]
theorem l3_go (L D : List Int) (hL : L.length ≤ 300) (hD : D.length ≤ 300) (r : List S34) (hr : r.length = L.length + D.length) (hw : ∀ i, i < L.length + D.length → (rd_T34 r (i : Int)).f0 = wantAt (D.take (i + 1 - L.length)) L) : ∀ d i : Nat, i + d = L.length + D.length → ∃ F, ∀ K, laws_FnMarkOrder.l3 (F + K) L (L.map obg ++ D.map odn) r (D.take (i - L.length)) (r.length : Int) (i : Int) = some true
  | 0, i, hi => ⟨1, fun K => by rw [show 1 + K = K + 1 by omega, laws_FnMarkOrder.l3, if_neg (by omega), works_]; rfl⟩
  | d + 1, i, hi => by
    obtain ⟨F, hF⟩ := l3_go L D hL hD r hr hw d (i + 1) (by omega)
    have hwi := hw i (by omega)
    have hDt : (D.take (i + 1 - L.length)).length ≤ 1000 := by rw [List.length_take]; omega
    obtain ⟨F2, _, hF2⟩ := l4_go L (D.take (i + 1 - L.length)) hL hDt (L.map obg ++ D.map odn) r i (by omega) (by omega) (r.length : Int) (F + 1001) (by omega) L.length 0 (by omega) 0 (by rw [hwi]; rfl)
    refine ⟨F2 + (F + 1001) + 2, fun K => ?_⟩
    have ha : rd_T31 (L.map obg ++ D.map odn) (i : Int) = (L.map obg ++ D.map odn)[i]'(by simp; omega) := by simp [rd_T31, show i < L.length + D.length by omega]
    have hj : laws_FnMarkOrder.j5 (F2 + (F + 1001 + K) + 1) L (L.map obg ++ D.map odn) r (D.take (i + 1 - L.length)) (i : Int) (r.length : Int) (i : Int) = some true := by
      rw [laws_FnMarkOrder.j5]
      have := hF2 K
      rw [show ((0 : Nat) : Int) = 0 from rfl] at this
      rw [this]
      have := hF (1001 + K)
      rw [show F + 1001 + K = F + (1001 + K) by omega]
      exact this
    rw [show F2 + (F + 1001) + 2 + K = (F2 + (F + 1001 + K) + 1) + 1 by omega, laws_FnMarkOrder.l3, if_pos (by omega), if_pos (by omega), if_pos (by simp; omega), ha]
    by_cases hlt : i < L.length
    · rw [List.getElem_append_left (by simpa using hlt)]
      simp only [List.getElem_map, obg]
      rw [if_neg (by omega)]
      rw [show i - L.length = i + 1 - L.length by omega]
      exact hj
    · rw [List.getElem_append_right (by simp; omega)]
      simp only [List.getElem_map, odn, List.length_map]
      rw [if_pos trivial, if_pos (by rw [List.length_take]; omega)]
      have : D.take (i - L.length) ++ [D[i - L.length]'(by omega)] = D.take (i + 1 - L.length) := by
        rw [show i + 1 - L.length = (i - L.length) + 1 by omega, List.take_add_one, List.getElem?_eq_getElem (by omega)]
        rfl
      rw [this]
      exact hj
/-- The doing, in any order. -/
theorem l2_go (L ord_ : List Int) (hL : L.length ≤ 300) (hP : L.Pairwise (· < ·)) (hx : ∀ x ∈ L, 1 ≤ x ∧ x ≤ most) (ho : L.length ≤ ord_.length) (hob : ∀ x ∈ ord_, (Lit.int .i64 x).wf = true) : ∀ d i : Nat, i + d = L.length → ∀ (D left : List Int), D.length = i → left.length = d → left.Pairwise (· ≠ ·) → (∀ x ∈ left, x ∈ L ∧ x ∉ D) → (∀ x ∈ D, x ∈ L) → D.Pairwise (· ≠ ·) → ∃ F, ∀ K, laws_FnMarkOrder.l2 (F + K) ord_ L (L.map obg ++ D.map odn) left (L.length : Int) (i : Int) = some true
  | 0, i, hi, D, left, hD, hl, hn, hs, hDL, hDN => by
    obtain ⟨r, h1, h2, h3⟩ := run_order L D hP hx hDL hDN
    obtain ⟨F, hF⟩ := l3_go L D hL (by omega) r h2 h3 (L.length + D.length) 0 (by omega)
    refine ⟨F + 1, fun K => ?_⟩
    have ht : tot (L.map obg ++ D.map odn) ≤ 1048576 := by
      have tr : ∀ (f : Int → S31), (∀ x, (f x).f2 = []) → ∀ E : List Int, tot (E.map f) = E.length := fun f hf E => by
        induction E with
        | nil => rfl
        | cons a E ih =>
          simp only [tot] at ih
          simp only [tot, List.map_cons, List.sum_cons, weight, hf, List.length_cons, List.length_nil] at ih ⊢
          omega
      have ta : tot (L.map obg ++ D.map odn) = tot (L.map obg) + tot (D.map odn) := by simp [tot]
      rw [ta, tr obg (fun _ => rfl), tr odn (fun _ => rfl)]
      omega
    rw [show F + 1 + K = (F + K) + 1 by omega, laws_FnMarkOrder.l2, if_neg (by omega), impl_f _ ht, h1, Option.bind_some, if_pos (by simp [h2])]
    have := hF K
    simpa using this
  | d + 1, i, hi, D, left, hD, hl, hn, hs, hDL, hDN => by
    have hio : i < ord_.length := by omega
    have hor : rd ord_ (i : Int) = ord_[i] := ord ord_ i hio
    by_cases h0 : ord_[i] < 0
    · exact ⟨1, fun K => by rw [show 1 + K = K + 1 by omega, laws_FnMarkOrder.l2, if_pos (by omega), if_pos (by omega), if_pos (by omega), hor, if_pos h0, works_]; rfl⟩
    · obtain ⟨j, hj, hjl⟩ : ∃ j : Nat, Int.tmod ord_[i] (left.length : Int) = (j : Int) ∧ j < left.length := by
        have h1 := Int.tmod_nonneg (left.length : Int) (a := ord_[i]) (by omega)
        have h2 := Int.tmod_lt_of_pos ord_[i] (b := (left.length : Int)) (by omega)
        exact ⟨(Int.tmod ord_[i] (left.length : Int)).toNat, by omega, by omega⟩
      have hsj := hs left[j] (List.getElem_mem hjl)
      have hsub : ∀ x ∈ left.eraseIdx j, x ∈ left ∧ x ≠ left[j] := fun x hx' => by
        refine ⟨List.mem_of_mem_eraseIdx hx', ?_⟩
        have e := List.take_append_drop j left
        rw [List.drop_eq_getElem_cons hjl] at e
        rw [← e] at hn
        obtain ⟨_, n2, n3⟩ := List.pairwise_append.1 hn
        have ⟨n4, _⟩ := List.pairwise_cons.1 n2
        rw [List.eraseIdx_eq_take_drop_succ] at hx'
        rcases List.mem_append.1 hx' with hx' | hx'
        · exact n3 x hx' _ List.mem_cons_self
        · exact fun e => n4 x hx' e.symm
      obtain ⟨F, hF⟩ := l2_go L ord_ hL hP hx ho hob d (i + 1) (by omega) (D ++ [left[j]]) (left.eraseIdx j) (by simp [hD]) (by rw [List.length_eraseIdx, if_pos hjl]; omega)
        (hn.sublist (List.eraseIdx_sublist _ _))
        (fun x hx' => by
          obtain ⟨m1, m2⟩ := hsub x hx'
          obtain ⟨m3, m4⟩ := hs x m1
          refine ⟨m3, fun h => ?_⟩
          rcases List.mem_append.1 h with h | h
          · exact m4 h
          · exact m2 (List.mem_singleton.1 h))
        (fun x hx' => by
          rcases List.mem_append.1 hx' with h | h
          · exact hDL x h
          · rw [List.mem_singleton.1 h]; exact hsj.1)
        (List.pairwise_append.2 ⟨hDN, List.pairwise_singleton _ _, fun a ha b hb e => by rw [List.mem_singleton.1 hb] at e; rw [e] at ha; exact hsj.2 ha⟩)
      refine ⟨F + 1, fun K => ?_⟩
      rw [show F + 1 + K = (F + K) + 1 by omega, laws_FnMarkOrder.l2, if_pos (by omega), if_pos (by omega), if_pos (by omega), hor, if_neg h0, if_neg (by omega), hj, ow1 j (by omega), ow1 i (by omega)]
      simp only [Option.bind_some, Int.toNat_natCast]
      rw [if_pos (by omega), if_pos (by omega), if_pos (by simp; omega), if_pos (by omega), if_pos (by simp; omega), if_pos (by omega), if_pos (by omega), if_pos (by simp; omega), ord left j hjl]
      have := hF K
      rw [List.eraseIdx_eq_take_drop_succ] at this
      simpa [odn] using this
/-- The acts that begin. -/
theorem l1_go (L ord_ : List Int) (hL : L.length ≤ 300) (hP : L.Pairwise (· < ·)) (hx : ∀ x ∈ L, 1 ≤ x ∧ x ≤ most) (ho : L.length ≤ ord_.length) (hob : ∀ x ∈ ord_, (Lit.int .i64 x).wf = true) : ∀ d i : Nat, i + d = L.length → ∀ acc : List S31, acc = (L.take i).map obg → ∃ F, ∀ K, laws_FnMarkOrder.l1 (F + K) ord_ L acc L (L.length : Int) (i : Int) = some true
  | 0, i, hi, acc, ha => by
    obtain ⟨F, hF⟩ := l2_go L ord_ hL hP hx ho hob L.length 0 (by omega) [] L rfl rfl (hP.imp (fun h => by omega)) (fun x h => ⟨h, by simp⟩) (fun x h => by cases h) List.Pairwise.nil
    have : i = L.length := by omega
    subst this
    rw [List.take_length] at ha
    subst ha
    refine ⟨F + 1, fun K => ?_⟩
    rw [show F + 1 + K = (F + K) + 1 by omega, laws_FnMarkOrder.l1, if_neg (by omega), Option.bind_some, if_pos (by simp; omega)]
    have := hF K
    simpa using this
  | d + 1, i, hi, acc, ha => by
    have hil : i < L.length := by omega
    obtain ⟨F, hF⟩ := l1_go L ord_ hL hP hx ho hob d (i + 1) (by omega) (acc ++ [obg L[i]]) (by rw [ha, List.take_add_one, List.getElem?_eq_getElem hil, List.map_append]; rfl)
    refine ⟨F + 1, fun K => ?_⟩
    rw [show F + 1 + K = (F + K) + 1 by omega, laws_FnMarkOrder.l1, if_pos (by omega), if_pos (by omega), if_pos (by omega), if_pos (by rw [ha]; simp; omega), ow1 i (by omega), ord L i hil]
    exact hF K
/-- The list, out of the gaps. -/
theorem l0_go (g ord_ : List Int) (hob : ∀ x ∈ ord_, (Lit.int .i64 x).wf = true) (d : Nat) : ∀ i : Nat, i + d = g.length → ∀ (acc : List Int) (u : Int), acc.length = i → (i = 0 ∨ (g.length ≤ 300 ∧ g.length ≤ ord_.length)) → 0 ≤ u → u ≤ (i : Int) * 1048577 → acc.Pairwise (· < ·) → (∀ x ∈ acc, 1 ≤ x ∧ x ≤ u) → ∃ F, ∀ K, laws_FnMarkOrder.l0 (F + K) g ord_ acc u g (g.length : Int) (i : Int) = some true := by
  induction d with
  | zero =>
    intro i hi acc u ha hc h0 h1 hP hx
    have hs : acc.length ≤ 300 ∧ acc.length ≤ ord_.length := by omega
    obtain ⟨F, hF⟩ := l1_go acc ord_ hs.1 hP (fun x h => by have := hx x h; simp only [most]; omega) hs.2 hob acc.length 0 (by omega) [] (by simp)
    refine ⟨F + 1, fun K => ?_⟩
    rw [show F + 1 + K = (F + K) + 1 by omega, laws_FnMarkOrder.l0, if_neg (by omega)]
    exact hF K
  | succ d ih =>
    intro i hi acc u ha hc h0 h1 hP hx
    have hil : i < g.length := by omega
    have ho := ord g i hil
    by_cases g0 : g[i] < 0
    · exact ⟨1, fun K => by rw [show 1 + K = K + 1 by omega, laws_FnMarkOrder.l0, if_pos (by omega), if_pos (by omega), if_pos (by omega), ho, if_pos g0, works_]; rfl⟩
    · by_cases g1 : g[i] > 1048576
      · exact ⟨1, fun K => by rw [show 1 + K = K + 1 by omega, laws_FnMarkOrder.l0, if_pos (by omega), if_pos (by omega), if_pos (by omega), ho, if_neg g0, if_pos g1, works_]; rfl⟩
      · by_cases g2 : (g.length : Int) > 300
        · exact ⟨1, fun K => by rw [show 1 + K = K + 1 by omega, laws_FnMarkOrder.l0, if_pos (by omega), if_pos (by omega), if_pos (by omega), ho, if_neg g0, if_neg g1, if_pos g2, works_]; rfl⟩
        · by_cases g3 : (ord_.length : Int) < (g.length : Int)
          · exact ⟨1, fun K => by rw [show 1 + K = K + 1 by omega, laws_FnMarkOrder.l0, if_pos (by omega), if_pos (by omega), if_pos (by omega), ho, if_neg g0, if_neg g1, if_neg g2, if_pos g3, works_]; rfl⟩
          · have e : wrap64 (u + wrap64 (1 + g[i])) = u + (1 + g[i]) := by unfold wrap64; omega
            have hi1 : ((i + 1 : Nat) : Int) = (i : Int) + 1 := by omega
            obtain ⟨F, hF⟩ := ih (i + 1) (by omega) (acc ++ [u + (1 + g[i])]) (u + (1 + g[i])) (by simp [ha]) (.inr ⟨by omega, by omega⟩) (by omega) (by rw [hi1]; omega)
              (List.pairwise_append.2 ⟨hP, List.pairwise_singleton _ _, fun a ha' b hb => by rw [List.mem_singleton.1 hb]; have := hx a ha'; omega⟩)
              (fun x hx' => by
                rcases List.mem_append.1 hx' with h | h
                · have := hx x h; omega
                · rw [List.mem_singleton.1 h]; omega)
            refine ⟨F + 1, fun K => ?_⟩
            rw [show F + 1 + K = (F + K) + 1 by omega, laws_FnMarkOrder.l0, if_pos (by omega), if_pos (by omega), if_pos (by omega), ho, if_neg g0, if_neg g1, if_neg g2, if_neg g3, if_pos (by omega), e, ow1 i (by omega)]
            exact hF K
theorem FnMarkOrder : laws_FnMarkOrder.Pure := by
  intro g o hg1 hg2 hg3 ho1 ho2 ho3
  obtain ⟨F, hF⟩ := l0_go g o ho3 g.length 0 (by omega) [] 0 rfl (.inl rfl) (by omega) (by omega) List.Pairwise.nil (fun x h => by cases h)
  have hF0 := hF 0
  rw [show ((0 : Nat) : Int) = 0 from rfl, Nat.add_zero] at hF0
  refine ⟨F + 1, ?_⟩
  unfold laws_FnMarkOrder.f
  split
  · rw [laws_FnMarkOrder.j0, if_pos rfl]
  · rw [laws_FnMarkOrder.j0]
    split
    · rfl
    · exact hF0
end Go.Proofs.Ytimakagmhikhfaa.Pure
