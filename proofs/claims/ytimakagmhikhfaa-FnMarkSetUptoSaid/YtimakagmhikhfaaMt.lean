/- A new water mark, and one who waits for it. -/
import Derived.Test.YtimakagmhikhfaaMs
namespace Go.Proofs.Ytimakagmhikhfaa.Mt
open Go.RowKit Go.Proofs.YtimakagmhikhfaaW.PrintWords Go.Proofs.YtimakagmhikhfaaW.PrintLast Go.Proofs.YtimakagmhikhfaaW.PrintMore Go.Proofs.Ytimakagmhikhfaa.Mk Go.Proofs.Ytimakagmhikhfaa.Fr Go.Proofs.Ytimakagmhikhfaa.Hp Go.Proofs.Ytimakagmhikhfaa.Wt Go.Proofs.Ytimakagmhikhfaa.Px Go.Proofs.Ytimakagmhikhfaa.Po Go.Proofs.Ytimakagmhikhfaa.Pr Go.Proofs.Ytimakagmhikhfaa.Ms
set_option linter.unusedVariables false
set_option linter.unusedSimpArgs false
theorem SX.keep {w w1 : World} {T : Nat → Prop} {wb pb qb : Nat} {nm v : Value} {hs : List Int} {l : List (Int × Int)} {till last : Int} {ws : Wl} {D : Int → Bool} {es : List Ent} {ck : Nat} (h : SX w T wb pb qb nm v hs l till last ws D es ck) (hk : Kp w w1 (fun _ => False)) : SX w1 T wb pb qb nm v hs l till last ws D es ck := by
  obtain ⟨pes, pck, h1, h2⟩ := h.pm
  exact ⟨Kd.R_kept h.hr hk.kept (fun _ _ h => h), hk.blk h.hw (fun h => h), ⟨pes, pck, hk.blk h1 (fun h => h), h2⟩, WRkeep h.wr hk (Only.none w [] (fun _ => False)) (by simp) (by simp) (fun h => h), h.ne, h.tv, h.tw, h.tp⟩
theorem St.keep {w w1 : World} {T : Nat → Prop} {wb : Nat} {σ : Wat} {ws : Wl} (h : St w T wb σ ws) (hk : Kp w w1 (fun _ => False)) : St w1 T wb σ ws := by
  obtain ⟨pb, qb, nm, v, hs, l, es, ck, hX, hR, hT⟩ := h
  exact ⟨pb, qb, nm, v, hs, l, es, ck, SX.keep hX hk, hR, fun k h => Nat.lt_of_lt_of_le (hT k h) hk.size⟩
theorem content_late {ws : Wl} {i k : Int} {b : Nat} (h : k ≠ i) : content (ws ++ [(i, b)]) k = content ws k := by
  simp [content, List.filter_append, List.filter_cons, Ne.symm h]
/-- One who comes when it is done. -/
theorem WR.late {w : World} {T : Nat → Prop} {qb : Nat} {ws : Wl} {D : Int → Bool} {es : List Ent} {ck : Nat} (h : WR w T qb ws D es ck) {i : Int} {b : Nat} (hD : D i = true) (hb : w.heap[b]? = some (.cells #[.bool true] 62 (0, 0))) (hn : ∀ p ∈ ws, p.2 ≠ b) : WR w (fun k => T k ∨ k = b) qb (ws ++ [(i, b)]) D es ck := by
  have hne : ∀ x ∈ es, x.1 ≠ i := fun x hx e => by have := h.en.still x hx; rw [e, hD] at this; cases this
  refine ⟨⟨h.en.blk, h.en.once, h.en.born, h.en.clock, fun x hx => ?_, fun x hx => ?_, h.en.still, h.en.apart, fun p hp hf => ?_⟩, fun p hp => ?_, ?_, .inl h.tq, fun p hp => ?_⟩
  · rw [content_late (hne x hx)]; exact Kd.R_mono (h.en.row x hx) (fun _ h => .inl h)
  · rw [content_late (hne x hx)]; exact h.en.some_ x hx
  · rcases List.mem_append.1 hp with hp | hp
    · exact h.en.cover p hp hf
    · rw [List.mem_singleton.1 hp] at hf
      simp only [hD] at hf
      cases hf
  · rcases List.mem_append.1 hp with hp | hp
    · exact h.fl p hp
    · rw [List.mem_singleton.1 hp]
      show _ = some (Obj.cells #[.bool (D i)] 62 (0, 0))
      rw [hD]; exact hb
  · exact List.pairwise_append.2 ⟨h.nd, by simp, fun x hx y hy => by rw [List.mem_singleton.1 hy]; exact hn x hx⟩
  · rcases List.mem_append.1 hp with hp | hp
    · exact .inl (h.tw p hp)
    · rw [List.mem_singleton.1 hp]; exact .inr rfl
theorem wait_calls {w : World} {T : Nat → Prop} {wb : Nat} {σ : Wat} {ws : Wl} (h : St w T wb σ ws) (i : Int) (hl : ws.length ≤ 1000000000000) :
    Calls Try.prog 31 #[ptr wb, .int .u64 i] w fun e w' => ∃ b, w.heap.size ≤ b ∧ e = .returned (ptr b) ∧ Ms.Left w T wb σ (ws ++ [(i, b)]) w' := by
  have ht := till_calls h
  have HT := Lib.hid ht
  have HS := Lib.hid h
  clear ht
  have hK : ∀ o : Obj, Kp w (w.alloc o) (fun _ => False) := fun o => (Kp.refl w _).alloc o
  have hne : ∀ p ∈ ws, p.2 ≠ w.heap.size := by
    obtain ⟨pb, qb, nm, v, hs, l, es, ck, hX, hR, hT⟩ := h
    intro p hp
    have := hT _ (hX.wr.tw p hp)
    omega
  clear h
  by_cases c1 : i ≤ σ.till
  · have hp : Ms.Left w T wb σ (ws ++ [(i, w.heap.size)]) (w.alloc (.cells #[.bool true] 62)) := by
      obtain ⟨pb, qb, nm, v, hs, l, es, ck, hX, hR, hT⟩ := HS.out
      have hX2 := SX.keep hX (hK (.cells #[.bool true] 62))
      have W := (WR.late hX2.wr (i := i) (b := w.heap.size) (decide_eq_true c1) (blk_new w _) hne)
      exact ⟨fun k => T k ∨ k = w.heap.size, ⟨pb, qb, nm, v, hs, l, es, ck, ⟨hX2.hr, hX2.hw, hX2.pm, W, hX2.ne, fun k hk => .inl (hX2.tv k hk), .inl hX2.tw, .inl hX2.tp⟩, hR, fun k hk => by
        have hz : (w.alloc (.cells #[.bool true] 62)).heap.size = w.heap.size + 1 := by simp [World.alloc_eq]
        rw [hz]
        rcases hk with hk | hk
        · have := hT k hk; omega
        · omega⟩, fun k hk => by
          rcases hk with hk | hk
          · exact .inl hk
          · exact .inr (.inl (by omega)), (Kp.refl w T).alloc _⟩
    have HP := Lib.hid hp
    clear hp hK
    simp only [ptr] at *
    go_enter Try.func31, Try.ntmps31
    go_wp2_with fail
    refine HT.out.mono ?_
    rintro e w' ⟨rfl, rfl⟩
    go_wp2_with fail
    go_ret
    exact ⟨_, Nat.le_refl _, rfl, HP.out⟩
  · have hi : σ.till < i := by omega
    have h1 := St.keep HS.out (hK (.cells #[.bool false] 62))
    have hp := process_left h1 i (some ⟨w.heap.size, 0, none⟩) none 0 0 false 1 σ (ws ++ [(i, w.heap.size)]) rfl (.wait w.heap.size rfl rfl rfl rfl rfl rfl (blk_new w _) hne hi hl) rfl
    have HP := Lib.hid hp
    clear hp h1
    simp only [ptr] at *
    go_enter Try.func31, Try.ntmps31
    go_wp2_with fail
    refine HT.out.mono ?_
    rintro e w' ⟨rfl, rfl⟩
    go_wp2_with fail
    refine HP.out.mono ?_
    rintro e w' ⟨rfl, hL⟩
    have HL := Lib.hid hL
    clear hL
    go_wp2_with fail
    go_ret
    refine ⟨_, Nat.le_refl _, rfl, ?_⟩
    obtain ⟨T2, g1, g2, g3⟩ := HL.out
    refine ⟨T2, g1, fun k hk => ?_, ((hK _).mono (fun _ h => h.elim)).trans g3 (fun k h => .inl h)⟩
    rcases g2 k hk with h | h | h
    · exact .inl h
    · exact .inr (.inl (Nat.le_trans (hK _).size h))
    · exact .inr (.inr h)
theorem new_calls (w : World) : Calls Try.prog 24 #[] w fun e w' => ∃ wb T, e = .returned (ptr wb) ∧ St w' T wb ⟨0, 0, []⟩ [] ∧ (∀ k, T k → w.heap.size ≤ k) ∧ Kp w w' (fun _ => False) := by
  have hmk := run_makeMap (P := Try.prog)
  go_enter Try.func24, Try.ntmps24
  go_wp2_with fail
  go_ret
  refine ⟨_, fun k => w.heap.size ≤ k ∧ k < w.heap.size + 1 + 1 + 1, rfl, ?_, fun k h => h.1, (((Kp.refl w _).alloc _).alloc _).alloc _⟩
  have s1 : ∀ a : Obj, (w.alloc a).heap.size = w.heap.size + 1 := fun a => by simp [World.alloc_eq]
  have s2 : ∀ a b : Obj, ((w.alloc a).alloc b).heap.size = w.heap.size + 1 + 1 := fun a b => by simp [World.alloc_eq]
  have s3 : ∀ a b c : Obj, (((w.alloc a).alloc b).alloc c).heap.size = w.heap.size + 1 + 1 + 1 := fun a b c => by simp [World.alloc_eq]
  have b1 : ∀ a b c : Obj, (((w.alloc a).alloc b).alloc c).heap[w.heap.size]? = some a := fun a b c => up1 (up1 (blk_new w a))
  have b2 : ∀ a b c : Obj, (((w.alloc a).alloc b).alloc c).heap[w.heap.size + 1]? = some b := fun a b c => by have := blk_new (w.alloc a) b; rw [s1] at this; exact up1 this
  have b3 : ∀ a b c : Obj, (((w.alloc a).alloc b).alloc c).heap[w.heap.size + 1 + 1]? = some c := fun a b c => by have := blk_new ((w.alloc a).alloc b) c; rw [s2] at this; exact this
  refine ⟨w.heap.size, w.heap.size + 1, _, .slice none 0 0, [], [], [], 0, ⟨Kd.R_nil _ _ _ _ _, b3 _ _ _, ⟨[], 0, b1 _ _ _, rfl⟩, ⟨⟨b2 _ _ _, .nil, .nil, fun x h => (by cases h), fun x h => (by cases h), fun x h => (by cases h), fun x h => (by cases h), .nil, fun x h => (by cases h)⟩, fun x h => (by cases h), .nil, by omega, fun x h => (by cases h)⟩, by omega, fun k h => by simp [Value.ownBlock] at h, by omega, by omega⟩, ⟨.refl _, .refl _, isHeap_nil⟩, fun k h => by rw [s3]; exact h.2⟩
end Go.Proofs.Ytimakagmhikhfaa.Mt
