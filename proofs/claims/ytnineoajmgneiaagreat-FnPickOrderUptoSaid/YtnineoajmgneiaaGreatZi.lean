/- Words that the printer of the kit lays beside a seat, those few that Za has not. -/
import Derived.Test.YtnineoajmgneiaaGreatZg
namespace Go.Proofs.YtnineoajmgneiaaGreatW.PrintWords
open Go.RowKit
namespace Kd
section
variable {α : Type} {d : Kd α} {W : World} {g n : Nat} {S ok : Nat → Prop} {A : Option Addr} {ad : Addr} {xs : List α}
theorem C_not_empty (h : d.C W (some ad) n xs) (hn : 0 < n) (hs : 0 < d.sz) : W.cell? ad ≠ none := by
  obtain ⟨ad', he, hc⟩ := h.2.2 hn
  injection he with he
  subst he
  obtain ⟨c, hcl, _, hcell⟩ := hc 0 _ (List.getElem?_eq_getElem (by rw [h.1]; exact hn))
  have h1 := hcell 0 _ (List.getElem?_eq_getElem (by omega))
  rw [Nat.zero_mul, Nat.zero_add, Addr.add_zero'] at h1
  rw [h1]
  exact Option.some_ne_none _
theorem C_lt (h : d.C W (some ad) n xs) (hn : 0 < n) (hs : 0 < d.sz) : ad.block < W.heap.size := by
  cases hc : W.cell? ad with
  | none => exact absurd hc (C_not_empty h hn hs)
  | some v => exact World.block_lt_of_cell? W ad hc
end
end Kd
section
variable {w W W2 : World} {S S2 S' : Nat → Prop}
theorem cell_kept {a : Addr} {v : Value} (hc : W.cell? a = some v) (hk : Kept W W2 S) (hne : ¬ S a.block) : W2.cell? a = some v := by
  have := hk.2 a.block (World.block_lt_of_cell? W a hc) hne
  simpa [World.cell?, this] using hc
end
namespace Kd
section
variable {α : Type} {d : Kd α} {e base n m : Nat} {ok : Nat → Prop} {w w' : World} {v : Value} {A : Option Addr} {xs : List α}
theorem C_foot_neS {S : Nat → Prop} (hd : ∀ {W W' : World} {x : α} {cs : List Value}, d.K W x cs → d.K W' x cs) (h : d.C w A n xs) (hf : ∀ ad, A = some ad → 0 < n → ¬ S ad.block) : ∀ W', Kept w W' S → d.C W' A n xs := by
  intro W' hk
  refine ⟨h.1, h.2.1, fun hn => ?_⟩
  obtain ⟨ad, he, hc⟩ := h.2.2 hn
  refine ⟨ad, he, fun j p hj => ?_⟩
  obtain ⟨cs, h1, h2, h3⟩ := hc j p hj
  exact ⟨cs, h1, hd h2, fun i u hu => cell_kept (h3 i u hu) hk (by rw [add_block]; exact hf ad he hn)⟩
end
end Kd
end Go.Proofs.YtnineoajmgneiaaGreatW.PrintWords
