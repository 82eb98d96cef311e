/- The methods of the heap of indices, and package heap's functions over it. -/
import Derived.Test.YtimakagmhikhfaaMx0
import Derived.Test.YtimakagmhikhfaaPl
import Derived.Test.YtimakagmhikhfaaFr
import Derived.RegionTactic
import Derived.ChangeAlike
import Derived.BigRegion
import Derived.Outline
import Derived.Lib.Hide
namespace Go.Proofs.Ytimakagmhikhfaa.Hp
open Go.RowKit Go.Proofs.YtimakagmhikhfaaW.PrintWords Go.Proofs.YtimakagmhikhfaaW.PrintLast Go.Proofs.YtimakagmhikhfaaW.PrintMore Go.Proofs.Ytimakagmhikhfaa.Mk Go.Proofs.Ytimakagmhikhfaa.Fr
set_option linter.unusedVariables false
set_option linter.unusedSimpArgs false
theorem info53 : (Try.prog.info? 53).map (fun i => (i.zero, i.size, i.bytes)) = some (some (.int .u64 0), 1, 8) := by kernel_rfl
theorem ret_bool {a b : Bool} (h : a = b) : Ending.returned (.bool a) = .returned (.bool b) := by rw [h]
theorem Below.cell_of {w : World} {o : Obj} {a : Addr} {v : Value} (h : w.cell? a = some v) : (w.drew.alloc o).cell? a = some v := by
  have := (below_alloc (below_drew (Below.refl w.heap.size w)) o).cell (World.block_lt_of_cell? w a h)
  exact this.trans h
/-- The box of the heap: its block holds v, a row that holds xs. -/
structure HB (w : World) (ib : Nat) (v : Value) (xs : List Int) : Prop where
  hb : w.heap[ib]? = some (.cells #[v] 66 (0, 0))
  hr : Kd.R (Kd.int .u64) 53 w 0 (fun _ => True) v xs
theorem HB.cell {w : World} {ib : Nat} {v : Value} {xs : List Int} (h : HB w ib v xs) : w.cell? ⟨ib, 0, none⟩ = some v := blk_cell h.hb 0
theorem HB.drawn {w w1 : World} {ib : Nat} {v : Value} {xs : List Int} (h : HB w ib v xs) (hd : Drawn0 w w1) : HB w1 ib v xs := ⟨blk_below h.hb hd.below, Kd.R_below h.hr hd.below⟩
theorem t66 : ∀ q, q ∈ 53 :: (Kd.int .u64).E → q ≠ 66 := by
  intro q hq
  have : q ∈ [53] := hq
  simp at this
  omega
def Rowed (w : World) (v v' : Value) : Prop := v'.ownBlock = v.ownBlock ∨ ∃ b, v'.ownBlock = some b ∧ w.heap.size ≤ b
def HPost (w : World) (ib : Nat) (v : Value) (ys : List Int) (e : Ending) (w' : World) : Prop :=
  e = .returned (.tuple #[]) ∧ ∃ v', HB w' ib v' ys ∧ Kp w w' (fun k => k = ib ∨ some k = v.ownBlock) ∧ Rowed w v v'
set_option maxHeartbeats 400000 in
theorem less_calls (v : Value) (ib : Nat) (l0 : List Int) (i j : Nat) (w : World) (h : HB w ib v l0) (hi : i < l0.length) (hj : j < l0.length) :
    Calls Try.prog 64 #[v, .int .i64 i, .int .i64 j] w fun e w' => e = .returned (.bool (decide (l0.getD i 0 < l0.getD j 0))) ∧ Drawn0 w w' := by
  obtain ⟨A0, c0, rfl, hc0, hr0⟩ := Kd.R_reads h.hr
  clear h
  obtain ⟨ad, e1, h1⟩ := Kd.at_int hr0 i (by omega) (by omega)
  obtain ⟨ad2, e2, h2⟩ := Kd.at_int hr0 j (by omega) (by omega)
  subst e1
  obtain rfl : ad = ad2 := by injection e2
  have hm := Kd.C_max hr0
  clear hr0 e2
  simp only [rd, Int.toNat_natCast] at h1 h2
  go_enter Try.func64, Try.ntmps64
  go_wp2
  repeat (go_quiet (fail); try go_wp2)
  go_ret
  exact ⟨ret_bool (by simp [List.getD_eq_getElem?_getD, hi, hj]), by repeat (first | exact Drawn0.refl _ | apply Drawn0.step)⟩
set_option maxHeartbeats 400000 in
theorem swap_cells (g n c : Nat) (x y : Int) (i j : Nat) (w : World) (hn : n ≤ 9223372036854775807) (hi : i < n) (hj : j < n) (h1 : w.cell? ⟨g, i, none⟩ = some (.int .u64 x)) (h2 : w.cell? ⟨g, j, none⟩ = some (.int .u64 y)) (f1 : w.frozen? ⟨g, i, none⟩ = false) (f2 : w.frozen? ⟨g, j, none⟩ = false) :
    Calls Try.prog 65 #[.slice (some ⟨g, 0, none⟩) n c, .int .i64 i, .int .i64 j] w fun e w' => e = .returned (.tuple #[]) ∧ w' = ((w.setCell ⟨g, i, none⟩ (.int .u64 y)).setCell ⟨g, j, none⟩ (.int .u64 x)).drew := by
  obtain ⟨z, hz⟩ : ∃ v', (w.setCell ⟨g, i, none⟩ (.int .u64 y)).cell? ⟨g, j, none⟩ = some v' := by
    by_cases e : (⟨g, i, none⟩ : Addr) = ⟨g, j, none⟩
    · rw [← e]; exact ⟨_, World.cell?_setCell_same w _ _ h1⟩
    · exact ⟨_, (World.cell?_setCell_other w _ _ _ e).trans h2⟩
  have fz : (w.setCell ⟨g, i, none⟩ (.int .u64 y)).frozen? ⟨g, j, none⟩ = false := by rw [World.frozen?_setCell]; exact f2
  go_enter Try.func65, Try.ntmps65
  go_wp2
  go_region
  all_goals (go_end0; exact ⟨rfl, rfl⟩)
def SwapPost (w : World) (ib : Nat) (v : Value) (ys : List Int) (e : Ending) (w' : World) : Prop :=
  e = .returned (.tuple #[]) ∧ HB w' ib v ys ∧ Kp w w' (fun k => some k = v.ownBlock)
theorem swap_calls (v : Value) (ib : Nat) (l0 : List Int) (i j : Nat) (w : World) (h : HB w ib v l0) (hi : i < l0.length) (hj : j < l0.length) :
    Calls Try.prog 65 #[v, .int .i64 i, .int .i64 j] w (SwapPost w ib v (sw l0 i j)) := by
  obtain ⟨g, cap, rfl, _, _, _⟩ := Kd.R_form h.hr (by omega)
  have hm : l0.length ≤ 9223372036854775807 := by
    obtain ⟨A0, c0, e, hc0, hr0⟩ := Kd.R_reads h.hr
    exact Kd.C_max hr0
  have h1 := Kd.R_cell 0 h.hr i (by omega) (by omega)
  have h2 := Kd.R_cell 0 h.hr j (by omega) (by omega)
  have hp1 := Kd.R_put h.hr i (rdOf 0 l0 j)
  rw [show l0.length = (l0.set (i : Int).toNat (rdOf 0 l0 j)).length by simp] at hp1
  have hp2 := Kd.R_put hp1.1 j (rdOf 0 l0 i)
  refine (swap_cells g l0.length cap _ _ i j w hm hi hj h1.1 h2.1 h1.2 h2.2).mono ?_
  rintro e w' ⟨rfl, rfl⟩
  have hg : g ≠ ib := by
    rintro rfl
    exact (Kd.R_ne h.hr h.hb (by decide)) rfl
  have e1 : (l0.set (i : Int).toNat (rdOf 0 l0 j)).length = l0.length := by simp
  have e2 : (l0.set (i : Int).toNat (rdOf 0 l0 j)).set (j : Int).toNat (rdOf 0 l0 i) = sw l0 i j := by simp [sw, rdOf]
  have hq := Kd.R_drew hp2.1
  rw [e1, e2] at hq
  have ho : (Value.slice (some ⟨g, 0, none⟩) l0.length cap).ownBlock = some g := rfl
  refine ⟨rfl, ⟨?_, hq⟩, ?_⟩
  · exact blk_far (blk_far h.hb (Ne.symm hg) _) (Ne.symm hg) _
  · have k1 : Kp w (w.setCell ⟨g, i, none⟩ (.int .u64 (rdOf 0 l0 j))) (fun k => some k = (Value.slice (some ⟨g, 0, none⟩) l0.length cap).ownBlock) := (Kp.refl w _).setCell (.inl ho.symm) _
    have k2 := k1.setCell (p := ⟨g, j, none⟩) (.inl ho.symm) (.int .u64 (rdOf 0 l0 i))
    exact k2.drew
theorem t_push (x : Int) : ∀ W : World, (Instr.typeAssert (.iface 53 (.int .u64 x)) 20 53 false).run Try.prog W = .ok (.int .u64 x) W := fun W => by kernel_rfl
set_option maxHeartbeats 400000 in
theorem push_calls (ib : Nat) (v : Value) (xs : List Int) (x : Int) (w : World) (h : HB w ib v xs) (hl : (xs.length + 1) * 8 ≤ 140737488355328) :
    Calls Try.prog 67 #[.pointer (some ⟨ib, 0, none⟩), .iface 53 (.int .u64 x)] w (HPost w ib v (xs ++ [x])) := by
  have hc := h.cell
  have hu := Try.underlying66
  have hta := t_push x
  go_enter Try.func67, Try.ntmps67
  go_wp2
  refine start_ (n := 10) (S := fun w' => w'.cell? ⟨ib, 0, none⟩ = some v) (ds := [9]) #[false, false, false, false, false, false, false, false, false, false] (by kernel_rfl) rfl rfl (hc) (fun hHeld => ?_)
  refine pure_ (i := 0) (N := some 4) (v := ?_) (a' := ?_) #[true, false, false, false, false, false, false, false, false, false] rfl rfl (by kernel_rfl) (fun _ _ _ h => h) (Or.inl ⟨by rfl, ?_⟩) ?_ ?_
  rotate_left
  · intro w'
    go_simp
    with_reducible rfl
  rotate_left
  · simp only [Act.put, List.setIfInBounds_toArray, List.set_cons_zero, List.set_cons_succ, i64_w, i32_w]
    rfl
  refine pure_ (i := 1) (N := some 5) (v := ?_) (a' := ?_) #[true, true, false, false, false, false, false, false, false, false] rfl rfl (by kernel_rfl) (fun _ _ _ h => h) (Or.inl ⟨by rfl, ?_⟩) ?_ ?_
  rotate_left
  · intro w'
    go_simp
    with_reducible rfl
  rotate_left
  · simp only [Act.put, List.setIfInBounds_toArray, List.set_cons_zero, List.set_cons_succ, i64_w, i32_w]
    rfl
  refine pure_ (i := 2) (N := some 6) (v := ?_) (a' := ?_) #[true, true, true, false, false, false, false, false, false, false] rfl rfl (by kernel_rfl) (fun _ _ _ h => h) (Or.inl ⟨by rfl, ?_⟩) ?_ ?_
  rotate_left
  · intro w'
    go_simp
    with_reducible rfl
  rotate_left
  · simp only [Act.put, List.setIfInBounds_toArray, List.set_cons_zero, List.set_cons_succ, i64_w, i32_w]
    rfl
  refine pure_ (i := 4) (N := some 8) (v := ?_) (a' := ?_) #[true, true, true, false, true, false, false, false, false, false] rfl rfl (by kernel_rfl) (fun _ _ _ h => h) (Or.inl ⟨by rfl, ?_⟩) ?_ ?_
  rotate_left
  · intro w'
    go_simp
    with_reducible rfl
  rotate_left
  · simp only [Act.put, List.setIfInBounds_toArray, List.set_cons_zero, List.set_cons_succ, i64_w, i32_w]
    rfl
  refine pure_ (i := 5) (N := some 9) (v := ?_) (a' := ?_) #[true, true, true, false, true, true, false, false, false, false] rfl rfl (by kernel_rfl) (fun _ _ _ h => h) (Or.inl ⟨by rfl, ?_⟩) ?_ ?_
  rotate_left
  · intro w'
    go_simp
    with_reducible rfl
  rotate_left
  · simp only [Act.put, List.setIfInBounds_toArray, List.set_cons_zero, List.set_cons_succ, i64_w, i32_w]
    rfl
  refine take_ (i := 3) (N := some 7) (v := ?_) (a' := ?_) #[true, true, true, true, true, true, false, false, false, false] rfl rfl (by kernel_rfl) (fun _ _ _ h => h) (Or.inl ⟨by rfl, ?_⟩) hHeld ?_ ?_
  rotate_left
  · intro w' s0
    go_simp
    with_reducible rfl
  rotate_left
  · simp only [Act.put, List.setIfInBounds_toArray, List.set_cons_zero, List.set_cons_succ, i64_w, i32_w]
    rfl
  refine one_ (i := 6) (N := some 10) #[true, true, true, true, true, true, true, false, false, false] rfl rfl (by kernel_rfl) (by decide) (fun K hK => ?_)
  refine value_ (w1 := ?_) (v := ?_) (by rfl) rfl ?_ ?_
  rotate_left 2
  · go_simp
    constructor
    · rfl
    · rfl
  refine hK.out _ _ (((show (w.drew.alloc (.cells #[.int .u64 x] 53)).cell? ⟨ib, 0, none⟩ = some v from Below.cell_of hc))) (fun hHeld => ?_)
  clear hK K
  refine norm_ (a' := ?_) ?_ ?_
  rotate_left
  · show Act.put _ (some 10) _ = _
    simp only [Act.put, List.setIfInBounds_toArray, List.set_cons_zero, List.set_cons_succ, i64_w, i32_w]
    rfl
  refine one_ (i := 7) (N := some 11) #[true, true, true, true, true, true, true, true, false, false] rfl rfl (by kernel_rfl) (by decide) (fun K hK => ?_)
  refine Kd.R_append_step (Kd.int .u64) (w0 := w) (W := w.drew) 0 (by rfl) (.tmp 7) (.tmp 10) 66 53 (.int .u64 0) 8 (by rfl) Try.underlying66 info53 rfl (by decide) (by decide) v xs x [.int .u64 x] (fun _ => True) (fun _ => False) rfl rfl rfl (fun _ h => h.elim) (fun _ _ => trivial) (Kd.R_drew h.hr) ((Below.refl 0 w).drew) (Nat.zero_le _) hl ?_
  intro v1 w1 hr1 hb1 hg1 hn1
  obtain ⟨A1, c1, rfl⟩ := Kd.R_slice hr1
  have hb2 := blk_grown (h.hb) (World.grownBy.trans (row := v.ownBlock) (by exact ⟨rfl, rfl, rfl, Nat.le_refl _, fun _ _ _ => rfl⟩) hg1) (Kd.R_ne h.hr h.hb (by decide))
  have hc1 : w1.cell? ⟨ib, 0, none⟩ = some v := (blk_cell hb2 0)
  have hf1 := blk_frozen hb2 0
  refine hK.out _ _ (hc1) (fun hHeld => ?_)
  clear hK K
  refine norm_ (a' := ?_) ?_ ?_
  rotate_left
  · show Act.put _ (some 11) _ = _
    simp only [Act.put, List.setIfInBounds_toArray, List.set_cons_zero, List.set_cons_succ, i64_w, i32_w]
    rfl
  refine pure_ (i := 8) (N := some 12) (v := ?_) (a' := ?_) #[true, true, true, true, true, true, true, true, true, false] rfl rfl (by kernel_rfl) (fun _ _ _ h => h) (Or.inl ⟨by rfl, ?_⟩) ?_ ?_
  rotate_left
  · intro w'
    go_simp
    with_reducible rfl
  rotate_left
  · simp only [Act.put, List.setIfInBounds_toArray, List.set_cons_zero, List.set_cons_succ, i64_w, i32_w]
    rfl
  refine last_ (i := 9) (N := none) #[true, true, true, true, true, true, true, true, true, true] rfl rfl (by kernel_rfl) (by decide) (fun K hK => ?_)
  refine skip_ (w1 := ?_) (by rfl) rfl ?_ ?_
  rotate_left
  · go_simp
    rfl
  refine hK.out _ _ ?_
  clear hK K
  refine done_ (by kernel_rfl) ?_
  go_end0
  have hne : some ib ≠ v.ownBlock := Kd.R_ne h.hr h.hb (by decide)
  have el : (xs ++ [x]).length = xs.length + 1 := by simp
  rw [el] at hr1 hn1
  refine ⟨rfl, _, ⟨blk_put hb2 0 _ rfl, Kd.R_set hr1 hb2 t66 0 _⟩, ?_, ?_⟩
  · exact ((((Kp.refl w _).drew).grown hg1 (fun k hk => .inl (.inr hk.symm))).setCell (.inl (.inl rfl)) _)
  · exact hn1
set_option maxHeartbeats 400000 in
theorem popm_calls (ib : Nat) (v : Value) (xs : List Int) (n : Nat) (w : World) (h : HB w ib v xs) (hn : xs.length = n + 1) :
    Calls Try.prog 66 #[.pointer (some ⟨ib, 0, none⟩)] w fun e w' => e = .returned (.iface 53 (.int .u64 (xs.getD n 0))) ∧ ∃ v', HB w' ib v' (xs.take n) ∧ Kp w w' (fun k => k = ib) ∧ v'.ownBlock = v.ownBlock := by
  obtain ⟨g, cap, rfl, _, _, _⟩ := Kd.R_form h.hr (by omega)
  have hc := h.cell
  have hf := blk_frozen h.hb 0
  have hm : xs.length ≤ 9223372036854775807 := by
    obtain ⟨A0, c0, e, hc0, hr0⟩ := Kd.R_reads h.hr
    exact Kd.C_max hr0
  have h1 := (Kd.R_cell 0 h.hr n (by omega) (by omega)).1
  have hcap := (Kd.R_reads' h.hr).2.1
  have hu := Try.underlying66
  rw [hn] at hc hm hcap
  simp only [Int.toNat_natCast] at h1
  have H := Lib.hid h
  have HN := Lib.hid hn
  clear h hn
  go_enter Try.func66, Try.ntmps66
  go_wp2
  go_ret
  have h := H.out
  have hn := HN.out
  refine ⟨?_, _, ⟨blk_put h.hb 0 _ rfl, ?_⟩, (Kp.refl w (fun k => k = ib)).setCell (p := ⟨ib, 0, none⟩) (.inl rfl) _, rfl⟩
  · simp [rdOf]
  · have hr := Kd.R_set (Kd.R_take (m := n) h.hr (by omega)) h.hb t66 0 (.slice (some ⟨g, 0, none⟩) n cap)
    exact hr
theorem m_push (a : Addr) (w : World) : (method 204 76 (.pointer (some a)) "Push").run Try.prog w = .ok (67, .pointer (some a)) w := by kernel_rfl
theorem m_pop (a : Addr) (w : World) : (method 204 76 (.pointer (some a)) "Pop").run Try.prog w = .ok (66, .pointer (some a)) w := by kernel_rfl
theorem m_load (f : Nat) (a : Addr) (v : Value) (w : World) (hc : w.cell? a = some v) : (Sem.load .plain a fun v => .pure (f, v)).run Try.prog w = .ok (f, v) w := by simp [Sem.run, hc]
theorem m_len (a : Addr) (v : Value) (w : World) (hc : w.cell? a = some v) : (method 204 76 (.pointer (some a)) "Len").run Try.prog w = .ok (63, v) w :=
  (show (method 204 76 (.pointer (some a)) "Len").run Try.prog w = (Sem.load .plain a fun v => .pure (63, v)).run Try.prog w by kernel_rfl).trans (m_load 63 a v w hc)
theorem m_less (a : Addr) (v : Value) (w : World) (hc : w.cell? a = some v) : (method 204 76 (.pointer (some a)) "Less").run Try.prog w = .ok (64, v) w :=
  (show (method 204 76 (.pointer (some a)) "Less").run Try.prog w = (Sem.load .plain a fun v => .pure (64, v)).run Try.prog w by kernel_rfl).trans (m_load 64 a v w hc)
theorem m_swap (a : Addr) (v : Value) (w : World) (hc : w.cell? a = some v) : (method 204 76 (.pointer (some a)) "Swap").run Try.prog w = .ok (65, v) w :=
  (show (method 204 76 (.pointer (some a)) "Swap").run Try.prog w = (Sem.load .plain a fun v => .pure (65, v)).run Try.prog w by kernel_rfl).trans (m_load 65 a v w hc)
theorem less_int (v : Value) (ib : Nat) (l : List Int) (a b : Int) (i j : Nat) (r : Bool) (w : World) (h : HB w ib v l) (ha : a = i) (hb : b = j) (hi : i < l.length) (hj : j < l.length) (hr : decide (l.getD i 0 < l.getD j 0) = r) :
    Calls Try.prog 64 #[v, .int .i64 a, .int .i64 b] w fun e w' => e = .returned (.bool r) ∧ HB w' ib v l ∧ Drawn0 w w' := by
  subst ha hb hr
  refine (less_calls v ib l i j w h hi hj).mono ?_
  rintro e w' ⟨rfl, hd⟩
  exact ⟨rfl, h.drawn hd, hd⟩
theorem swap_int (v : Value) (ib : Nat) (l : List Int) (a b : Int) (i j : Nat) (w : World) (h : HB w ib v l) (ha : a = i) (hb : b = j) (hi : i < l.length) (hj : j < l.length) :
    Calls Try.prog 65 #[v, .int .i64 a, .int .i64 b] w (SwapPost w ib v (sw l i j)) := by
  subst ha hb
  exact swap_calls v ib l i j w h hi hj
def UpPost (w : World) (ib : Nat) (v : Value) (l0 : List Int) (e : Ending) (w' : World) : Prop :=
  e = .returned (.tuple #[]) ∧ ∃ l, HB w' ib v l ∧ l.Perm l0 ∧ IsHeap l ∧ Kp w w' (fun k => some k = v.ownBlock)
def UpRel (w : World) (ib : Nat) (v : Value) (l0 : List Int) (jv : Value) (wr : World) : Prop :=
  ∃ (j : Nat) (l : List Int), jv = .int .i64 j ∧ HB wr ib v l ∧ l.Perm l0 ∧ UpInv l.length (fun k => l.getD k 0) j ∧ Kp w wr (fun k => some k = v.ownBlock)
set_option maxHeartbeats 800000 in
theorem up_calls (ib : Nat) (v : Value) (l0 : List Int) (j0 : Nat) (w : World) (h : HB w ib v l0) (hu : UpInv l0.length (fun k => l0.getD k 0) j0) (hl : l0.length ≤ 1000000000000000) :
    Calls Try.prog 45 #[.iface 76 (.pointer (some ⟨ib, 0, none⟩)), .int .i64 j0] w (UpPost w ib v l0) := by
  go_enter Try.func45, Try.ntmps45
  go_wp2_with fail
  go_loopw [1] (fun jv wr => UpRel w ib v l0 jv wr) (fun jv _ => (intOf jv).toNat)
  case atStart => exact ⟨j0, l0, rfl, h, List.Perm.refl _, hu, Kp.refl w _⟩
  case round =>
    obtain ⟨j, l, rfl, hB, hp, hI, hK⟩ := hrel
    have hlen := hp.length_eq
    have hj := hI.1
    have HP := Lib.hid hp
    have HL := Lib.hid hlen
    have HI := Lib.hid hI
    clear hp hlen hI h hu
    have hl' : l.length ≤ 1000000000000000 := by rw [HL.out]; exact hl
    have ml := m_less ⟨ib, 0, none⟩ v wr hB.cell
    have HBx := Lib.hid hB
    clear hB
    rcases Nat.eq_zero_or_pos j with e | e
    · subst e
      go_wp2_with fail
      go_end0
      have hB := HBx.out
      have hI := HI.out
      exact ⟨rfl, l, hB, HP.out, up_exit hI (.inl rfl), hK⟩
    · obtain ⟨m, rfl⟩ : ∃ m, j = m + 1 := ⟨j - 1, by omega⟩
      by_cases hc : l.getD (m + 1) 0 < l.getD (m / 2) 0
      · have hd : decide (l.getD (m + 1) 0 < l.getD (m / 2) 0) = true := decide_eq_true hc
        have HD := Lib.hid hd
        have HC := Lib.hid hc
        clear hd hc
        go_wp2_with (first | (go_at_call 64; refine (less_int v ib l _ _ (m + 1) (m / 2) true wr HBx.out (by omega) (by omega) hj (by omega) HD.out).mono ?_; rintro e w1 ⟨rfl, hB1, hd1⟩; have ms := m_swap ⟨ib, 0, none⟩ v w1 hB1.cell; have HB1 := Lib.hid hB1; clear hB1) | (go_at_call 65; refine (swap_int v ib l _ _ (m / 2) (m + 1) w1 HB1.out (by omega) (by omega) (by omega) hj).mono ?_; rintro e w2 ⟨rfl, hB2, hk2⟩))
        go_roundw
        case rel =>
          refine ⟨m / 2, sw l (m / 2) (m + 1), rfl, hB2, (sw_perm l _ _ (by omega) hj).trans HP.out, ?_, (hK.drawn hd1).trans hk2 (fun _ h => .inl h)⟩
          have hI := up_step HI.out (by omega) HC.out
          have e2 := swap_of l (m / 2) (m + 1) (by omega) hj
          rw [show (m + 1 - 1) / 2 = m / 2 from rfl] at hI
          rw [← e2] at hI
          rw [sw_length]
          exact hI
        case measure => simp [intOf]; omega
      · have hd : decide (l.getD (m + 1) 0 < l.getD (m / 2) 0) = false := decide_eq_false hc
        have HD := Lib.hid hd
        have HC := Lib.hid hc
        clear hd hc
        go_wp2_with (go_at_call 64; refine (less_int v ib l _ _ (m + 1) (m / 2) false wr HBx.out (by omega) (by omega) hj (by omega) HD.out).mono ?_; rintro e w1 ⟨rfl, hB1, hd1⟩)
        go_end0
        have hc := HC.out
        exact ⟨rfl, l, hB1, HP.out, up_exit HI.out (.inr (by show l.getD (m / 2) 0 ≤ l.getD (m + 1) 0; omega)), hK.drawn hd1⟩
end Go.Proofs.Ytimakagmhikhfaa.Hp
