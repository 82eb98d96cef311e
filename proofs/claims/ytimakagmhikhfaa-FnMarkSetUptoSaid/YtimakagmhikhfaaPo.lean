/- One index is worked off: processOne. -/
import Derived.Test.YtimakagmhikhfaaPx
import Derived.Deep.CutBlock
import Derived.Deep.DeepCutAuto
namespace Go.Proofs.Ytimakagmhikhfaa.Po
open Go.RowKit Go.Proofs.YtimakagmhikhfaaW.PrintWords Go.Proofs.YtimakagmhikhfaaW.PrintLast Go.Proofs.YtimakagmhikhfaaW.PrintMore Go.Proofs.Ytimakagmhikhfaa.Mk Go.Proofs.Ytimakagmhikhfaa.Fr Go.Proofs.Ytimakagmhikhfaa.Hp Go.Proofs.Ytimakagmhikhfaa.Wt Go.Proofs.Ytimakagmhikhfaa.Px
set_option linter.unusedVariables false
set_option linter.unusedSimpArgs false
theorem zero3 (w : World) : (zeroValue 3).run Try.prog w = .ok (.int .i64 0) w := by kernel_rfl
theorem zero51 (w : World) : (zeroValue 51).run Try.prog w = .ok (.slice none 0 0) w := by kernel_rfl
theorem until_calls (wb : Nat) (u : Int) (w : World) (h : w.cell? ⟨wb, 0, none⟩ = some (.int .u64 u)) :
    Calls Try.prog 32 #[.pointer (some ⟨wb, 0, none⟩)] w fun e w' => e = .returned (.int .u64 u) ∧ w = w' := by
  go_enter Try.func32, Try.ntmps32
  go_wp2
  go_ret
  exact ⟨rfl, rfl⟩
def OnePost (w : World) (T : Nat → Prop) (pbx ibx wbx qbx wb pb qb : Nat) (till last : Int) (nm hv0 : Value) (ws : Wl) (pend2 : List (Int × Int)) (till2 : Int) (e : Ending) (w' : World) : Prop :=
  e = .returned (.tuple #[]) ∧ ∃ v hs l es ck, PX w' T pbx ibx wbx qbx wb pb qb v hs l till2 last nm hv0 ws (fun i => decide (i ≤ till2)) es ck ∧ Rep pend2 l hs ∧ Kp w w' T
def Pushed (w : World) (T : Nat → Prop) (pbx ibx wbx qbx wb pb qb : Nat) (till last : Int) (nm hv0 : Value) (ws : Wl) (D : Int → Bool) (es : List Ent) (ck : Nat) (pend l : List (Int × Int)) (i d : Int) (wr : World) : Prop :=
  ∃ v hs, PX wr T pbx ibx wbx qbx wb pb qb v hs l till last nm hv0 ws D es ck ∧ Rep (ins i d pend) (upd i d l) hs ∧ Kp w wr T
theorem ins_length (i d : Int) : ∀ l : List (Int × Int), (ins i d l).length ≤ l.length + 1
  | [] => by simp [ins]
  | (j, c) :: t => by
    have := ins_length i d t
    simp only [ins]
    split
    · simp; omega
    · split <;> simp
theorem orD_le (x : Int) : orD (fun i => decide (i ≤ x - 1)) x = fun i => decide (i ≤ x) := by
  funext i
  simp only [orD]
  rw [Bool.eq_iff_iff]
  simp
  omega
def NoteLoop (w : World) (T : Nat → Prop) (pbx ibx wbx qbx wb pb qb : Nat) (till uF last : Int) (nm hv0 : Value) (ws : Wl) (p : List (Int × Int)) (xv : Value) (wr : World) : Prop :=
  ∃ x v hs l es ck, xv = .int .u64 x ∧ till < x ∧ x ≤ uF + 1 ∧ PX wr T pbx ibx wbx qbx wb pb qb v hs l uF last nm hv0 ws (fun i => decide (i ≤ x - 1)) es ck ∧ Rep p l hs ∧ Kp w wr T
def unseen (es : List Ent) (seen : Array Nat) : Nat := (es.filter fun x => !seen.contains x.2.2).length
theorem unseen_drop (k : Int) (es : List Ent) (seen : Array Nat) : unseen (drop_ k es) seen ≤ unseen es seen := ((drop_sub k es).filter _).length_le
theorem unseen_push {x : Ent} {seen : Array Nat} (hn : x.2.2 ∉ seen) : ∀ {es : List Ent}, x ∈ es → unseen es (seen.push x.2.2) < unseen es seen
  | [], h => by cases h
  | y :: t, h => by
    have hle : ∀ l : List Ent, unseen l (seen.push x.2.2) ≤ unseen l seen := by
      intro l
      induction l with
      | nil => exact Nat.le_refl _
      | cons z u ih =>
        simp only [unseen, List.filter_cons] at ih ⊢
        by_cases h1 : z.2.2 ∈ seen
        · simp [h1]; simpa using ih
        · by_cases h2 : z.2.2 = x.2.2
          · simp [h1, h2, hn]; simpa using Nat.le_succ_of_le ih
          · simp [h1, h2]; simpa using ih
    have hh := hle t
    simp only [unseen, List.filter_cons] at hh ⊢
    rcases List.mem_cons.1 h with h | h
    · subst h
      simp [hn]
      simpa using Nat.lt_succ_of_le hh
    · have ih := unseen_push hn h
      simp only [unseen] at ih
      by_cases h1 : y.2.2 ∈ seen
      · simp [h1]; simpa using ih
      · by_cases h2 : y.2.2 = x.2.2
        · simp [h1, h2, hn]; simpa using Nat.lt_succ_of_lt ih
        · simp [h1, h2]; simpa using ih
theorem look_at {x : Ent} : ∀ {es : List Ent}, es.Pairwise (fun a b => a.1 ≠ b.1) → x ∈ es → lookE x.1 es = some x.2.1
  | [], _, h => by cases h
  | y :: t, ho, h => by
    have ⟨o1, o2⟩ := List.pairwise_cons.1 ho
    simp only [lookE]
    rcases List.mem_cons.1 h with h | h
    · subst h; simp
    · rw [if_neg (o1 x h)]; exact look_at o2 h
theorem born_eq {x y : Ent} : ∀ {es : List Ent}, es.Pairwise (fun a b => a.2.2 < b.2.2) → x ∈ es → y ∈ es → x.2.2 = y.2.2 → x = y
  | [], _, h, _, _ => by cases h
  | z :: t, ho, hx, hy, e => by
    have ⟨o1, o2⟩ := List.pairwise_cons.1 ho
    rcases List.mem_cons.1 hx with hx | hx
    · rcases List.mem_cons.1 hy with hy | hy
      · rw [hx, hy]
      · have := o1 y hy; rw [hx] at e; omega
    · rcases List.mem_cons.1 hy with hy | hy
      · have := o1 x hx; rw [hy] at e; omega
      · exact born_eq o2 hx hy e
def RangeRel (w : World) (T : Nat → Prop) (pbx ibx wbx qbx wb pb qb : Nat) (uF last : Int) (nm hv0 : Value) (ws : Wl) (p : List (Int × Int)) (ck r : Nat) (k : Nat) (wr : World) : Prop :=
  ∃ D seen v hs l es, PX wr T pbx ibx wbx qbx wb pb qb v hs l uF last nm hv0 ws D es ck ∧ Rep p l hs ∧ Kp w wr T ∧ wr.heap[r]? = some (.mapIter (some qb) ck seen ck) ∧ (∀ i, D i = true → i ≤ uF) ∧ (∀ x ∈ es, x.2.2 ∈ seen → uF < x.1) ∧ k = unseen es seen
def Popped (w : World) (T : Nat → Prop) (pbx ibx wbx qbx wb pb qb : Nat) (till last : Int) (nm hv0 : Value) (ws : Wl) (D : Int → Bool) (es : List Ent) (ck : Nat) (p : List (Int × Int)) (wr : World) : Prop :=
  ∃ v hs l, PX wr T pbx ibx wbx qbx wb pb qb v hs l till last nm hv0 ws D es ck ∧ Rep p l hs ∧ Kp w wr T
def PopRel (w : World) (T : Nat → Prop) (pbx ibx wbx qbx wb pb qb : Nat) (till last : Int) (nm hv0 : Value) (ws : Wl) (D : Int → Bool) (es : List Ent) (ck : Nat) (N : Int) (fin : Int × List (Int × Int)) (k : Nat) (uv : Value) (wr : World) : Prop :=
  ∃ u p v hs l, uv = .int .u64 u ∧ k = p.length ∧ p.length ≤ 2000000000001 ∧ PX wr T pbx ibx wbx qbx wb pb qb v hs l till last nm hv0 ws D es ck ∧ Rep p l hs ∧ Fine u p N ∧ popz u p = fin ∧ Kp w wr T
set_option maxHeartbeats 4000000 in
set_option maxRecDepth 100000 in
theorem one_calls (w : World) (T : Nat → Prop) (pbx ibx wbx qbx wb pb qb : Nat) (v : Value) (hs : List Int) (l pend : List (Int × Int)) (till last : Int) (nm hv0 : Value) (ws : Wl) (es : List Ent) (ck : Nat) (i : Int) (dn : Bool) (N : Int)
    (h : PX w T pbx ibx wbx qbx wb pb qb v hs l till last nm hv0 ws (fun i => decide (i ≤ till)) es ck) (hr : Rep pend l hs) (hf : Fine till pend N) (hf2 : Fine till (ins i (if dn then -1 else 1) pend) N) (hi : till < i) (him : i ≤ most) (hN : N ≤ 4611686018427387904) (hlen : hs.length ≤ 2000000000000)
    (tw : T wb) (tp : T pb) (ti : T ibx) (n1 : ¬ T pbx) (n2 : ¬ T wbx) (n3 : ¬ T qbx) :
    Calls Try.prog 40 #[.int .u64 i, .bool dn, .pointer (some ⟨pbx, 0, none⟩), .pointer (some ⟨ibx, 0, none⟩), .pointer (some ⟨wbx, 0, none⟩), .pointer (some ⟨qbx, 0, none⟩)] w
      (OnePost w T pbx ibx wbx qbx wb pb qb till last nm hv0 ws (popz till (ins i (if dn then -1 else 1) pend)).2 (popz till (ins i (if dn then -1 else 1) pend)).1) := by
  obtain ⟨pes, pck, hpb, hpm⟩ := h.pm
  have c1 := blk_cell h.b1 0
  have hlk := hpm.look (i := i)
  have HX := Lib.hid h
  have HR := Lib.hid hr
  have HF := Lib.hid hf
  have HF2 := Lib.hid hf2
  have HPB := Lib.hid hpb
  have HPM := Lib.hid hpm
  have HLK := Lib.hid hlk
  clear h hr hf hf2 hpb hpm hlk
  obtain ⟨c0, hc0⟩ : ∃ c0, (cnt i l).getD 0 = c0 := ⟨_, rfl⟩
  obtain ⟨pr, hpr⟩ : ∃ pr, (cnt i l).isSome = pr := ⟨_, rfl⟩
  obtain ⟨d, hd⟩ : ∃ d : Int, (if dn then (-1 : Int) else 1) = d := ⟨_, rfl⟩
  rw [hd] at HF2 ⊢
  have hd1 : -1 ≤ d ∧ d ≤ 1 := by rw [← hd]; split <;> omega
  have ho : KeysOnce l := Rep.once (u := 0) (N := 0) HR.out HF.out.asc
  have hcb : 0 ≤ c0 ∧ c0 ≤ 4611686018427387904 := by
    cases hc : cnt i l with
    | none => rw [hc] at hc0; simp at hc0; omega
    | some c =>
      rw [hc] at hc0; simp at hc0
      have := HF.out.above (i, c) (HR.out.pl.mem_iff.1 (cnt_some hc))
      simp only [] at this
      omega
  obtain ⟨hd1, hd2⟩ := hd1
  obtain ⟨hcb1, hcb2⟩ := hcb
  have e1 : (lookE i pes).getD (.int .i64 0) = .int .i64 c0 := by rw [HLK.out, ← hc0]; cases cnt i l <;> rfl
  have e2 : (lookE i pes).isSome = pr := by rw [HLK.out, ← hpr]; cases cnt i l <;> rfl
  have E1 := Lib.hid e1
  have E2 := Lib.hid e2
  have HC0 := Lib.hid hc0
  have HPR := Lib.hid hpr
  have HDD := Lib.hid hd
  have HO := Lib.hid ho
  clear e1 e2 hc0 hpr hd ho
  go_enter Try.func40, Try.ntmps40
  go_upto_if 29 with (at_lookup; refine wpL_look_ok _ rfl _ _ rfl (.int .i64 0) Try.underlying64 Try.underlying53 (zero3 _) rfl rfl HPB.out ?_; rw [E1.out, E2.out])
  go_cut [] (fun wr => Pushed w T pbx ibx wbx qbx wb pb qb till last nm hv0 ws (fun i => decide (i ≤ till)) es ck pend l i d wr)
  case first =>
    cases pr with
    | true =>
      go_wp2_with fail
      go_meet
      case rel =>
        obtain ⟨c, hc⟩ := Option.isSome_iff_exists.1 HPR.out
        exact ⟨v, hs, HX.out, HR.out.again HF.out.asc hc, Kp.refl w T⟩
    | false =>
      go_wp2_with fail
      refine (push_top ibx v hs i w HX.out.hb HR.out.hp (by omega)).mono ?_
      rintro e w1 ⟨rfl, v1, ys, hB, hp, hh, hk, hR⟩
      go_wp2_with fail
      go_meet
      case rel =>
        have hc : cnt i l = none := by simpa using HPR.out
        exact ⟨v1, ys, HX.out.heap hk hB hR, HR.out.push HF.out.asc hc hp hh, hk.mono (fun k hk => by rcases hk with hk | hk; (rw [hk]; exact ti); (exact HX.out.tv k hk.symm))⟩
  case rest =>
    obtain ⟨v1, hs1, hX1, hR1, hK1⟩ := hcut
    obtain ⟨w1, hw1⟩ : ∃ x : World, x = wc := ⟨_, rfl⟩
    subst hw1
    have HX1 := Lib.hid hX1
    have HR1 := Lib.hid hR1
    clear hX1 hR1
    go_upto_if 34 with (fail)
    go_cut [10] (fun s wr => s = .int .i64 d ∧ w1 = wr)
    case first =>
      have hdd := HDD.out
      cases dn
      all_goals
        simp at hdd
        subst hdd
        go_wp2_with fail
        go_meet
        case rel => exact ⟨rfl, rfl⟩
    case rest =>
      obtain ⟨rfl, rfl⟩ := hcut
      obtain ⟨pes1, pck1, hpb1, hpm1⟩ := HX1.out.pm
      have cb1 := blk_cell HX1.out.b1 0
      have hX2 : PX _ T pbx ibx wbx qbx wb pb qb v1 hs1 (upd i d l) till last nm hv0 ws (fun i => decide (i ≤ till)) es ck := HX1.out.pend (pck2 := clockE i pck1 pes1) (hpm1.stored (i := i) (d := d) (ck := pck1) HO.out)
      rw [HC0.out] at hX2
      have HPB1 := Lib.hid hpb1
      have HPM1 := Lib.hid hpm1
      have cb2 := blk_cell hX2.b2 0
      have cw := blk_cell hX2.hw 0
      have HX2 := Lib.hid hX2
      clear hpb1 hpm1 hX2
      go_upto_block 0 with (first | (at_mapUpdate; refine wpL_store _ rfl _ _ _ rfl (.int .i64 (c0 + d)) Try.underlying64 Try.underlying53 rfl rfl rfl HPB1.out ?_) | (go_at_call 32; refine (until_calls wb till _ cw).mono ?_; rintro e w2 ⟨rfl, rfl⟩))
      go_cut [12] (fun uv wr => uv = .int .u64 (popz till (ins i d pend)).1 ∧ Popped w T pbx ibx wbx qbx wb pb qb till last nm hv0 ws (fun i => decide (i ≤ till)) es ck (popz till (ins i d pend)).2 wr)
      case first =>
        have hstart : PopRel w T pbx ibx wbx qbx wb pb qb till last nm hv0 ws (fun i => decide (i ≤ till)) es ck N (popz till (ins i d pend)) (ins i d pend).length (.int .u64 till) (setO w1 pb (Obj.map (rawM IntKind.u64 (storedE i (Value.int IntKind.i64 (c0 + d)) pck1 pes1)) (clockE i pck1 pes1))) :=
          ⟨till, _, v1, hs1, _, rfl, rfl, by have := ins_length i d pend; have := HR.out.ph.length_eq; simp at this; omega, HX2.out, HR1.out, HF2.out, rfl, hK1.setO (.inl tp) _⟩
        have HS := Lib.hid hstart
        clear hstart
        go_wp2_with fail
        go_loopg [12, 13] (ins i d pend).length (fun k uv lv wr => (∃ y : Int, lv = .int .i64 y) ∧ PopRel w T pbx ibx wbx qbx wb pb qb till last nm hv0 ws (fun i => decide (i ≤ till)) es ck N (popz till (ins i d pend)) k uv wr)
        case atStart => exact ⟨⟨0, rfl⟩, HS.out⟩
        case round =>
          obtain ⟨⟨y, rfl⟩, u, p, v2, hs2, l2, rfl, hk, hpl, hX, hR, hF, hfin, hKp⟩ := hrel
          clear HS HX2 HPB1 HPM1 HR1 hK1 HX HR HF HPB HPM HLK cb1 cb2 cw
          obtain ⟨A2, cap2, hv2, hcap2, hC2⟩ := Kd.R_reads hX.hb.hr
          have hm2 := Kd.C_max hC2
          clear hC2
          subst hv2
          have ci := hX.hb.cell
          have cb := blk_cell hX.b1 0
          cases p with
          | nil =>
            obtain ⟨rfl, rfl⟩ := hR.nil_
            have HX := Lib.hid hX
            have HR := Lib.hid hR
            have HFN := Lib.hid hfin
            have HK := Lib.hid hk
            clear hX hR hfin hF hk
            go_wp2_with fail
            go_meet
            case rel =>
              have e := HFN.out
              simp only [popz] at e
              rw [← e]
              exact ⟨rfl, _, _, _, HX.out, HR.out, hKp⟩
          | cons jc t =>
            obtain ⟨j, c⟩ := jc
            obtain ⟨hj, hln, hcn⟩ := hR.head hF.asc
            obtain ⟨g, cap, hvf, _, _, _⟩ := Kd.R_form hX.hb.hr (by omega)
            injection hvf with hA _ hcc
            subst hA hcc
            have c0x := (Kd.R_cell 0 hX.hb.hr 0 (by omega) (by omega)).1
            have e0 : rdOf 0 hs2 0 = j := by rw [← hj]; simp [rdOf]
            rw [e0] at c0x
            simp only [Int.toNat_zero] at c0x
            obtain ⟨pes2, pck2, hpb2, hpm2⟩ := hX.pm
            have hl2 := hpm2.look (i := j)
            rw [hcn] at hl2
            have hcr := hF.above (j, c) List.mem_cons_self
            simp only [] at hcr
            obtain ⟨hj1, hj2, hcr1, hcr2⟩ := hcr
            have HL2 := Lib.hid hl2
            have HPB2 := Lib.hid hpb2
            have HPM2 := Lib.hid hpm2
            have HX := Lib.hid hX
            have HR := Lib.hid hR
            have HF := Lib.hid hF
            have HFN := Lib.hid hfin
            have HK := Lib.hid hk
            have HJ := Lib.hid hj
            have HLN := Lib.hid hln
            have hpos : 0 < hs2.length := by omega
            clear hl2 hpb2 hpm2 hX hR hF hfin hk hj hln e0 hcn
            by_cases hc : 0 < c
            · go_wp2_with (at_lookup; refine wpL_look _ rfl _ _ rfl (.int .i64 0) Try.underlying64 Try.underlying53 (zero3 _) rfl rfl HPB2.out ?_; rw [HL2.out]; simp only [Option.map_some, Option.getD_some])
              go_meet
              case rel =>
                have e := HFN.out
                simp only [popz] at e
                rw [if_neg (by omega)] at e
                rw [← e]
                exact ⟨rfl, _, _, _, HX.out, HR.out, hKp⟩
            · go_wp2_with (at_lookup; refine wpL_look _ rfl _ _ rfl (.int .i64 0) Try.underlying64 Try.underlying53 (zero3 _) rfl rfl HPB2.out ?_; rw [HL2.out]; simp only [Option.map_some, Option.getD_some])
              refine (pop_top ibx _ hs2 t.length wr HX.out.hb HR.out.hp (by rw [HLN.out]) (by rw [HLN.out]; simp at hpl; omega)).mono ?_
              rintro e w3 ⟨r, rfl, v3, ys, hB3, hp3, hh3, hk3, hR3⟩
              have hX3 := HX.out.heap hk3 hB3 hR3
              obtain ⟨pes3, pck3, hpb3, hpm3⟩ := hX3.pm
              have cb3 := blk_cell hX3.b1 0
              have ht := HR.out.pop HF.out.asc hp3 hh3
              have hX4 := hX3.pend (pck2 := pck3) (hpm3.drop (i := j) (Rep.once (u := 0) (N := 0) HR.out HF.out.asc))
              have HX3 := Lib.hid hX3
              have HX4 := Lib.hid hX4
              have HT := Lib.hid ht
              have HPB3 := Lib.hid hpb3
              clear hX3 hX4 ht hpb3 hpm3 hB3 hp3 hh3 hR3
              go_wp2_with (at_delete; refine wpL_drop _ rfl _ _ rfl Try.underlying64 Try.underlying53 rfl rfl HPB3.out ?_)
              go_roundg t.length
              case measure => have := HK.out; simp at this; omega
              case rel =>
                have e := HFN.out
                simp only [popz] at e
                rw [if_pos (by omega)] at e
                refine ⟨⟨_, rfl⟩, j, t, v3, ys, _, rfl, rfl, by simp at hpl; omega, HX4.out, HT.out, HF.out.tail, e, ?_⟩
                have k1 := hKp.trans (S2 := fun k => k = ibx ∨ some k = (Value.slice (some ⟨g, 0, none⟩) hs2.length cap2).ownBlock) hk3 (fun k hk => ?_)
                · exact k1.setO (.inl tp) _
                · rcases hk with hk | hk
                  · rw [hk]; exact .inl ti
                  · exact .inl (HX.out.tv k hk.symm)
      case rest =>
        obtain ⟨rfl, v3, hs3, l3, hX3, hR3, hK3⟩ := hcut
        have hpf := popz_fine HF2.out
        obtain ⟨uF, huF⟩ : ∃ u, (popz till (ins i d pend)).1 = u := ⟨_, rfl⟩
        obtain ⟨pF, hpF⟩ : ∃ u, (popz till (ins i d pend)).2 = u := ⟨_, rfl⟩
        rw [huF, hpF] at hpf
        rw [huF]
        rw [hpF] at hR3
        have HUF := Lib.hid huF
        have HPF := Lib.hid hpF
        obtain ⟨hpf1, _, hpf3⟩ := hpf
        have huhi := hpf1.hi
        have htlo := HF.out.lo
        simp only [most] at huhi
        have HX3 := Lib.hid hX3
        have HR3 := Lib.hid hR3
        clear hX3 hR3 hpf1 huF hpF HX2 HPB1 HPM1 HR1 hK1 HX HR HF HPB HPM HLK cb1 cb2 cw HX1 HF2 hlen c1
        have cb2 := blk_cell HX3.out.b2 0
        have cw := blk_cell HX3.out.hw 0
        have fw := blk_frozen HX3.out.hw 0
        go_upto_if 67 with (fail)
        go_cut [] (fun wr => Popped w T pbx ibx wbx qbx wb pb qb uF last nm hv0 ws (fun i => decide (i ≤ till)) es ck pF wr)
        case first =>
          by_cases e : uF = till
          · have e1 : (uF != till) = false := by simp [e]
            have E1 := Lib.hid e
            clear e
            go_wp2_with fail
            go_meet
            case rel =>
              have e := E1.out
              have h := HX3.out
              rw [← e] at h
              exact ⟨v3, hs3, l3, by rw [e]; exact HX3.out, HR3.out, hK3⟩
          · have e1 : (uF != till) = true := by simp [e]
            go_wp2_with fail
            go_meet
            case rel => exact ⟨v3, hs3, l3, HX3.out.setTill uF, HR3.out, hK3.setCell (.inl tw) _⟩
        case rest =>
          obtain ⟨v4, hs4, l4, hX4, hR4, hK4⟩ := hcut
          clear HX3 HR3 hK3 cb2 cw fw
          have cb3 := blk_cell hX4.b3 0
          have hqb := hX4.wr.en.blk
          have HQB := Lib.hid hqb
          have HX4 := Lib.hid hX4
          have HR4 := Lib.hid hR4
          clear hqb hX4 hR4
          have n3s : ¬ SW qb ws qbx := by
            rintro (e | ⟨p, hp, e⟩)
            · exact n3 (by rw [e]; exact HX4.out.wr.tq)
            · exact n3 (by rw [← e]; exact HX4.out.wr.tw p hp)
          have hST : ∀ k, SW qb ws k → T k := by
            rintro k (e | ⟨p, hp, e⟩)
            · rw [e]; exact HX4.out.wr.tq
            · rw [← e]; exact HX4.out.wr.tw p hp
          have HST := Lib.hid hST
          clear hST
          by_cases hcmp : uF - till ≤ IntKind.u64.wrap (es.length : Int)
          · have hcd : decide (uF - till ≤ IntKind.u64.wrap (es.length : Int)) = true := decide_eq_true hcmp
            clear hcmp
            go_wp2_with (at_len; refine wpL_len _ rfl _ rfl Try.underlying65 rfl HQB.out ?_)
            go_loopw [17] (fun xv wr => NoteLoop w T pbx ibx wbx qbx wb pb qb till uF last nm hv0 ws pF xv wr) (fun xv _ => (uF + 1 - intOf xv).toNat)
            case atStart =>
              refine ⟨till + 1, v4, hs4, l4, es, ck, rfl, by omega, by omega, ?_, HR4.out, hK4⟩
              rw [show till + 1 - 1 = till by omega]
              exact HX4.out
            case round =>
              obtain ⟨x, v5, hs5, l5, es5, ck5, rfl, hx1, hx2, hX5, hR5, hK5⟩ := hrel
              have cb5 := blk_cell hX5.b3 0
              have hb5 := hX5.b3
              have HQ5 := Lib.hid hX5.wr.en.blk
              have HX5 := Lib.hid hX5
              have HR5 := Lib.hid hR5
              have HB5 := Lib.hid hb5
              clear hX5 hR5 hb5 HX4 HR4 hK4 HQB cb3
              by_cases c1 : x ≤ uF
              · cases hlk : lookE x es5 with
                | none =>
                  have HL := Lib.hid hlk
                  clear hlk
                  go_wp2_with (at_lookup; refine wpL_look_ok _ rfl _ _ rfl (.slice none 0 0) Try.underlying65 Try.underlying53 (zero51 _) rfl rfl HQ5.out ?_; rw [HL.out]; simp only [Option.getD_none, Option.isSome_none])
                  go_roundw
                  case rel =>
                    refine ⟨x + 1, v5, hs5, l5, es5, ck5, rfl, by omega, by omega, ?_, HR5.out, hK5⟩
                    have h := WRskip HX5.out.wr HL.out
                    rw [orD_le] at h
                    rw [show x + 1 - 1 = x by omega]
                    exact HX5.out.note (Kp.refl _ _) h
                  case measure => simp [intOf]; omega
                | some vv =>
                  have HL := Lib.hid hlk
                  clear hlk
                  go_wp2_with (at_lookup; refine wpL_look_ok _ rfl _ _ rfl (.slice none 0 0) Try.underlying65 Try.underlying53 (zero51 _) rfl rfl HQ5.out ?_; rw [HL.out]; simp only [Option.getD_some, Option.isSome_some])
                  refine (note_calls T qb qbx ws _ es5 ck5 x vv wr HX5.out.wr HL.out HB5.out n3s).mono ?_
                  rintro e w6 ⟨rfl, hW6, hK6⟩
                  go_wp2_with fail
                  go_roundw
                  case rel =>
                    refine ⟨x + 1, v5, hs5, l5, drop_ x es5, ck5, rfl, by omega, by omega, ?_, HR5.out, hK5.trans hK6 (fun k hk => .inl (HST.out k hk))⟩
                    rw [orD_le] at hW6
                    rw [show x + 1 - 1 = x by omega]
                    exact HX5.out.note hK6 hW6
                  case measure => simp [intOf]; omega
              · go_wp2_with fail
                go_end0
                have e : x = uF + 1 := by omega
                have h := HX5.out
                rw [e, show uF + 1 - 1 = uF by omega] at h
                rw [HUF.out, HPF.out]
                exact ⟨rfl, v5, hs5, l5, es5, ck5, h, HR5.out, hK5⟩
          · have hcd : decide (uF - till ≤ IntKind.u64.wrap (es.length : Int)) = false := decide_eq_false hcmp
            clear hcmp
            go_wp2_with (first | (at_len; refine wpL_len _ rfl _ rfl Try.underlying65 rfl HQB.out ?_) | (at_range; refine wpL_range _ rfl _ rfl Try.underlying65 rfl HQB.out ?_; go_frame))
            have hX5 : PX (wc.alloc (Obj.mapIter (some qb) ck #[] ck)) T pbx ibx wbx qbx wb pb qb v4 hs4 l4 uF last nm hv0 ws (fun i => decide (i ≤ till)) es ck :=
              HX4.out.keep ((Kp.refl wc (fun _ => False)).alloc _) (Only.none wc [] (fun _ => False)) (by simp) (by simp) (by simp)
            have hstart : RangeRel w T pbx ibx wbx qbx wb pb qb uF last nm hv0 ws pF ck wc.heap.size (unseen es #[]) (wc.alloc (Obj.mapIter (some qb) ck #[] ck)) :=
              ⟨_, #[], v4, hs4, l4, es, hX5, HR4.out, hK4.alloc _, blk_new wc _, fun i hi => Int.le_trans (of_decide_eq_true hi) hpf3, fun x _ hx => by simp at hx, rfl⟩
            have HS := Lib.hid hstart
            have hrs : w.heap.size ≤ wc.heap.size := hK4.size
            clear hX5 hstart HX4 HR4 hK4 HQB cb3
            obtain ⟨r, hrr⟩ : ∃ r, wc.heap.size = r := ⟨_, rfl⟩
            rw [hrr] at HS hrs ⊢
            clear hrr
            go_loopg [20] (unseen es #[]) (fun k _ wr => RangeRel w T pbx ibx wbx qbx wb pb qb uF last nm hv0 ws pF ck r k wr)
            case atStart => exact HS.out
            case round =>
              obtain ⟨D, seen, v5, hs5, l5, es5, hX5, hR5, hK5, hit, hD, hsn, hk⟩ := hrel
              have hw5 := hX5.wr
              have hrq : r ≠ qb := by
                rintro rfl
                have := hw5.en.blk
                rw [hit] at this
                cases this
              have hb5 := hX5.b3
              have hon : Only wr (fun k => k = r) [] (fun _ => False) := fun k hk => by subst hk; exact .inr (.inr ⟨_, _, _, _, hit⟩)
              have HX5 := Lib.hid hX5
              have HR5 := Lib.hid hR5
              have HB5 := Lib.hid hb5
              have HIT := Lib.hid hit
              have HD := Lib.hid hD
              have HSN := Lib.hid hsn
              have HK := Lib.hid hk
              have HW5 := Lib.hid hw5
              have HON := Lib.hid hon
              have hrqb := hrq
              clear hX5 hR5 hb5 hit hD hsn hk hw5 hon HS
              go_wp2_with (at_next; refine wpL_next _ rfl _ rfl ck seen rfl HIT.out HW5.out.en.blk hrqb HW5.out.en.clock (Nat.le_refl _) HW5.out.en.born (fun hdone => ?_) (fun x hx hns w6 hw6 hen => ?_))
              · go_end0
                have hW := WRcongr (D2 := fun i => decide (i ≤ uF)) HW5.out (fun p hp => by
                  cases hdp : D p.1 with
                  | true => exact (decide_eq_true (HD.out _ hdp)).symm
                  | false =>
                    obtain ⟨x, hx, e⟩ := HW5.out.en.cover p hp hdp
                    have := HSN.out x hx (hdone x hx)
                    exact (decide_eq_false (by omega)).symm)
                rw [HUF.out, HPF.out]
                exact ⟨rfl, v5, hs5, l5, es5, ck, HX5.out.note (Kp.refl _ _) hW, HR5.out, hK5⟩
              · have hxu : x.1 ≤ uF := by assumption
                have k1 : Kp wr (setO w6 r (Obj.mapIter (some qb) ck (seen.push x.2.2) ck)) (fun k => k = r) := by
                  rcases hw6 with rfl | rfl
                  · exact (Kp.refl _ (fun k => k = r)).setO (r := r) (.inl rfl) _
                  · exact ((Kp.refl wr (fun k => k = r)).drew).setO (r := r) (.inl rfl) _
                have hX6 := HX5.out.keep k1 HON.out (by simp) (by simp) (by simp)
                have hlk := look_at HW5.out.en.once hx
                have hi6 : (setO w6 r (Obj.mapIter (some qb) ck (seen.push x.2.2) ck)).heap[r]? = some (.mapIter (some qb) ck (seen.push x.2.2) ck) := by
                  rcases hw6 with rfl | rfl
                  · exact setO_same HIT.out
                  · exact setO_same (w := wr.drew) HIT.out
                refine (note_calls T qb qbx ws D es5 ck x.1 x.2.1 _ hX6.wr hlk hX6.b3 n3s).mono ?_
                rintro e w7 ⟨rfl, hW7, hK7⟩
                have HX6 := Lib.hid hX6
                have HI6 := Lib.hid hi6
                have HW7 := Lib.hid hW7
                have HLK := Lib.hid hlk
                clear hX6 hi6 hW7 hlk hen
                go_wp2_with fail
                go_roundg (unseen (drop_ x.1 es5) (seen.push x.2.2))
                case measure =>
                  have h1 := unseen_drop x.1 es5 (seen.push x.2.2)
                  have h2 := unseen_push hns hx
                  have := HK.out
                  omega
                case rel =>
                  refine ⟨_, seen.push x.2.2, v5, hs5, l5, _, HX6.out.note hK7 HW7.out, HR5.out, (hK5.trans k1 (fun k hk => .inr (by rw [hk]; exact hrs))).trans hK7 (fun k hk => .inl (HST.out k hk)), hK7.blk HI6.out ?_, ?_, ?_, rfl⟩
                  · rintro (e | ⟨p, hp, e⟩)
                    · exact hrqb e
                    · have := HW5.out.fl p hp
                      rw [e, HIT.out] at this
                      cases this
                  · intro i hi
                    simp only [orD, Bool.or_eq_true, beq_iff_eq] at hi
                    rcases hi with hi | hi
                    · exact HD.out i hi
                    · rw [hi]; exact hxu
                  · intro y hy hm
                    have ⟨hy1, hy2⟩ := (mem_drop HW5.out.en.once).1 hy
                    rcases Array.mem_push.1 hm with hm | hm
                    · exact HSN.out y hy1 hm
                    · exact absurd (by rw [born_eq HW5.out.en.born hy1 hx hm]) hy2
              · have hxu : uF < x.1 := by assumption
                have k1 : Kp wr (setO w6 r (Obj.mapIter (some qb) ck (seen.push x.2.2) ck)) (fun k => k = r) := by
                  rcases hw6 with rfl | rfl
                  · exact (Kp.refl _ (fun k => k = r)).setO (r := r) (.inl rfl) _
                  · exact ((Kp.refl wr (fun k => k = r)).drew).setO (r := r) (.inl rfl) _
                have hX6 := HX5.out.keep k1 HON.out (by simp) (by simp) (by simp)
                have hi6 : (setO w6 r (Obj.mapIter (some qb) ck (seen.push x.2.2) ck)).heap[r]? = some (.mapIter (some qb) ck (seen.push x.2.2) ck) := by
                  rcases hw6 with rfl | rfl
                  · exact setO_same HIT.out
                  · exact setO_same (w := wr.drew) HIT.out
                clear hen
                go_roundg (unseen es5 (seen.push x.2.2))
                case measure =>
                  have h2 := unseen_push hns hx
                  have := HK.out
                  omega
                case rel =>
                  refine ⟨D, seen.push x.2.2, v5, hs5, l5, es5, hX6, HR5.out, hK5.trans k1 (fun k hk => .inr (by rw [hk]; exact hrs)), hi6, HD.out, ?_, rfl⟩
                  · intro y hy hm
                    rcases Array.mem_push.1 hm with hm | hm
                    · exact HSN.out y hy hm
                    · rw [born_eq HW5.out.en.born hy hx hm]; exact hxu
end Go.Proofs.Ytimakagmhikhfaa.Po
