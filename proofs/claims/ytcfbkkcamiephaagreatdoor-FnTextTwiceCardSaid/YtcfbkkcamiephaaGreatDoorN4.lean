import Derived.Test.YtcfbkkcamiephaaGreatDoorN3
import Derived.Test.YtcfbkkcamiephaaGreatDoorE6
import Derived.Test.YtcfbkkcamiephaaGreatDoorT5
import Derived.Deep.CutBlock
namespace Go.Proofs.YtcfbkkcamiephaaGreatDoor
open Go.RowKit

/-! ### spec.ParseOption -/
theorem IntsV0.setRowY {w : World} {v : Value} {xs : List Int} {B : Nat} (h : IntsV0 w v xs) (hr : RowAt w B 26 ruleZ0.toList) (c : Array Value) : IntsV0 (w.setRow B c) v xs := by
  rcases h with h | ⟨g, cap, h1, h2, h3⟩
  · exact .inl h
  · refine .inr ⟨g, cap, h1, h2, by rw [setRow_size]; exact h3.lt, fun i x hx => ?_⟩
    have hg : g ≠ B := by
      rintro rfl
      have h0 : 0 < xs.length := Nat.lt_of_le_of_lt (Nat.zero_le i) (List.getElem?_eq_some_iff.1 hx).1
      have e1 := h3.cell 0 xs[0] (by simp [h0])
      have e2 := hr.cell 0 (v := .int .u8 0) rfl
      rw [e1] at e2; simp at e2
    exact (cell_setRow_other w B c _ hg).trans (h3.cell i x hx)
theorem DaysV0.setRowY {w : World} {v : Value} {xs : List (Int × Int)} {B : Nat} (h : DaysV0 w v xs) (hr : RowAt w B 26 ruleZ0.toList) (c : Array Value) : DaysV0 (w.setRow B c) v xs := by
  rcases h with h | ⟨g, cap, h1, h2, h3⟩
  · exact .inl h
  · refine .inr ⟨g, cap, h1, h2, by rw [setRow_size]; exact h3.lt, fun i x hx => ?_⟩
    have hg : g ≠ B := by
      rintro rfl
      have h0 : 0 < xs.length := Nat.lt_of_le_of_lt (Nat.zero_le i) (List.getElem?_eq_some_iff.1 hx).1
      have e1 := (h3.cell 0 xs[0] (by simp [h0])).1
      have e2 := hr.cell 0 (v := .int .u8 0) rfl
      rw [Nat.zero_mul, e2] at e1; simp at e1
    exact ⟨(cell_setRow_other w B c _ hg).trans (h3.cell i x hx).1, (cell_setRow_other w B c _ hg).trans (h3.cell i x hx).2⟩
theorem mem_is {w : World} {N B : Nat} {r : RuleD} (h : RuleMem w N r) (hr : RowAt w B 26 ruleZ0.toList) : ∃ cs : Array Value, RowAt w N 26 cs.toList ∧ cs.size = 18 ∧ cs.all (·.oneCell') = true ∧ RuleIs (w.setRow B cs) (.agg cs) r := by
  obtain ⟨v8, v9, v10, v11, v12, v13, v14, v15, v16, v17, h⟩ := h
  have hv : RuleIs w (.agg (ruleCells r v8 v9 v10 v11 v12 v13 v14 v15 v16 v17).toArray) r := ⟨v8, v9, v10, v11, v12, v13, v14, v15, v16, v17, rfl, h.l8.toV0.q, h.l9.toV0.q, h.l10.toV0.q, h.l11.toV0.q, h.l12.toV0.q, h.l13.toV0.q, h.l14.toV0.q, h.l15.toV0.q, h.l16.toV0.q, h.l17.toV0.q⟩
  obtain ⟨cs, he, hs, h1⟩ := ruleVal_cells hv
  injection he with he
  subst he
  exact ⟨_, h.row, hs, h1, v8, v9, v10, v11, v12, v13, v14, v15, v16, v17, rfl, (h.l8.toV0.setRowY hr _).q, (h.l9.toV0.setRowY hr _).q, (h.l10.toV0.setRowY hr _).q, (h.l11.toV0.setRowY hr _).q, (h.l12.toV0.setRowY hr _).q, (h.l13.toV0.setRowY hr _).q, (h.l14.toV0.setRowY hr _).q, (h.l15.toV0.setRowY hr _).q, (h.l16.toV0.setRowY hr _).q, (h.l17.toV0.setRowY hr _).q⟩
theorem Tryz.blt26z : Tryz.prog.built 26 [] = some ruleZ0 := by kernel_rfl
theorem run_bld26z (ρ : Operand → Value) (o : Oper) (ho : o.op = .build 26 #[]) (w : World) : (execOp ρ o).run Tryz.prog w = .ok (.value (.agg ruleZ0)) w := by
  unfold execOp
  simp only [ho]
  simp [run_build w 26 #[] ruleZ0 Tryz.blt26z]
theorem len_two {α : Type} {L : List α} (h : L.length = 2) : ∃ a b, L = [a, b] := by
  match L, h with
  | [a, b], _ => exact ⟨a, b, rfl⟩
def PSPost (w : World) (o : Out RuleD) (e : Ending) (w' : World) : Prop := Below w.heap.size w w' ∧ match o with
  | .right r => ∃ v, e = .returned (.tuple #[v, .int .u8 0]) ∧ RuleIs w' v r
  | .wrong => e = .returned (.tuple #[.agg ruleZ0, .int .u8 1])
  | .opn => e = .returned (.tuple #[.agg ruleZ0, .int .u8 2])
theorem ps_right {w w' : World} {o : Out RuleD} {e : Ending} {r : RuleD} {v : Value} (h : o = .right r) (he : e = .returned (.tuple #[v, .int .u8 0])) (hb : Below w.heap.size w w') (hv : RuleIs w' v r) : PSPost w o e w' := by subst h; exact ⟨hb, v, he, hv⟩
theorem ps_wrong {w w' : World} {o : Out RuleD} {e : Ending} (h : o = .wrong) (he : e = .returned (.tuple #[.agg ruleZ0, .int .u8 1])) (hb : Below w.heap.size w w') : PSPost w o e w' := by subst h; exact ⟨hb, he⟩
theorem ps_opn {w w' : World} {o : Out RuleD} {e : Ending} (h : o = .opn) (he : e = .returned (.tuple #[.agg ruleZ0, .int .u8 2])) (hb : Below w.heap.size w w') : PSPost w o e w' := by subst h; exact ⟨hb, he⟩
/-- part, its outcome by its code -/
theorem part_code (K V : List UInt8) (r : RuleD) (N : Nat) (W : World) (hD : DayNms W) (hF : Freqs W) (hm : RuleMem W N r) (h0 : 1 ≤ N) (hl : V.length ≤ 1000000000) :
    Calls Tryz.prog 58 #[.pointer (some ⟨N, 0, none⟩), .string (mkS K), .string (mkS V)] W fun e w' => e = .returned (.int .u8 (partS (keyI K) V r).code) ∧ But N W w' ∧ N < w'.heap.size ∧ ∀ r2, partS (keyI K) V r = .right r2 → RuleMem w' N r2 :=
  (part_any K V r N W hD hF hm h0 hl).mono fun e w' ⟨h1, h2, h3⟩ => by
    cases ho : partS (keyI K) V r with
    | right r2 => rw [ho] at h3; exact ⟨h3.1, h1, h2, fun r3 e3 => by cases e3; exact h3.2⟩
    | wrong => rw [ho] at h3; exact ⟨h3, h1, h2, fun r3 e3 => by cases e3⟩
    | opn => rw [ho] at h3; exact ⟨h3, h1, h2, fun r3 e3 => by cases e3⟩
theorem zero_mem (w : World) : RuleMem (w.alloc (.cells ruleZ0 26)) w.heap.size RuleD.zero :=
  ⟨.slice none 0 0, .slice none 0 0, .slice none 0 0, .slice none 0 0, .slice none 0 0, .slice none 0 0, .slice none 0 0, .slice none 0 0, .slice none 0 0, .slice none 0 0, ⟨heap_alloc_new w _⟩, .inl ⟨rfl, rfl⟩, .inl ⟨rfl, rfl⟩, .inl ⟨rfl, rfl⟩, .inl ⟨rfl, rfl⟩, .inl ⟨rfl, rfl⟩, .inl ⟨rfl, rfl⟩, .inl ⟨rfl, rfl⟩, .inl ⟨rfl, rfl⟩, .inl ⟨rfl, rfl⟩, .inl ⟨rfl, rfl⟩⟩
theorem But.row {N : Nat} {a w : World} (h : But N a w) {B : Nat} {t : TypeId} {xs : List Value} (hr : RowAt a B t xs) (hB : B ≠ N) : RowAt w B t xs := ⟨(h.block B hr.lt hB).trans hr.blk⟩
theorem But.days {N : Nat} {a w : World} (h : But N a w) (k : DayNms a) (h0 : 1 ≤ N) : DayNms w := ⟨fun i hi => h.cell (by omega) (k.dn i hi)⟩
theorem But.freqs {N : Nat} {a w : World} (h : But N a w) (k : Freqs a) (h0 : 2 ≤ N) : Freqs w := ⟨fun i hi => h.cell (by omega) (k.fr i hi)⟩
theorem But.strs {N : Nat} {a w : World} (h : But N a w) {g c : Nat} {xs : List ByteArray} (k : StrRow a g c xs) (hg : g ≠ N) : StrRow w g c xs := ⟨Nat.lt_of_lt_of_le k.lt h.size, k.cap, k.len, fun i x hx => h.cell hg (k.cell i x hx)⟩
/-- the parts that are read, from some on -/
def restO (ps : List (List UInt8)) (r : RuleD) (b : Bool) : Out RuleD := endO (partsO ps (r, b))
/-- what the loop over the parts holds -/
structure PL4 (w : World) (N : Nat) (r : RuleD) (g2 c2 : Nat) (ps : List (List UInt8)) (wr : World) : Prop where
  mem : RuleMem wr N r
  zero : RowAt wr w.heap.size 26 ruleZ0.toList
  strs : StrRow wr g2 c2 (ps.map mkS)
  hb : Below w.heap.size w wr
  dn : DayNms wr
  fr : Freqs wr
theorem PL4.call {w wr w1 : World} {N : Nat} {r : RuleD} {g2 c2 : Nat} {ps : List (List UInt8)} (h : PL4 w N r g2 c2 ps wr) (hb : Below wr.heap.size wr w1) : PL4 w N r g2 c2 ps w1 :=
  ⟨h.mem.below hb, h.zero.below hb, h.strs.below hb, h.hb.trans (hb.mono h.hb.size), h.dn.below hb, h.fr.below hb⟩
theorem PL4.part {w wr w1 : World} {N : Nat} {r r2 : RuleD} {g2 c2 : Nat} {ps : List (List UInt8)} (h : PL4 w N r g2 c2 ps wr) (hb : But N wr w1) (hm : RuleMem w1 N r2) (hN : w.heap.size < N) (h2 : 2 ≤ w.heap.size) (hg : g2 ≠ N) : PL4 w N r2 g2 c2 ps w1 :=
  ⟨hm, hb.row h.zero (by omega), hb.strs h.strs hg, hb.below h.hb (by omega) h.hb.size, hb.days h.dn (by omega), hb.freqs h.fr (by omega)⟩
def KP (W : World) (N : Nat) (o : Out RuleD) (listed : Array Bool) (w : World) : Prop := (listed[6]? = some true → listed[2]? = some true ∧ listed[5]? = some true) ∧ (listed[6]? ≠ some true → w = W) ∧ (listed[6]? = some true → But N W w ∧ N < w.heap.size ∧ ∀ r2, o = .right r2 → RuleMem w N r2)
theorem KP.other {W w : World} {N : Nat} {o : Out RuleD} {listed : Array Bool} (h : KP W N o listed w) {i : Nat} (hi : i ≠ 6) : KP W N o (listed.setIfInBounds i true) w := by
  unfold KP; rw [nget hi]; exact ⟨fun e => ⟨set_tr (h.1 e).1, set_tr (h.1 e).2⟩, h.2.1, h.2.2⟩
theorem KP.ahead {W w : World} {N : Nat} {o : Out RuleD} {listed : Array Bool} (h : KP W N o listed w) (hf : listed[2]? = some false ∨ listed[5]? = some false) : w = W := h.2.1 (fun e => by
  have := h.1 e
  rcases hf with hf | hf
  · rw [hf] at this; cases this.1
  · rw [hf] at this; cases this.2)
theorem KP.start (W : World) (N : Nat) (o : Out RuleD) (n : Nat) : KP W N o (Array.replicate n false) W := ⟨fun e => absurd e (no_listed _ _), fun _ => rfl, fun e => absurd e (no_listed _ _)⟩
theorem KP.called {W w : World} {N : Nat} {o : Out RuleD} {listed : Array Bool} (hf : listed[6]? = some false) (h2 : listed[2]? = some true) (h5 : listed[5]? = some true) (h : But N W w ∧ N < w.heap.size ∧ ∀ r2, o = .right r2 → RuleMem w N r2) : KP W N o (listed.setIfInBounds 6 true) w :=
  ⟨fun _ => ⟨set_tr h2, set_tr h5⟩, fun e => absurd (set_se hf) e, fun _ => h⟩

set_option maxRecDepth 100000 in
set_option maxHeartbeats 25600000 in
theorem parseS_any (l : List UInt8) (w : World) (hD : DayNms w) (hF : Freqs w) (hl : l.length ≤ 1000000) : Calls Tryz.prog 20 #[.string (mkS l)] w (PSPost w (parS l)) := by
  have h2 : 2 ≤ w.heap.size := by have := World.block_lt_of_cell? w _ (hF.fr 0 (by omega)); show 2 ≤ _; have h1 : (1 : Nat) < w.heap.size := this; omega
  have hb0 : Below w.heap.size w (w.alloc (.cells ruleZ0 26)) := (Below.refl _ _).alloc (Nat.le_refl _) _
  have hz0 : RowAt (w.alloc (.cells ruleZ0 26)) w.heap.size 26 ruleZ0.toList := ⟨heap_alloc_new w _⟩
  have HZ0 := Lib.hid hz0
  have HB0 := Lib.hid hb0
  have H53 := Lib.hid (fun w1 => ascii_any l w1 (by omega))
  clear hz0 hb0
  cases ha : ascL l with
  | false =>
    rw [ha] at H53
    have HR : Hid (parS l = .opn) := Lib.hid (by unfold parS; rw [if_pos ha])
    clear ha hD hF
    go_enter Tryz.func20, Tryz.ntmps20
    go_wp2_with (first
      | (refine Great.wpList_runTo rfl (some 2) rfl _ _ (run_al26 _ _ rfl _) ?_)
      | (go_at_call 53; go_must (refine (H53.out _).mono ?_; rintro e w1 ⟨rfl, rfl⟩))
      | (refine Great.wpList_runTo rfl (some 19) rfl _ _ (run_bld26z _ _ rfl _) ?_)
      | (refine wpList_store_row rfl 26 _ _ rfl w.heap.size ruleZ0 rfl rfl 26 _ HZ0.out.blk (by as_aux_lemma => kernel_rfl) rfl ruleZ0_one ?_)
      | (fail))
    exact bodyPost_ret (results_row2 rfl _ _ w.heap.size 26 ruleZ0 (0, 0) _ rfl (setRow_heap _ _ _ _ _ _ HZ0.out.blk) Tryz.underlying26 rfl (by as_aux_lemma => kernel_rfl)) rfl (ps_opn HR.out rfl (below_setRow HB0.out (Nat.le_refl _) _))
  | true =>
    rw [ha] at H53
    have htl : (trimS l).length ≤ l.length := by
      unfold trimS
      rw [List.length_reverse]
      have h1 := (List.dropWhile_sublist Lib.isSp (l := (l.dropWhile Lib.isSp).reverse)).length_le
      have h2 := (List.dropWhile_sublist Lib.isSp (l := l)).length_le
      rw [List.length_reverse] at h1
      omega
    have hta : ascL (trimS l) = true := ascL_sub (fun c hc => by
      unfold trimS at hc
      rw [List.mem_reverse] at hc
      have := (List.dropWhile_sublist Lib.isSp).mem hc
      rw [List.mem_reverse] at this
      exact (List.dropWhile_sublist Lib.isSp).mem this) ha
    have hpar : parS l = match splitL 10 (trimS l) with
      | [a] => endO (partsO (splitL 59 (Lib.trimPrefix a rrule)) (RuleD.zero, false))
      | [d, a] => if lineName d then (match startS (d.drop 8) with
        | .right n => endO (partsO (splitL 59 (Lib.trimPrefix a rrule)) ({ RuleD.zero with st := n, hs := n != 0 }, false))
        | .wrong => .wrong
        | .opn => .opn) else .wrong
      | _ => .wrong := by unfold parS; rw [if_neg (by simp [ha])]; rfl
    have H55 := Lib.hid (fun w1 => trimS_any l w1 (by omega))
    have H54 := Lib.hid (fun w1 => splitS_any (trimS l) 10 w1 (by omega))
    have hpl : ∀ q ∈ splitL 10 (trimS l), q.length ≤ 1000000 ∧ ascL q = true := fun q hq => ⟨Nat.le_trans (split_len hq) (by omega), ascL_sub (fun c hc => splitL_mem hq hc) hta⟩
    have hnl := splitL_len 10 (trimS l)
    have hne := splitL_ne 10 (trimS l)
    generalize hRR : parS l = R at *
    clear hRR ha hta
    generalize trimS l = t at *
    generalize splitL 10 t = L at *
    have HPL := Lib.hid hpl
    have HPAR := Lib.hid hpar
    have hn0 : 0 < L.length := List.length_pos_iff.2 hne
    have hn1 : L.length ≤ 1000001 := by omega
    clear hpl hpar hne hnl
    generalize hn : L.length = n at *
    have HN := Lib.hid hn
    clear hn
    go_enter Tryz.func20, Tryz.ntmps20
    go_upto_block 0 with (first
      | (refine Great.wpList_runTo rfl (some 2) rfl _ _ (run_al26 _ _ rfl _) ?_)
      | (go_at_call 53; go_must (refine (H53.out _).mono ?_; rintro e w1 ⟨rfl, rfl⟩))
      | (go_at_call 55; go_must (refine (H55.out _).mono ?_; rintro e w1 ⟨rfl, rfl⟩))
      | (go_at_call 54; go_must (refine (H54.out _).mono ?_; rintro e w2 ⟨g1, c1, rfl, hg1, hrow1, hb1⟩; rw [List.length_map, HN.out]))
      | (refine Great.wpList_runTo rfl (some 23) rfl _ _ (run_bld26z _ _ rfl _) ?_)
      | (refine Great.wpList_runTo rfl (some 5) rfl _ _ (run_al26 _ _ rfl _) ?_)
      | (refine wpList_store_fresh rfl 26 _ _ rfl ruleZ0 ruleZ0 rfl rfl (by as_aux_lemma => kernel_rfl) rfl ruleZ0_one ?_)
      | (fail))
    have hN2 : w.heap.size < w2.heap.size := by have := hb1.size; simp at this; omega
    have hbw2 : Below w.heap.size w w2 := HB0.out.trans (hb1.mono HB0.out.size)
    have hal : Below w2.heap.size w2 (w2.alloc (.cells ruleZ0 26)) := (Below.refl _ _).alloc (Nat.le_refl _) _
    have hg1N : g1 < w2.heap.size := hrow1.lt
    have HP0 : Hid (PL4 w w2.heap.size RuleD.zero g1 c1 L (w2.alloc (.cells ruleZ0 26))) := Lib.hid ⟨zero_mem w2, (HZ0.out.below hb1).below hal, hrow1.below hal, hbw2.trans (hal.mono hbw2.size), (hD.below hbw2).below hal, (hF.below hbw2).below hal⟩
    clear hrow1 hb1 hbw2 hal hD hF
    generalize w2.alloc (.cells ruleZ0 26) = W4 at *
    generalize w2.heap.size = M at *
    obtain ⟨m, rfl⟩ : ∃ m, n = m + 1 := ⟨n - 1, by omega⟩
    clear hn0
    go_cut [6, 7, 8, 9] from 26 to 64 (fun _ _ _ _ wx => ∃ r0 a, Hid (L[m]? = some a) ∧ Hid (R = restO (splitL 59 (Lib.trimPrefix a rrule)) r0 false) ∧ Hid (PL4 w M r0 g1 c1 L wx))
    case first =>
      have hz := HP0.out.zero
      have hbw := HP0.out.hb
      by_cases hm1 : m = 0
      · subst hm1
        obtain ⟨a, hL⟩ := List.length_eq_one_iff.1 HN.out
        have HLa : Hid (L[0]? = some a) := Lib.hid (by rw [hL]; rfl)
        have HRa : Hid (R = restO (splitL 59 (Lib.trimPrefix a rrule)) RuleD.zero false) := Lib.hid (by have := HPAR.out; rw [hL] at this; exact this)
        clear hL hz hbw
        go_wp2
        go_meet
        exact ⟨RuleD.zero, a, HLa, HRa, HP0⟩
      · by_cases hm2 : m = 1
        · subst hm2
          obtain ⟨d, a, hL⟩ := len_two HN.out
          have HLa : Hid (L[1]? = some a) := Lib.hid (by rw [hL]; rfl)
          have hdl := HPL.out d (by rw [hL]; simp)
          have hcd := HP0.out.strs.cell 0 (mkS d) (by rw [hL]; rfl)
          have HRd : Hid (R = if lineName d then (match startS (d.drop 8) with
            | .right n => restO (splitL 59 (Lib.trimPrefix a rrule)) { RuleD.zero with st := n, hs := n != 0 } false
            | .wrong => .wrong
            | .opn => .opn) else .wrong) := Lib.hid (by have := HPAR.out; rw [hL] at this; exact this)
          have hln := lineName_asc d hdl.2
          have H56 := Lib.hid (fun w1 => nameS_any d w1 (by omega))
          clear hL hm1
          cases hnm : nmS ((trimS d).map upC) with
          | mk nm bb =>
          rw [hnm] at H56 hln
          have hln : lineName d = (bb && nm == [68, 84, 83, 84, 65, 82, 84]) := hln
          clear hnm
          have tl := toList_mkS nm
          cases bb with
          | false =>
            have HR : Hid (R = .wrong) := Lib.hid (by rw [HRd.out, if_neg (by rw [hln]; simp)])
            clear hln HLa
            go_wp2_with (first
              | (go_at_call 56; go_must (refine (H56.out _).mono ?_; rintro e w3 ⟨rfl, hb3⟩; have hz3 := hz.below hb3; have hbw3 := hbw.trans (hb3.mono hbw.size)))
              | (refine Great.wpList_runTo rfl (some 44) rfl _ _ (run_bld26z _ _ rfl _) ?_)
              | (refine wpList_store_row rfl 26 _ _ rfl w.heap.size ruleZ0 rfl rfl 26 _ hz3.blk (by as_aux_lemma => kernel_rfl) rfl ruleZ0_one ?_)
              | (fail))
            (try simp only [Exit.inBlock, Exit.then])
            exact bodyPost_ret (results_row2 rfl _ _ w.heap.size 26 ruleZ0 (0, 0) _ rfl (setRow_heap _ _ _ _ _ _ hz3.blk) Tryz.underlying26 rfl (by as_aux_lemma => kernel_rfl)) rfl (ps_wrong HR.out rfl (below_setRow hbw3 (Nat.le_refl _) _))
          | true =>
            cases hnd : (nm == [68, 84, 83, 84, 65, 82, 84]) with
            | false =>
              have HR : Hid (R = .wrong) := Lib.hid (by rw [HRd.out, if_neg (by rw [hln, hnd]; simp)])
              clear hln HLa
              go_wp2_with (first
                | (go_at_call 56; go_must (refine (H56.out _).mono ?_; rintro e w3 ⟨rfl, hb3⟩; have hz3 := hz.below hb3; have hbw3 := hbw.trans (hb3.mono hbw.size)))
                | (refine Great.wpList_runTo rfl (some 44) rfl _ _ (run_bld26z _ _ rfl _) ?_)
                | (refine wpList_store_row rfl 26 _ _ rfl w.heap.size ruleZ0 rfl rfl 26 _ hz3.blk (by as_aux_lemma => kernel_rfl) rfl ruleZ0_one ?_)
                | (fail))
              (try simp only [Exit.inBlock, Exit.then])
              exact bodyPost_ret (results_row2 rfl _ _ w.heap.size 26 ruleZ0 (0, 0) _ rfl (setRow_heap _ _ _ _ _ _ hz3.blk) Tryz.underlying26 rfl (by as_aux_lemma => kernel_rfl)) rfl (ps_wrong HR.out rfl (below_setRow hbw3 (Nat.le_refl _) _))
            | true =>
              rw [hnd] at hln
              have hln : lineName d = true := hln
              have hl8 := lineName_len d hln
              have hnm7 : nm = [68, 84, 83, 84, 65, 82, 84] := by simpa using hnd
              subst hnm7
              have zd := size_mkS d
              have zn : (mkS [68, 84, 83, 84, 65, 82, 84]).size = 7 := by rw [size_mkS]; rfl
              have hex : (mkS d).extract 8 d.length = mkS (d.drop 8) := by
                rw [extract_mkS, mkS_data]; congr 1; exact List.take_of_length_le (by rw [List.length_drop]; omega)
              have hda : ascL (d.drop 8) = true := ascL_sub (fun c hc => List.mem_of_mem_drop hc) hdl.2
              have hso : startO (d.drop 8) = startS (d.drop 8) := by unfold startO; rw [if_neg (by simp [hda])]
              have H42 := Lib.hid (fun w1 => startS_any (d.drop 8) w1 (by rw [List.length_drop]; omega))
              rw [hso] at H42
              have HRd2 : Hid (R = match startS (d.drop 8) with
                | .right n => restO (splitL 59 (Lib.trimPrefix a rrule)) { RuleD.zero with st := n, hs := n != 0 } false
                | .wrong => .wrong
                | .opn => .opn) := Lib.hid (HRd.out.trans (if_pos hln))
              clear hda hso hln HRd hnd
              generalize d.drop 8 = dd at *
              cases hS : startS dd with
              | wrong =>
                rw [hS] at H42 HRd2
                have HR : Hid (R = .wrong) := HRd2
                clear hS HLa
                go_wp2_with (first
                  | (go_at_call 56; go_must (refine (H56.out _).mono ?_; rintro e w3 ⟨rfl, hb3⟩; have hz3 := hz.below hb3; have hbw3 := hbw.trans (hb3.mono hbw.size); have hcd3 := cell_below hb3 hcd))
                  | (go_at_call 42; go_must (refine (H42.out _).mono ?_; rintro e w5 ⟨rfl, hb5⟩; have hz5 := hz3.below hb5; have hbw5 := hbw3.trans (hb5.mono hbw3.size)))
                  | (refine Great.wpList_runTo rfl (some 58) rfl _ _ (run_bld26z _ _ rfl _) ?_)
                  | (refine wpList_store_row rfl 26 _ _ rfl w.heap.size ruleZ0 rfl rfl 26 _ hz5.blk (by as_aux_lemma => kernel_rfl) rfl ruleZ0_one ?_)
                  | (fail))
                (try simp only [Exit.inBlock, Exit.then])
                exact bodyPost_ret (results_row2 rfl _ _ w.heap.size 26 ruleZ0 (0, 0) _ rfl (setRow_heap _ _ _ _ _ _ hz5.blk) Tryz.underlying26 rfl (by as_aux_lemma => kernel_rfl)) rfl (ps_wrong HR.out rfl (below_setRow hbw5 (Nat.le_refl _) _))
              | opn =>
                rw [hS] at H42 HRd2
                have HR : Hid (R = .opn) := HRd2
                clear hS HLa
                go_wp2_with (first
                  | (go_at_call 56; go_must (refine (H56.out _).mono ?_; rintro e w3 ⟨rfl, hb3⟩; have hz3 := hz.below hb3; have hbw3 := hbw.trans (hb3.mono hbw.size); have hcd3 := cell_below hb3 hcd))
                  | (go_at_call 42; go_must (refine (H42.out _).mono ?_; rintro e w5 ⟨rfl, hb5⟩; have hz5 := hz3.below hb5; have hbw5 := hbw3.trans (hb5.mono hbw3.size)))
                  | (refine Great.wpList_runTo rfl (some 58) rfl _ _ (run_bld26z _ _ rfl _) ?_)
                  | (refine wpList_store_row rfl 26 _ _ rfl w.heap.size ruleZ0 rfl rfl 26 _ hz5.blk (by as_aux_lemma => kernel_rfl) rfl ruleZ0_one ?_)
                  | (fail))
                (try simp only [Exit.inBlock, Exit.then])
                exact bodyPost_ret (results_row2 rfl _ _ w.heap.size 26 ruleZ0 (0, 0) _ rfl (setRow_heap _ _ _ _ _ _ hz5.blk) Tryz.underlying26 rfl (by as_aux_lemma => kernel_rfl)) rfl (ps_opn HR.out rfl (below_setRow hbw5 (Nat.le_refl _) _))
              | right q =>
                rw [hS] at H42 HRd2
                clear hS
                have HRq : Hid (R = restO (splitL 59 (Lib.trimPrefix a rrule)) { RuleD.zero with st := q, hs := q != 0 } false) := HRd2
                clear HRd2
                go_wp2_with (first
                  | (go_at_call 56; go_must (refine (H56.out _).mono ?_; rintro e w3 ⟨rfl, hb3⟩; have hcd3 := cell_below hb3 hcd; have hP3 := HP0.out.call hb3))
                  | (go_at_call 42; go_must (refine (H42.out _).mono ?_; rintro e w5 ⟨rfl, hb5⟩; have hP5 := hP3.call hb5; obtain ⟨⟨y1, hy1⟩, hf1⟩ := hP5.mem.cell 2 (by omega); obtain ⟨⟨y2, hy2⟩, hf2⟩ := hP5.mem.cell 1 (by omega)))
                  | (fail))
                go_meet
                exact ⟨_, a, HLa, HRq, Lib.hid (hP5.part (((But.refl _ _).set 2 _).set 1 _) (hP5.mem.set_st q (q != 0)) hN2 h2 (by omega))⟩
        · have HR : Hid (R = .wrong) := Lib.hid (by
            have h3 := HN.out
            have hp := HPAR.out
            match L, h3 with
            | [], h3 => simp at h3
            | [a], h3 => exact absurd (by simpa using h3) hm1
            | [d, a], h3 => exact absurd (by simpa using h3) hm2
            | a :: b :: c :: r, _ => exact hp)
          have t1 : ((m : Int) + 1 == 1) = false := by rw [beq_eq_false_iff_ne]; omega
          have t2 : ((m : Int) + 1 == 2) = false := by rw [beq_eq_false_iff_ne]; omega
          clear hm1 hm2
          go_wp2_with (first
            | (refine Great.wpList_runTo rfl (some 26) rfl _ _ (run_bld26z _ _ rfl _) ?_)
            | (refine wpList_store_row rfl 26 _ _ rfl w.heap.size ruleZ0 rfl rfl 26 _ hz.blk (by as_aux_lemma => kernel_rfl) rfl ruleZ0_one ?_)
            | (fail))
          (try simp only [Exit.inBlock, Exit.then])
          exact bodyPost_ret (results_row2 rfl _ _ w.heap.size 26 ruleZ0 (0, 0) _ rfl (setRow_heap _ _ _ _ _ _ hz.blk) Tryz.underlying26 rfl (by as_aux_lemma => kernel_rfl)) rfl (ps_wrong HR.out rfl (below_setRow hbw (Nat.le_refl _) _))
    case rest =>
    obtain ⟨r0, a, HLA, HRA, HP⟩ := hcut
    clear HP0 HPAR H53 H54 H55 HB0 HZ0
    have hcl := HP.out.strs.cell m (mkS a) (by rw [List.getElem?_map, HLA.out]; rfl)
    have hal := (HPL.out a (List.mem_of_getElem? HLA.out)).1
    have H57 : Hid (∀ w1, Calls Tryz.prog 57 #[.string (mkS a), .string ⟨#[82, 82, 85, 76, 69, 58]⟩] w1 fun e w' => e = .returned (.bool (Lib.hasPrefix a rrule)) ∧ w1 = w') := Lib.hid (fun w1 => begins_any a rrule w1 (by omega) (by decide))
    have za := size_mkS a
    have hA6 : Hid (Lib.hasPrefix a rrule = true → 6 ≤ a.length ∧ Lib.trimPrefix a rrule = a.drop 6) := Lib.hid (fun h => by
      constructor
      · unfold Lib.hasPrefix at h
        exact (List.isPrefixOf_iff_prefix.1 h).length_le
      · unfold Lib.trimPrefix; rw [if_pos h]; rfl)
    have hA7 : Hid (Lib.hasPrefix a rrule = false → Lib.trimPrefix a rrule = a) := Lib.hid (fun h => by unfold Lib.trimPrefix; rw [if_neg (by simp [h])])
    have hex : (mkS a).extract 6 a.length = mkS (a.drop 6) := by
      rw [extract_mkS, mkS_data]; congr 1; exact List.take_of_length_le (by rw [List.length_drop]; omega)
    have m0 : (0 : Int) ≤ (m : Int) := Int.natCast_nonneg _
    go_upto_if 72 with (go_at_call 57; go_must (refine (H57.out _).mono ?_; rintro e w1 ⟨rfl, rfl⟩))
    clear hcl
    generalize hpb : Lib.hasPrefix a rrule = pb at *
    clear hpb
    go_cut [10] from 73 to 74 (fun s10 wx => s10 = .string (mkS (Lib.trimPrefix a rrule)) ∧ wx = wc)
    case first =>
      cases pb with
      | false =>
        have e := hA7.out rfl
        have E := Lib.hid e
        clear e hA6 hA7 hex
        go_wp2
        go_meet
        exact ⟨by rw [E.out], rfl⟩
      | true =>
        obtain ⟨h6, e⟩ := hA6.out rfl
        have E := Lib.hid e
        clear e hA6 hA7
        have h6' : (6 : Int) ≤ (a.length : Int) := by omega
        go_wp2
        go_meet
        exact ⟨by rw [E.out], rfl⟩
    case rest =>
    obtain ⟨rfl, rfl⟩ := hcut
    have htp : (Lib.trimPrefix a rrule).length ≤ 1000000 := by
      unfold Lib.trimPrefix; split
      · rw [List.length_drop]; omega
      · exact hal
    clear hA6 hA7 hex H57 za hal HLA
    generalize Lib.trimPrefix a rrule = tp at *
    have H59 := Lib.hid (fun w1 => splitS_any tp 59 w1 (by omega))
    have hpp : ∀ q ∈ splitL 59 tp, q.length ≤ 1000000 := fun q hq => Nat.le_trans (split_len hq) htp
    have hpn := splitL_len 59 tp
    generalize splitL 59 tp = ps at *
    have HPP := Lib.hid hpp
    clear hpp
    have hnp : ps.length ≤ 1000001 := by omega
    clear hpn htp
    generalize hNP : ps.length = np at *
    have HNP := Lib.hid hNP
    clear hNP
    go_wp2_with (first
      | (go_at_call 54; go_must (refine (H59.out _).mono ?_; rintro e w3 ⟨g2, c2, rfl, hg2, hrow2, hb3⟩; rw [List.length_map, HNP.out]))
      | (fail))
    have hMl := HP.out.mem.lt
    have hg2M : g2 ≠ M := by omega
    have HP3 : Hid (PL4 w M r0 g2 c2 ps w3) := Lib.hid ⟨HP.out.mem.below hb3, HP.out.zero.below hb3, hrow2, HP.out.hb.trans (hb3.mono HP.out.hb.size), HP.out.dn.below hb3, HP.out.fr.below hb3⟩
    have HRA2 : Hid (R = restO (ps.drop 0) r0 false) := HRA
    clear hrow2 hb3 hg2 hMl HP HRA
    go_loopw [11, 78] (fun s11 s78 wr => ∃ (k : Nat) (r : RuleD) (b : Bool), k ≤ np ∧ s78 = .int .i64 k ∧ s11 = .bool b ∧ Hid (R = restO (ps.drop k) r b) ∧ Hid (PL4 w M r g2 c2 ps wr)) (fun _ i _ => np - (intOf i).toNat)
    case atStart => exact ⟨0, r0, false, by omega, rfl, rfl, HRA2, HP3⟩
    case round =>
      obtain ⟨k, r, b, hk, rfl, rfl, HRK, HPK⟩ := hrel
      have hzr := HPK.out.zero
      have hbr := HPK.out.hb
      by_cases hkl : k < np
      · have hkl' : k < ps.length := by rw [HNP.out]; exact hkl
        have hcp := HPK.out.strs.cell k (mkS ps[k]) (by simp [hkl'])
        have hpx := HPP.out ps[k] (List.getElem_mem hkl')
        have k0 : (0 : Int) ≤ (k : Int) := Int.natCast_nonneg _
        have k1 : (k : Int) < (np : Int) := by omega
        have HRp : Hid (R = match partO ps[k] (r, b) with
          | .right s => restO (ps.drop (k + 1)) s.1 s.2
          | .wrong => .wrong
          | .opn => .opn) := Lib.hid (by
          rw [HRK.out, List.drop_eq_getElem_cons hkl']
          unfold restO
          simp only [partsO]
          cases partO ps[k] (r, b) <;> rfl)
        clear HRK
        generalize ps[k] = px at hcp hpx HRp
        have H61 := Lib.hid (fun w1 => splitS_any px 61 w1 (by omega))
        have hkv : ∀ v ∈ splitL 61 px, v.length ≤ 1000000 := fun v hv => Nat.le_trans (split_len hv) hpx
        have hnk := splitL_len 61 px
        have HPO : Hid (partO px (r, b) = match splitL 61 px with
          | [x, v] => if v = [] then .wrong else match partS (keyI x) v r with
            | .right r2 => .right (r2, b || keyI x == 0)
            | .wrong => .wrong
            | .opn => .opn
          | _ => .wrong) := Lib.hid rfl
        generalize splitL 61 px = kv at *
        have HKV := Lib.hid hkv
        have hnk2 : kv.length ≤ 1000001 := by omega
        clear hkv hnk hpx
        by_cases hsh : ∃ x v, kv = [x, v]
        · obtain ⟨x, v, rfl⟩ := hsh
          have hvl := HKV.out v (by simp)
          have tx := toList_mkS x
          have tv := toList_mkS v
          clear HKV hnk2
          by_cases hv0 : v = []
          · subst hv0
            have HR : Hid (R = .wrong) := Lib.hid (by rw [HRp.out, HPO.out]; rfl)
            clear HRp HPO hvl
            go_wp2_with (first
              | (go_at_call 54; go_must (refine (H61.out _).mono ?_; rintro e w5 ⟨g5, c5, rfl, hg5, hrow5, hb5⟩; have e1 := hrow5.cell 1 (mkS []) rfl; have hz5 := hzr.below hb5; have hbw5 := hbr.trans (hb5.mono hbr.size)))
              | (refine Great.wpList_runTo rfl (some 93) rfl _ _ (run_bld26z _ _ rfl _) ?_)
              | (refine wpList_store_row rfl 26 _ _ rfl w.heap.size ruleZ0 rfl rfl 26 _ hz5.blk (by as_aux_lemma => kernel_rfl) rfl ruleZ0_one ?_)
              | (fail))
            (try simp only [Exit.inBlock, Exit.then])
            exact bodyPost_ret (results_row2 rfl _ _ w.heap.size 26 ruleZ0 (0, 0) _ rfl (setRow_heap _ _ _ _ _ _ hz5.blk) Tryz.underlying26 rfl (by as_aux_lemma => kernel_rfl)) rfl (ps_wrong HR.out rfl (below_setRow hbw5 (Nat.le_refl _) _))
          · have hve : v.isEmpty = false := by cases v with
              | nil => exact absurd rfl hv0
              | cons _ _ => rfl
            have HRv : Hid (R = match partS (keyI x) v r with
              | .right r2 => restO (ps.drop (k + 1)) r2 (b || keyI x == 0)
              | .wrong => .wrong
              | .opn => .opn) := Lib.hid (by
              rw [HRp.out, HPO.out]
              simp only [if_neg hv0]
              cases partS (keyI x) v r <;> rfl)
            have hkx : (keyI x == 0) = (x == [70, 82, 69, 81]) := by
              rcases keyI_cases x with ⟨j, hj, hx, hki⟩ | ⟨hno, hki⟩
              · rw [hki]
                by_cases hj0 : j = 0
                · subst hj0; rw [hx]; rfl
                · rw [Bool.eq_iff_iff]
                  constructor
                  · intro h; exact absurd (by simpa using h) hj0
                  · intro h
                    have hx0 : x = keyNm 0 := beq_iff_eq.1 h
                    rw [hx0] at hki
                    exact absurd (by rw [← hki]; decide +kernel) hj0
              · rw [hki]
                have := hno 0 (by omega)
                rw [show (x == [70, 82, 69, 81]) = false from this]; rfl
            have HPC : Hid (∀ w1, PL4 w M r g2 c2 ps w1 → Calls Tryz.prog 58 #[.pointer (some ⟨M, 0, none⟩), .string (mkS x), .string (mkS v)] w1 fun e w' => e = .returned (.int .u8 (partS (keyI x) v r).code) ∧ But M w1 w' ∧ M < w'.heap.size ∧ ∀ r2, partS (keyI x) v r = .right r2 → RuleMem w' M r2) := Lib.hid (fun w1 h => part_code x v r M w1 h.dn h.fr h.mem (by omega) (by omega))
            clear HRp HPO hv0 hvl
            generalize hpo : partS (keyI x) v r = po at *
            clear hpo
            obtain ⟨cd, hcd⟩ : ∃ cd, cd = po.code := ⟨_, rfl⟩
            rw [← hcd] at HPC
            have HCD := Lib.hid hcd
            clear hcd
            rw [hkx] at HRv
            clear hkx
            cases hfb : (x == [70, 82, 69, 81]) with
            | false =>
              rw [hfb] at HRv
              go_upto_region 28 with (first
                | (go_at_call 54; go_must (refine (H61.out _).mono ?_; rintro e w5 ⟨g5, c5, rfl, hg5, hrow5, hb5⟩; have e0 := hrow5.cell 0 (mkS x) rfl; have e1 := hrow5.cell 1 (mkS v) rfl))
                | (fail))
              have HP5 := Lib.hid (HPK.out.call hb5)
              have E0 := Lib.hid e0
              have E1 := Lib.hid e1
              clear e0 e1 hb5 hrow5 hcp hzr hbr
              refine wp_region_table (β := Unit) (fun _ => #[.string (mkS l), undef, .pointer (some ⟨w.heap.size, 0, none⟩), u3, .slice (some ⟨g1, 0, none⟩) (m + 1) c1, .pointer (some ⟨M, 0, none⟩), u6, u7, u8, u9, .string (mkS tp), .bool b, undef, .string (mkS px), .slice (some ⟨g5, 0, none⟩) 2 c5, .int .u8 cd, .string (mkS l), .bool true, .bool false, undef, .string (mkS l), .string (mkS t), .slice (some ⟨g1, 0, none⟩) (m + 1) c1, .agg ruleZ0, .slice (some ⟨g1, 0, none⟩) (m + 1) c1, .int .i64 (m + 1), u26, u27, u28, u29, u30, u31, u32, u33, u34, u35, u36, u37, u38, u39, u40, u41, u42, u43, u44, u45, u46, u47, u48, u49, u50, u51, u52, u53, u54, u55, u56, u57, u58, u59, u60, u61, u62, u63, u64, .slice (some ⟨g1, 0, none⟩) (m + 1) c1, .slice (some ⟨g1, 0, none⟩) (m + 1) c1, .int .i64 (m + 1), .int .i64 m, .pointer (some ⟨g1, m, none⟩), .string (mkS a), .string (mkS a), .bool pb, u73, u74, .string (mkS tp), .slice (some ⟨g2, 0, none⟩) np c2, .int .i64 np, .int .i64 k, .bool true, .pointer (some ⟨g2, k, none⟩), .string (mkS px), .string (mkS px), .slice (some ⟨g5, 0, none⟩) 2 c5, .slice (some ⟨g5, 0, none⟩) 2 c5, .int .i64 2, .bool false, .bool false, .slice (some ⟨g5, 0, none⟩) 2 c5, .pointer (some ⟨g5, 1, none⟩), .string (mkS v), .bool false, .bool false, u93, .slice (some ⟨g5, 0, none⟩) 2 c5, .pointer (some ⟨g5, 0, none⟩), .string (mkS x), .bool false, .slice (some ⟨g5, 0, none⟩) 2 c5, .pointer (some ⟨g5, 0, none⟩), .string (mkS x), .slice (some ⟨g5, 0, none⟩) 2 c5, .pointer (some ⟨g5, 1, none⟩), .string (mkS v), .int .u8 cd, u105, u106, u107, u108, u109, undef, undef, undef, undef]) (fun _ => KP w5.drew M po) 114 (fun _ => rfl) rfl (by kernel_rfl) () rfl [15, 98, 99, 100, 101, 102, 103, 104] (by kernel_rfl) (by kernel_rfl) (KP.start _ _ _ _) ?hs ?hdone
              case hs =>
                refine ⟨StepF.of (fun b listed w1 hB hf hdep K' Q' hK' => ?_), ?_⟩
                · clear hf hdep
                  go_simp
                  refine hK'.out _ _ ⟨rfl, b, fun _ _ => rfl, fun d e => (by cases e; rfl), hB.other (by decide)⟩
                refine ⟨StepF.of (fun b listed w1 hB hf hdep K' Q' hK' => ?_), ?_⟩
                · clear hf hdep
                  go_simp
                  refine hK'.out _ _ ⟨rfl, b, fun _ _ => rfl, fun d e => (by cases e; rfl), hB.other (by decide)⟩
                refine ⟨StepF.of (fun b listed w1 hB hf hdep K' Q' hK' => ?_), ?_⟩
                · have hw := hB.ahead (.inl hf)
                  have hcx := E0.out
                  have hcx : w1.cell? ⟨g5, 0, none⟩ = some (.string (mkS x)) := by rw [hw]; exact E0.out
                  clear hf hdep hw
                  go_simp
                  refine hK'.out _ _ ⟨rfl, b, fun _ _ => rfl, fun d e => (by cases e; rfl), hB.other (by decide)⟩
                refine ⟨StepF.of (fun b listed w1 hB hf hdep K' Q' hK' => ?_), ?_⟩
                · clear hf hdep
                  go_simp
                  refine hK'.out _ _ ⟨rfl, b, fun _ _ => rfl, fun d e => (by cases e; rfl), hB.other (by decide)⟩
                refine ⟨StepF.of (fun b listed w1 hB hf hdep K' Q' hK' => ?_), ?_⟩
                · clear hf hdep
                  go_simp
                  refine hK'.out _ _ ⟨rfl, b, fun _ _ => rfl, fun d e => (by cases e; rfl), hB.other (by decide)⟩
                refine ⟨StepF.of (fun b listed w1 hB hf hdep K' Q' hK' => ?_), ?_⟩
                · have hw := hB.ahead (.inr hf)
                  have hcx := E1.out
                  have hcx : w1.cell? ⟨g5, 1, none⟩ = some (.string (mkS v)) := by rw [hw]; exact E1.out
                  clear hf hdep hw
                  go_simp
                  refine hK'.out _ _ ⟨rfl, b, fun _ _ => rfl, fun d e => (by cases e; rfl), hB.other (by decide)⟩
                refine ⟨StepF.of (fun b listed w1 hB hf hdep K' Q' hK' => ?_), ?_⟩
                · have hl2 := hdep ⟨2, .data⟩ (by simp) rfl
                  have hl5 := hdep ⟨5, .data⟩ (by simp) rfl
                  have hw := hB.2.1 (by rw [hf]; simp)
                  subst hw
                  have HF := Lib.hid hf
                  clear hdep hf
                  go_simp
                  go_at_call 58
                  refine (HPC.out _ (HP5.out.call (Below.refl _ _).drew)).mono ?_
                  rintro e w2 ⟨rfl, hq⟩
                  try dsimp only
                  refine hK'.out _ _ ⟨rfl, b, fun _ _ => rfl, fun d e => (by cases e; rfl), KP.called HF.out hl2 hl5 hq⟩
                refine ⟨StepF.of (fun b listed w1 hB hf hdep K' Q' hK' => ?_), ?_⟩
                · clear hf hdep
                  go_simp
                  refine hK'.out _ _ ⟨rfl, b, fun _ _ => rfl, fun d e => (by cases e; rfl), hB.other (by decide)⟩
                trivial
              case hdone =>
                intro b0 listed w6 hK hall
                have hq := hK.2.2 (hall 6 (by decide))
                clear hK hall
                have HQ := Lib.hid hq
                clear hq
                have hbut : But M w5 w6 := (But.of (Below.refl _ _).drew).trans HQ.out.1
                have HBU := Lib.hid hbut
                clear hbut
                cases po with
                | right r2 =>
                  have hcd : cd = 0 := HCD.out
                  subst hcd
                  have HP6 := Lib.hid (HP5.out.part HBU.out (HQ.out.2.2 r2 rfl) hN2 h2 hg2M)
                  have HRn : Hid (R = restO (ps.drop (k + 1)) r2 (b || false)) := HRv
                  clear HRv HQ
                  go_wp2
                  go_roundw
                  case rel => exact ⟨k + 1, r2, b, by omega, by go_num, rfl, Lib.hid (by rw [HRn.out]; simp), HP6⟩
                  case measure => simp [intOf]; omega
                | wrong =>
                  have hcd : cd = 1 := HCD.out
                  subst hcd
                  have HR : Hid (R = .wrong) := HRv
                  have hz6 := HBU.out.row HP5.out.zero (by omega)
                  have hbw6 : Below w.heap.size w w6 := HBU.out.below HP5.out.hb (by omega) HP5.out.hb.size
                  clear HRv HQ
                  go_wp2_with (first
                    | (refine Great.wpList_runTo rfl (some 107) rfl _ _ (run_bld26z _ _ rfl _) ?_)
                    | (refine wpList_store_row rfl 26 _ _ rfl w.heap.size ruleZ0 rfl rfl 26 _ hz6.blk (by as_aux_lemma => kernel_rfl) rfl ruleZ0_one ?_)
                    | (fail))
                  (try simp only [Exit.inBlock, Exit.then])
                  exact bodyPost_ret (results_row2 rfl _ _ w.heap.size 26 ruleZ0 (0, 0) _ rfl (setRow_heap _ _ _ _ _ _ hz6.blk) Tryz.underlying26 rfl (by as_aux_lemma => kernel_rfl)) rfl (ps_wrong HR.out rfl (below_setRow hbw6 (Nat.le_refl _) _))
                | opn =>
                  have hcd : cd = 2 := HCD.out
                  subst hcd
                  have HR : Hid (R = .opn) := HRv
                  have hz6 := HBU.out.row HP5.out.zero (by omega)
                  have hbw6 : Below w.heap.size w w6 := HBU.out.below HP5.out.hb (by omega) HP5.out.hb.size
                  clear HRv HQ
                  go_wp2_with (first
                    | (refine Great.wpList_runTo rfl (some 107) rfl _ _ (run_bld26z _ _ rfl _) ?_)
                    | (refine wpList_store_row rfl 26 _ _ rfl w.heap.size ruleZ0 rfl rfl 26 _ hz6.blk (by as_aux_lemma => kernel_rfl) rfl ruleZ0_one ?_)
                    | (fail))
                  (try simp only [Exit.inBlock, Exit.then])
                  exact bodyPost_ret (results_row2 rfl _ _ w.heap.size 26 ruleZ0 (0, 0) _ rfl (setRow_heap _ _ _ _ _ _ hz6.blk) Tryz.underlying26 rfl (by as_aux_lemma => kernel_rfl)) rfl (ps_opn HR.out rfl (below_setRow hbw6 (Nat.le_refl _) _))
            | true =>
              rw [hfb] at HRv
              go_upto_region 28 with (first
                | (go_at_call 54; go_must (refine (H61.out _).mono ?_; rintro e w5 ⟨g5, c5, rfl, hg5, hrow5, hb5⟩; have e0 := hrow5.cell 0 (mkS x) rfl; have e1 := hrow5.cell 1 (mkS v) rfl))
                | (fail))
              have HP5 := Lib.hid (HPK.out.call hb5)
              have E0 := Lib.hid e0
              have E1 := Lib.hid e1
              clear e0 e1 hb5 hrow5 hcp hzr hbr
              refine wp_region_table (β := Unit) (fun _ => #[.string (mkS l), undef, .pointer (some ⟨w.heap.size, 0, none⟩), u3, .slice (some ⟨g1, 0, none⟩) (m + 1) c1, .pointer (some ⟨M, 0, none⟩), u6, u7, u8, u9, .string (mkS tp), .bool true, undef, .string (mkS px), .slice (some ⟨g5, 0, none⟩) 2 c5, .int .u8 cd, .string (mkS l), .bool true, .bool false, undef, .string (mkS l), .string (mkS t), .slice (some ⟨g1, 0, none⟩) (m + 1) c1, .agg ruleZ0, .slice (some ⟨g1, 0, none⟩) (m + 1) c1, .int .i64 (m + 1), u26, u27, u28, u29, u30, u31, u32, u33, u34, u35, u36, u37, u38, u39, u40, u41, u42, u43, u44, u45, u46, u47, u48, u49, u50, u51, u52, u53, u54, u55, u56, u57, u58, u59, u60, u61, u62, u63, u64, .slice (some ⟨g1, 0, none⟩) (m + 1) c1, .slice (some ⟨g1, 0, none⟩) (m + 1) c1, .int .i64 (m + 1), .int .i64 m, .pointer (some ⟨g1, m, none⟩), .string (mkS a), .string (mkS a), .bool pb, u73, u74, .string (mkS tp), .slice (some ⟨g2, 0, none⟩) np c2, .int .i64 np, .int .i64 k, .bool true, .pointer (some ⟨g2, k, none⟩), .string (mkS px), .string (mkS px), .slice (some ⟨g5, 0, none⟩) 2 c5, .slice (some ⟨g5, 0, none⟩) 2 c5, .int .i64 2, .bool false, .bool false, .slice (some ⟨g5, 0, none⟩) 2 c5, .pointer (some ⟨g5, 1, none⟩), .string (mkS v), .bool false, .bool false, u93, .slice (some ⟨g5, 0, none⟩) 2 c5, .pointer (some ⟨g5, 0, none⟩), .string (mkS x), .bool true, .slice (some ⟨g5, 0, none⟩) 2 c5, .pointer (some ⟨g5, 0, none⟩), .string (mkS x), .slice (some ⟨g5, 0, none⟩) 2 c5, .pointer (some ⟨g5, 1, none⟩), .string (mkS v), .int .u8 cd, u105, u106, u107, u108, u109, undef, undef, undef, undef]) (fun _ => KP w5.drew M po) 114 (fun _ => rfl) rfl (by kernel_rfl) () rfl [15, 98, 99, 100, 101, 102, 103, 104] (by kernel_rfl) (by kernel_rfl) (KP.start _ _ _ _) ?hs ?hdone
              case hs =>
                refine ⟨StepF.of (fun b listed w1 hB hf hdep K' Q' hK' => ?_), ?_⟩
                · clear hf hdep
                  go_simp
                  refine hK'.out _ _ ⟨rfl, b, fun _ _ => rfl, fun d e => (by cases e; rfl), hB.other (by decide)⟩
                refine ⟨StepF.of (fun b listed w1 hB hf hdep K' Q' hK' => ?_), ?_⟩
                · clear hf hdep
                  go_simp
                  refine hK'.out _ _ ⟨rfl, b, fun _ _ => rfl, fun d e => (by cases e; rfl), hB.other (by decide)⟩
                refine ⟨StepF.of (fun b listed w1 hB hf hdep K' Q' hK' => ?_), ?_⟩
                · have hw := hB.ahead (.inl hf)
                  have hcx := E0.out
                  have hcx : w1.cell? ⟨g5, 0, none⟩ = some (.string (mkS x)) := by rw [hw]; exact E0.out
                  clear hf hdep hw
                  go_simp
                  refine hK'.out _ _ ⟨rfl, b, fun _ _ => rfl, fun d e => (by cases e; rfl), hB.other (by decide)⟩
                refine ⟨StepF.of (fun b listed w1 hB hf hdep K' Q' hK' => ?_), ?_⟩
                · clear hf hdep
                  go_simp
                  refine hK'.out _ _ ⟨rfl, b, fun _ _ => rfl, fun d e => (by cases e; rfl), hB.other (by decide)⟩
                refine ⟨StepF.of (fun b listed w1 hB hf hdep K' Q' hK' => ?_), ?_⟩
                · clear hf hdep
                  go_simp
                  refine hK'.out _ _ ⟨rfl, b, fun _ _ => rfl, fun d e => (by cases e; rfl), hB.other (by decide)⟩
                refine ⟨StepF.of (fun b listed w1 hB hf hdep K' Q' hK' => ?_), ?_⟩
                · have hw := hB.ahead (.inr hf)
                  have hcx := E1.out
                  have hcx : w1.cell? ⟨g5, 1, none⟩ = some (.string (mkS v)) := by rw [hw]; exact E1.out
                  clear hf hdep hw
                  go_simp
                  refine hK'.out _ _ ⟨rfl, b, fun _ _ => rfl, fun d e => (by cases e; rfl), hB.other (by decide)⟩
                refine ⟨StepF.of (fun b listed w1 hB hf hdep K' Q' hK' => ?_), ?_⟩
                · have hl2 := hdep ⟨2, .data⟩ (by simp) rfl
                  have hl5 := hdep ⟨5, .data⟩ (by simp) rfl
                  have hw := hB.2.1 (by rw [hf]; simp)
                  subst hw
                  have HF := Lib.hid hf
                  clear hdep hf
                  go_simp
                  go_at_call 58
                  refine (HPC.out _ (HP5.out.call (Below.refl _ _).drew)).mono ?_
                  rintro e w2 ⟨rfl, hq⟩
                  try dsimp only
                  refine hK'.out _ _ ⟨rfl, b, fun _ _ => rfl, fun d e => (by cases e; rfl), KP.called HF.out hl2 hl5 hq⟩
                refine ⟨StepF.of (fun b listed w1 hB hf hdep K' Q' hK' => ?_), ?_⟩
                · clear hf hdep
                  go_simp
                  refine hK'.out _ _ ⟨rfl, b, fun _ _ => rfl, fun d e => (by cases e; rfl), hB.other (by decide)⟩
                trivial
              case hdone =>
                intro b0 listed w6 hK hall
                have hq := hK.2.2 (hall 6 (by decide))
                clear hK hall
                have HQ := Lib.hid hq
                clear hq
                have hbut : But M w5 w6 := (But.of (Below.refl _ _).drew).trans HQ.out.1
                have HBU := Lib.hid hbut
                clear hbut
                cases po with
                | right r2 =>
                  have hcd : cd = 0 := HCD.out
                  subst hcd
                  have HP6 := Lib.hid (HP5.out.part HBU.out (HQ.out.2.2 r2 rfl) hN2 h2 hg2M)
                  have HRn : Hid (R = restO (ps.drop (k + 1)) r2 (b || true)) := HRv
                  clear HRv HQ
                  go_wp2
                  go_roundw
                  case rel => exact ⟨k + 1, r2, true, by omega, by go_num, rfl, Lib.hid (by rw [HRn.out]; simp), HP6⟩
                  case measure => simp [intOf]; omega
                | wrong =>
                  have hcd : cd = 1 := HCD.out
                  subst hcd
                  have HR : Hid (R = .wrong) := HRv
                  have hz6 := HBU.out.row HP5.out.zero (by omega)
                  have hbw6 : Below w.heap.size w w6 := HBU.out.below HP5.out.hb (by omega) HP5.out.hb.size
                  clear HRv HQ
                  go_wp2_with (first
                    | (refine Great.wpList_runTo rfl (some 107) rfl _ _ (run_bld26z _ _ rfl _) ?_)
                    | (refine wpList_store_row rfl 26 _ _ rfl w.heap.size ruleZ0 rfl rfl 26 _ hz6.blk (by as_aux_lemma => kernel_rfl) rfl ruleZ0_one ?_)
                    | (fail))
                  (try simp only [Exit.inBlock, Exit.then])
                  exact bodyPost_ret (results_row2 rfl _ _ w.heap.size 26 ruleZ0 (0, 0) _ rfl (setRow_heap _ _ _ _ _ _ hz6.blk) Tryz.underlying26 rfl (by as_aux_lemma => kernel_rfl)) rfl (ps_wrong HR.out rfl (below_setRow hbw6 (Nat.le_refl _) _))
                | opn =>
                  have hcd : cd = 2 := HCD.out
                  subst hcd
                  have HR : Hid (R = .opn) := HRv
                  have hz6 := HBU.out.row HP5.out.zero (by omega)
                  have hbw6 : Below w.heap.size w w6 := HBU.out.below HP5.out.hb (by omega) HP5.out.hb.size
                  clear HRv HQ
                  go_wp2_with (first
                    | (refine Great.wpList_runTo rfl (some 107) rfl _ _ (run_bld26z _ _ rfl _) ?_)
                    | (refine wpList_store_row rfl 26 _ _ rfl w.heap.size ruleZ0 rfl rfl 26 _ hz6.blk (by as_aux_lemma => kernel_rfl) rfl ruleZ0_one ?_)
                    | (fail))
                  (try simp only [Exit.inBlock, Exit.then])
                  exact bodyPost_ret (results_row2 rfl _ _ w.heap.size 26 ruleZ0 (0, 0) _ rfl (setRow_heap _ _ _ _ _ _ hz6.blk) Tryz.underlying26 rfl (by as_aux_lemma => kernel_rfl)) rfl (ps_opn HR.out rfl (below_setRow hbw6 (Nat.le_refl _) _))
        · have HR : Hid (R = .wrong) := Lib.hid (by
            rw [HRp.out, HPO.out]
            match kv, hsh with
            | [], _ => rfl
            | [x], _ => rfl
            | [x, v], hsh => exact absurd ⟨x, v, rfl⟩ hsh
            | a :: b :: c :: r, _ => rfl)
          have hk2 : ((kv.length : Int) != 2) = true := by
            rw [bne_iff_ne]
            intro e
            have e : kv.length = 2 := by omega
            obtain ⟨x, v, e⟩ := len_two e
            exact hsh ⟨x, v, e⟩
          clear hsh HRp HPO HKV
          generalize hnkv : kv.length = nk at *
          have HNK := Lib.hid hnkv
          clear hnkv
          go_wp2_with (first
            | (go_at_call 54; go_must (refine (H61.out _).mono ?_; rintro e w5 ⟨g5, c5, rfl, hg5, hrow5, hb5⟩; rw [List.length_map, HNK.out]; have hz5 := hzr.below hb5; have hbw5 := hbr.trans (hb5.mono hbr.size)))
            | (refine Great.wpList_runTo rfl (some 93) rfl _ _ (run_bld26z _ _ rfl _) ?_)
            | (refine wpList_store_row rfl 26 _ _ rfl w.heap.size ruleZ0 rfl rfl 26 _ hz5.blk (by as_aux_lemma => kernel_rfl) rfl ruleZ0_one ?_)
            | (fail))
          (try simp only [Exit.inBlock, Exit.then])
          exact bodyPost_ret (results_row2 rfl _ _ w.heap.size 26 ruleZ0 (0, 0) _ rfl (setRow_heap _ _ _ _ _ _ hz5.blk) Tryz.underlying26 rfl (by as_aux_lemma => kernel_rfl)) rfl (ps_wrong HR.out rfl (below_setRow hbw5 (Nat.le_refl _) _))
      · obtain rfl : k = np := by omega
        have HRE : Hid (R = if b then .right r else .wrong) := Lib.hid (by
          have e : ps.drop k = [] := List.drop_eq_nil_of_le (by rw [HNP.out]; omega)
          rw [HRK.out, e]; rfl)
        clear HRK
        cases b with
        | false =>
          have HR : Hid (R = .wrong) := HRE
          go_wp2_with (first
            | (refine Great.wpList_runTo rfl (some 112) rfl _ _ (run_bld26z _ _ rfl _) ?_)
            | (refine wpList_store_row rfl 26 _ _ rfl w.heap.size ruleZ0 rfl rfl 26 _ hzr.blk (by as_aux_lemma => kernel_rfl) rfl ruleZ0_one ?_)
            | (fail))
          (try simp only [Exit.inBlock, Exit.then])
          exact bodyPost_ret (results_row2 rfl _ _ w.heap.size 26 ruleZ0 (0, 0) _ rfl (setRow_heap _ _ _ _ _ _ hzr.blk) Tryz.underlying26 rfl (by as_aux_lemma => kernel_rfl)) rfl (ps_wrong HR.out rfl (below_setRow hbr (Nat.le_refl _) _))
        | true =>
          have HR : Hid (R = .right r) := HRE
          obtain ⟨cs, hcs, hsz, hone, hvr⟩ := mem_is HPK.out.mem hzr
          have HV := Lib.hid hvr
          have HSZ := Lib.hid hsz
          clear hsz hvr
          go_wp2_with (first
            | (refine wpList_load_row rfl 26 _ rfl M rfl 26 cs (0, 0) _ hcs.blk Tryz.underlying26 rfl (by rw [HSZ.out]; as_aux_lemma => kernel_rfl) ?_)
            | (refine wpList_store_row rfl 26 _ _ rfl w.heap.size cs rfl rfl 26 _ hzr.blk (by rw [HSZ.out]; as_aux_lemma => kernel_rfl) (by rw [HSZ.out]; rfl) hone ?_)
            | (fail))
          (try simp only [Exit.inBlock, Exit.then])
          exact bodyPost_ret (results_row2 rfl _ _ w.heap.size 26 cs (0, 0) _ rfl (setRow_heap _ _ _ _ _ _ hzr.blk) Tryz.underlying26 rfl (by rw [HSZ.out]; as_aux_lemma => kernel_rfl)) rfl (ps_right HR.out rfl (below_setRow hbr (Nat.le_refl _) _) HV.out)
end Go.Proofs.YtcfbkkcamiephaaGreatDoor
