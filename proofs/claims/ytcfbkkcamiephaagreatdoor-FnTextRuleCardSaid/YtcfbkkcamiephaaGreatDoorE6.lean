import Derived.Test.YtcfbkkcamiephaaGreatDoorF11
import Derived.Test.YtcfbkkcamiephaaGreatDoorE3
import Derived.Test.YtcfbkkcamiephaaGreatDoorP1
import Derived.Test.YtcfbkkcamiephaaGreatDoorF8
namespace Go.Proofs.YtcfbkkcamiephaaGreatDoor
open Go.RowKit

/-! ### impl.ParseOption, out of what impl.rule does -/
def RuleAny : Prop := ∀ (o : Opt) (N : Nat) (w : World), OptIs w N o → 0 ≤ o.fq ∧ o.fq ≤ 255 → o.dy.length ≤ 1000000000 →
  Calls Tryz.prog 60 #[.pointer (some ⟨N, 0, none⟩)] w fun e w' => ∃ v, e = .returned v ∧ RuleIs0 w' v (ruleOf o) ∧ Below w.heap.size w w'
theorem results_row2 {P : Program} {fn : Func} {p t : Tmp} {ty : TypeId} (h : fn.results = #[.cell p ty, .tmp t]) (tmps : Array Value) (w : World) (g : Nat) (tt : TypeId) (cs : Array Value) (fr : Nat × Nat) (d : TypeDesc)
    (hp : tmps.getD p undef = .pointer (some ⟨g, 0, none⟩)) (hg : w.heap[g]? = some (.cells cs tt fr))
    (hu : P.underlying ty = some d) (hd : (match d with | .struct _ | .array _ _ => true | _ => false) = true) (hi : (P.info? ty).map (·.size) = some cs.size) :
    (results fn tmps).run P w = .ok (.tuple #[.agg cs, tmps.getD t undef]) w := by
  have hp' : tmps[p]?.getD undef = .pointer (some ⟨g, 0, none⟩) := by simpa using hp
  simp [results, h, hp', asAddr, run_loadVar_row w g tt ty cs fr d hg hu hd hi]
theorem Tryz.blt31z : Tryz.prog.built 31 [] = some ruleZ0 := by kernel_rfl
theorem run_bld31z (ρ : Operand → Value) (o : Oper) (ho : o.op = .build 31 #[]) (w : World) : (execOp ρ o).run Tryz.prog w = .ok (.value (.agg ruleZ0)) w := by
  unfold execOp
  simp only [ho]
  simp [run_build w 31 #[] ruleZ0 Tryz.blt31z]
theorem ruleZ0_one : (ruleZ0.all fun x => x.oneCell') = true := by simp [ruleZ0, Value.oneCell']
def ParPost (w : World) (R : Option Opt) (e : Ending) (w' : World) : Prop := Below w.heap.size w w' ∧ match R with
  | none => e = .returned (.tuple #[.agg ruleZ0, .bool false])
  | some o => ∃ v, e = .returned (.tuple #[v, .bool true]) ∧ RuleIs w' v (ruleOf o)
theorem ruleVal_cells {w : World} {v : Value} {r : RuleD} (h : RuleIs w v r) : ∃ cs : Array Value, v = .agg cs ∧ cs.size = 18 ∧ cs.all (·.oneCell') = true := by
  obtain ⟨v8, v9, v10, v11, v12, v13, v14, v15, v16, v17, rfl, hR⟩ := h
  obtain ⟨a8, n8, c8, rfl⟩ := hR.l8.form
  obtain ⟨a9, n9, c9, rfl⟩ := hR.l9.form
  obtain ⟨a10, n10, c10, rfl⟩ := hR.l10.form
  obtain ⟨a11, n11, c11, rfl⟩ := hR.l11.form
  obtain ⟨a12, n12, c12, rfl⟩ := hR.l12.form
  obtain ⟨a13, c13, rfl, _⟩ := hR.l13.form
  obtain ⟨a14, n14, c14, rfl⟩ := hR.l14.form
  obtain ⟨a15, n15, c15, rfl⟩ := hR.l15.form
  obtain ⟨a16, n16, c16, rfl⟩ := hR.l16.form
  obtain ⟨a17, n17, c17, rfl⟩ := hR.l17.form
  exact ⟨_, rfl, rfl, by simp [Value.oneCell']⟩
theorem IntsV0.setRowZ {w : World} {v : Value} {xs : List Int} {B : Nat} (h : IntsV0 w v xs) (hr : RowAt w B 31 ruleZ0.toList) (c : Array Value) : IntsV0 (w.setRow B c) v xs := by
  rcases h with h | ⟨g, cap, h1, h2, h3⟩
  · exact .inl h
  · refine .inr ⟨g, cap, h1, h2, by rw [setRow_size]; exact h3.lt, fun i x hx => ?_⟩
    have hg : g ≠ B := by
      rintro rfl
      have h0 : 0 < xs.length := Nat.lt_of_le_of_lt (Nat.zero_le i) (List.getElem?_eq_some_iff.1 hx).1
      have e1 := h3.cell 0 xs[0] (by simp [h0])
      have e2 := hr.cell 0 (v := .int .u8 0) rfl
      rw [e1] at e2; simp at e2
    exact (cell_setRow_other w B c _ hg).trans (h3.cell i x hx)
theorem DaysV0.setRowZ {w : World} {v : Value} {xs : List (Int × Int)} {B : Nat} (h : DaysV0 w v xs) (hr : RowAt w B 31 ruleZ0.toList) (c : Array Value) : DaysV0 (w.setRow B c) v xs := by
  rcases h with h | ⟨g, cap, h1, h2, h3⟩
  · exact .inl h
  · refine .inr ⟨g, cap, h1, h2, by rw [setRow_size]; exact h3.lt, fun i x hx => ?_⟩
    have hg : g ≠ B := by
      rintro rfl
      have h0 : 0 < xs.length := Nat.lt_of_le_of_lt (Nat.zero_le i) (List.getElem?_eq_some_iff.1 hx).1
      have e1 := (h3.cell 0 xs[0] (by simp [h0])).1
      have e2 := hr.cell 0 (v := .int .u8 0) rfl
      rw [Nat.zero_mul, e2] at e1; simp at e1
    exact ⟨(cell_setRow_other w B c _ hg).trans (h3.cell i x hx).1, (cell_setRow_other w B c _ hg).trans (h3.cell i x hx).2⟩
theorem RuleIs0.setRowZ {w : World} {v : Value} {r : RuleD} {B : Nat} (h : RuleIs0 w v r) (hr : RowAt w B 31 ruleZ0.toList) (c : Array Value) : RuleIs0 (w.setRow B c) v r := by
  obtain ⟨v8, v9, v10, v11, v12, v13, v14, v15, v16, v17, e, hR⟩ := h
  exact ⟨v8, v9, v10, v11, v12, v13, v14, v15, v16, v17, e, hR.l8.setRowZ hr c, hR.l9.setRowZ hr c, hR.l10.setRowZ hr c, hR.l11.setRowZ hr c, hR.l12.setRowZ hr c, hR.l13.setRowZ hr c, hR.l14.setRowZ hr c, hR.l15.setRowZ hr c, hR.l16.setRowZ hr c, hR.l17.setRowZ hr c⟩
set_option maxRecDepth 100000 in
set_option maxHeartbeats 6400000 in
theorem parse21_none (l : List UInt8) (w : World) (hG : Good w) (h : Hid (∀ w, Good w → Calls Tryz.prog 59 #[.string (mkS l)] w (OptPost w none))) :
    Calls Tryz.prog 21 #[.string (mkS l)] w (ParPost w none) := by
  have hG2 := hG.alloc (.cells ruleZ0 31)
  have hb0 : Below w.heap.size w (w.alloc (.cells ruleZ0 31)) := (Below.refl _ _).alloc (Nat.le_refl _) _
  have hr0 : RowAt (w.alloc (.cells ruleZ0 31)) w.heap.size 31 ruleZ0.toList := ⟨heap_alloc_new w _⟩
  have HR0 := Lib.hid hr0; clear hr0
  go_enter Tryz.func21, Tryz.ntmps21
  go_wp2_with (first
    | (refine Great.wpList_runTo rfl (some 2) rfl _ _ (run_al31 _ _ rfl _) ?_)
    | (go_at_call 59; go_must (refine (h.out _ hG2).mono ?_; rintro e w1 ⟨hb1, T, p, rfl⟩; have hr1 := HR0.out.below hb1))
    | (refine Great.wpList_runTo rfl (some 13) rfl _ _ (run_bld31z _ _ rfl _) ?_)
    | (refine wpList_store_row rfl 31 _ _ rfl w.heap.size ruleZ0 rfl rfl 31 _ hr1.blk (by as_aux_lemma => kernel_rfl) rfl ruleZ0_one ?_))
  have hB1 : Below w.heap.size w w1 := hb0.trans (hb1.mono hb0.size)
  exact bodyPost_ret (results_row2 rfl _ _ w.heap.size 31 _ (0, 0) _ rfl (setRow_heap _ _ _ _ _ _ hr1.blk) Tryz.underlying31 rfl (by as_aux_lemma => kernel_rfl)) rfl ⟨below_setRow hB1 (Nat.le_refl _) _, rfl⟩
set_option maxRecDepth 100000 in
set_option maxHeartbeats 6400000 in
theorem parse21_some (l : List UInt8) (o : Opt) (w : World) (hG : Good w) (h : Hid (∀ w, Good w → Calls Tryz.prog 59 #[.string (mkS l)] w (OptPost w (some o))))
    (h60 : Hid (∀ (N : Nat) (w : World), OptIs w N o → Calls Tryz.prog 60 #[.pointer (some ⟨N, 0, none⟩)] w fun e w' => ∃ v, e = .returned v ∧ RuleIs0 w' v (ruleOf o) ∧ Below w.heap.size w w')) :
    Calls Tryz.prog 21 #[.string (mkS l)] w (ParPost w (some o)) := by
  have hG2 := hG.alloc (.cells ruleZ0 31)
  have hb0 : Below w.heap.size w (w.alloc (.cells ruleZ0 31)) := (Below.refl _ _).alloc (Nat.le_refl _) _
  have hr0 : RowAt (w.alloc (.cells ruleZ0 31)) w.heap.size 31 ruleZ0.toList := ⟨heap_alloc_new w _⟩
  have HR0 := Lib.hid hr0; clear hr0
  go_enter Tryz.func21, Tryz.ntmps21
  go_wp2_with (first
    | (refine Great.wpList_runTo rfl (some 2) rfl _ _ (run_al31 _ _ rfl _) ?_)
    | (go_at_call 59; go_must (refine (h.out _ hG2).mono ?_; rintro e w1 ⟨hb1, N, rfl, ho⟩; have hr1 := Lib.hid (HR0.out.below hb1); have hO := Lib.hid ho; clear ho))
    | (go_at_call 60; go_must (refine (h60.out N _ hO.out).mono ?_; rintro e w2 ⟨v, rfl, hv, hb2⟩; obtain ⟨cs, rfl, hcs, hc1⟩ := ruleVal_cells hv.q; have hV := Lib.hid hv; have HCS := Lib.hid hcs; clear hv hcs; have hr2 := Lib.hid (hr1.out.below hb2)))
    | (refine wpList_store_row rfl 31 _ _ rfl w.heap.size cs rfl rfl 31 _ hr2.out.blk (by rw [HCS.out]; as_aux_lemma => kernel_rfl) (by rw [HCS.out]; rfl) hc1 ?_))
  have hB1 : Below w.heap.size w w1 := hb0.trans (hb1.mono hb0.size)
  have hB2 : Below w.heap.size w w2 := hB1.trans (hb2.mono hB1.size)
  exact bodyPost_ret (results_row2 rfl _ _ w.heap.size 31 _ (0, 0) _ rfl (setRow_heap _ _ _ _ _ _ hr2.out.blk) Tryz.underlying31 rfl (by rw [HCS.out]; as_aux_lemma => kernel_rfl)) rfl ⟨below_setRow hB2 (Nat.le_refl _) _, _, rfl, (hV.out.setRowZ hr2.out _).q⟩
/-- impl.ParseOption. -/
theorem parse21_any (hrule : RuleAny) (l : List UInt8) (w : World) (hG : Good w) (hl : l.length ≤ 1000000) : Calls Tryz.prog 21 #[.string (mkS l)] w (ParPost w (optT l)) := by
  have h := fun w hG => opt59_any l w hG hl
  cases hR : optT l with
  | none => rw [hR] at h; exact parse21_none l w hG (Lib.hid h)
  | some o =>
    rw [hR] at h
    have hrd := optT_rd l o hR
    exact parse21_some l o w hG (Lib.hid h) (Lib.hid fun N w ho => hrule o N w ho ⟨hrd.fq.1, by have := hrd.fq.2; omega⟩ (by have := hrd.dy; omega))
end Go.Proofs.YtcfbkkcamiephaaGreatDoor
namespace Go.Proofs.YtcfbkkcamiephaaGreatDoor
open Go.RowKit

/-! ### impl.OptionText, impl.RuleString, out of what impl.option does -/
def OptionAny : Prop := ∀ (r : RuleD) (v : Value) (w : World), RuleIs w v r → 0 ≤ r.fq ∧ r.fq ≤ 255 → r.dy.length ≤ 1000000000 →
  Calls Tryz.prog 66 #[v] w fun e w' => ∃ v', e = .returned v' ∧ OptVal w' v' (optOf r) ∧ Below w.heap.size w w'
theorem optVal_cells {w : World} {v : Value} {o : Opt} (h : OptVal w v o) : ∃ cs : Array Value, v = .agg cs ∧ cs.size = 19 ∧ cs.all (·.oneCell') = true ∧ OptIsQ (w.alloc (.cells cs 106)) w.heap.size o := by
  obtain ⟨v6, v7, v8, v9, v10, v11, v12, v13, v14, v15, rfl, hL⟩ := h
  have hal : ∀ ob, Below w.heap.size w (w.alloc ob) := fun ob => (Below.refl _ _).alloc (Nat.le_refl _) _
  have hN : OptIsQ (w.alloc (.cells #[.int .i64 o.fq, .int .i64 o.st.1, .int .i64 o.st.2, .int .i64 o.iv, .int .i64 o.wk.1, .int .i64 o.wk.2, .int .i64 o.ct, .int .i64 o.un.1, .int .i64 o.un.2, v6, v7, v8, v9, v10, v11, v12, v13, v14, v15] 106)) w.heap.size o :=
    ⟨v6, v7, v8, v9, v10, v11, v12, v13, v14, v15, ⟨heap_alloc_new w _⟩, hL.l6.below (hal _), hL.l7.below (hal _), hL.l8.below (hal _), hL.l9.below (hal _), hL.l10.below (hal _), hL.l11.below (hal _), hL.l12.below (hal _), hL.l13.below (hal _), hL.l14.below (hal _), hL.l15.below (hal _)⟩
  refine ⟨_, rfl, rfl, ?_, hN⟩
  obtain ⟨a6, n6, c6, rfl⟩ := hL.l6.form
  obtain ⟨a7, n7, c7, rfl⟩ := hL.l7.form
  obtain ⟨a8, n8, c8, rfl⟩ := hL.l8.form
  obtain ⟨a9, n9, c9, rfl⟩ := hL.l9.form
  obtain ⟨a10, n10, c10, rfl⟩ := hL.l10.form
  obtain ⟨a11, c11, rfl, _⟩ := hL.l11.form
  obtain ⟨a12, n12, c12, rfl⟩ := hL.l12.form
  obtain ⟨a13, n13, c13, rfl⟩ := hL.l13.form
  obtain ⟨a14, n14, c14, rfl⟩ := hL.l14.form
  obtain ⟨a15, n15, c15, rfl⟩ := hL.l15.form
  simp [Value.oneCell']
set_option maxRecDepth 100000 in
set_option maxHeartbeats 6400000 in
/-- impl.OptionText. -/
theorem optionText_any (hopt : OptionAny) (r : RuleD) (v : Value) (w : World) (hG : Good w) (hv : RuleIs w v r) (hf : 0 ≤ r.fq ∧ r.fq ≤ 255) (hk : OptOk (optOf r)) (hlen : r.dy.length ≤ 1000000000) :
    Calls Tryz.prog 31 #[v] w fun e w' => e = .returned (.string (mkS (optL (optOf r)))) ∧ Below w.heap.size w w' := by
  obtain ⟨cs, rfl, hcs, hc1⟩ := ruleVal_cells hv
  have hal : Below w.heap.size w (w.alloc (.cells cs 31)) := (Below.refl _ _).alloc (Nat.le_refl _) _
  have H66 := Lib.hid (hopt r (.agg cs) (w.alloc (.cells cs 31)) (hv.below hal) hf hlen)
  have hbox : (w.alloc (.cells cs 31)).heap[w.heap.size]? = some (.cells cs 31 (0, 0)) := heap_alloc_new w _
  have HBX := Lib.hid hbox
  have HCS := Lib.hid hcs
  have H67 := Lib.hid (fun (N : Nat) (w : World) (hG : Good w) (ho : OptIsQ w N (optOf r)) => optStr_any (optOf r) N w hG ho hk)
  have HAL := Lib.hid hal
  clear hbox hcs hv hk hal
  go_enter Tryz.func31, Tryz.ntmps31
  go_wp2_with (first
    | (refine wpList_load_row rfl 31 _ rfl w.heap.size rfl 31 cs (0, 0) _ HBX.out Tryz.underlying31 rfl (by rw [HCS.out]; as_aux_lemma => kernel_rfl) ?_)
    | (go_at_call 66; go_must (refine H66.out.mono ?_; rintro e w1 ⟨v', rfl, hv', hb1⟩; obtain ⟨ds, rfl, hds, hd1, hoi⟩ := optVal_cells hv'; have HOI := Lib.hid hoi; have HDS := Lib.hid hds; have hB1 := HAL.out.trans (hb1.mono HAL.out.size); clear hoi hds hv'))
    | (refine Great.wpList_runTo rfl (some 3) rfl _ _ (run_alloc106 _ _ rfl _) ?_)
    | (refine wpList_store_fresh rfl 106 _ _ rfl optZ ds rfl rfl (by rw [HDS.out]; as_aux_lemma => kernel_rfl) (by rw [HDS.out]; rfl) hd1 ?_)
    | (go_at_call 67; go_must (refine (H67.out _ _ (hG.below (hB1.alloc hB1.size _)) HOI.out).mono ?_; rintro e w2 ⟨rfl, hb2⟩)))
  go_ret
  have hB2 := hB1.alloc hB1.size (.cells ds 106)
  exact ⟨rfl, hB2.trans (hb2.mono hB2.size)⟩
end Go.Proofs.YtcfbkkcamiephaaGreatDoor
