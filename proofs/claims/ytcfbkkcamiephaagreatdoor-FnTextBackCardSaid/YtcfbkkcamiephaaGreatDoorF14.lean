import Derived.Test.YtcfbkkcamiephaaGreatDoorE6
import Derived.Test.YtcfbkkcamiephaaGreatDoorF8
namespace Go.Proofs.YtcfbkkcamiephaaGreatDoor
open Go.RowKit

/-! ### impl.OptionText, impl.RuleString, out of what impl.option does -/
def OptionAny : Prop := ∀ (r : RuleD) (v : Value) (w : World), RuleIs w v r → 0 ≤ r.fq ∧ r.fq ≤ 255 → r.dy.length ≤ 1000000000 →
  Calls Tryz.prog 66 #[v] w fun e w' => ∃ v', e = .returned v' ∧ OptVal w' v' (optOf r) ∧ Below w.heap.size w w'
theorem optVal_cells {w : World} {v : Value} {o : Opt} (h : OptVal w v o) : ∃ cs : Array Value, v = .agg cs ∧ cs.size = 19 ∧ cs.all (·.oneCell') = true ∧ OptIsQ (w.alloc (.cells cs 106)) w.heap.size o := by
  obtain ⟨v6, v7, v8, v9, v10, v11, v12, v13, v14, v15, rfl, hL⟩ := h
  have hal : ∀ ob, Below w.heap.size w (w.alloc ob) := fun ob => (Below.refl _ _).alloc (Nat.le_refl _) _
  have hN : OptIsQ (w.alloc (.cells #[.int .i64 o.fq, .int .i64 o.st.1, .int .i64 o.st.2, .int .i64 o.iv, .int .i64 o.wk.1, .int .i64 o.wk.2, .int .i64 o.ct, .int .i64 o.un.1, .int .i64 o.un.2, v6, v7, v8, v9, v10, v11, v12, v13, v14, v15] 106)) w.heap.size o :=
    ⟨v6, v7, v8, v9, v10, v11, v12, v13, v14, v15, ⟨heap_alloc_new w _⟩, hL.l6.below (hal _), hL.l7.below (hal _), hL.l8.below (hal _), hL.l9.below (hal _), hL.l10.below (hal _), hL.l11.below (hal _), hL.l12.below (hal _), hL.l13.below (hal _), hL.l14.below (hal _), hL.l15.below (hal _)⟩
  refine ⟨_, rfl, rfl, ?_, hN⟩
  obtain ⟨a6, n6, c6, rfl⟩ := hL.l6.form
  obtain ⟨a7, n7, c7, rfl⟩ := hL.l7.form
  obtain ⟨a8, n8, c8, rfl⟩ := hL.l8.form
  obtain ⟨a9, n9, c9, rfl⟩ := hL.l9.form
  obtain ⟨a10, n10, c10, rfl⟩ := hL.l10.form
  obtain ⟨a11, c11, rfl, _⟩ := hL.l11.form
  obtain ⟨a12, n12, c12, rfl⟩ := hL.l12.form
  obtain ⟨a13, n13, c13, rfl⟩ := hL.l13.form
  obtain ⟨a14, n14, c14, rfl⟩ := hL.l14.form
  obtain ⟨a15, n15, c15, rfl⟩ := hL.l15.form
  simp [Value.oneCell']
set_option maxRecDepth 100000 in
set_option maxHeartbeats 6400000 in
/-- impl.OptionText. -/
theorem optionText_any (hopt : OptionAny) (r : RuleD) (v : Value) (w : World) (hG : Good w) (hv : RuleIs w v r) (hf : 0 ≤ r.fq ∧ r.fq ≤ 255) (hk : OptOk (optOf r)) (hlen : r.dy.length ≤ 1000000000) :
    Calls Tryz.prog 31 #[v] w fun e w' => e = .returned (.string (mkS (optL (optOf r)))) ∧ Below w.heap.size w w' := by
  obtain ⟨cs, rfl, hcs, hc1⟩ := ruleVal_cells hv
  have hal : Below w.heap.size w (w.alloc (.cells cs 31)) := (Below.refl _ _).alloc (Nat.le_refl _) _
  have H66 := Lib.hid (hopt r (.agg cs) (w.alloc (.cells cs 31)) (hv.below hal) hf hlen)
  have hbox : (w.alloc (.cells cs 31)).heap[w.heap.size]? = some (.cells cs 31 (0, 0)) := heap_alloc_new w _
  have HBX := Lib.hid hbox
  have HCS := Lib.hid hcs
  have H67 := Lib.hid (fun (N : Nat) (w : World) (hG : Good w) (ho : OptIsQ w N (optOf r)) => optStr_any (optOf r) N w hG ho hk)
  have HAL := Lib.hid hal
  clear hbox hcs hv hk hal
  go_enter Tryz.func31, Tryz.ntmps31
  go_wp2_with (first
    | (refine wpList_load_row rfl 31 _ rfl w.heap.size rfl 31 cs (0, 0) _ HBX.out Tryz.underlying31 rfl (by rw [HCS.out]; as_aux_lemma => kernel_rfl) ?_)
    | (go_at_call 66; go_must (refine H66.out.mono ?_; rintro e w1 ⟨v', rfl, hv', hb1⟩; obtain ⟨ds, rfl, hds, hd1, hoi⟩ := optVal_cells hv'; have HOI := Lib.hid hoi; have HDS := Lib.hid hds; have hB1 := HAL.out.trans (hb1.mono HAL.out.size); clear hoi hds hv'))
    | (refine Great.wpList_runTo rfl (some 3) rfl _ _ (run_alloc106 _ _ rfl _) ?_)
    | (refine wpList_store_fresh rfl 106 _ _ rfl optZ ds rfl rfl (by rw [HDS.out]; as_aux_lemma => kernel_rfl) (by rw [HDS.out]; rfl) hd1 ?_)
    | (go_at_call 67; go_must (refine (H67.out _ _ (hG.below (hB1.alloc hB1.size _)) HOI.out).mono ?_; rintro e w2 ⟨rfl, hb2⟩)))
  go_ret
  have hB2 := hB1.alloc hB1.size (.cells ds 106)
  exact ⟨rfl, hB2.trans (hb2.mono hB2.size)⟩
end Go.Proofs.YtcfbkkcamiephaaGreatDoor
