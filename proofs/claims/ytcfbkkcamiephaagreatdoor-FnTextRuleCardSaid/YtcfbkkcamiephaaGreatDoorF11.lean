import Derived.Test.YtcfbkkcamiephaaGreatDoorF10
namespace Go.Proofs.YtcfbkkcamiephaaGreatDoor
open Go.RowKit

/-! ### toRule -/
theorem Tryz.inf31 : (Tryz.prog.info? 31).map (fun i => (i.zero, i.size)) = some (some (.agg ruleZ0), 18) := by kernel_rfl
theorem run_al31 (ρ : Operand → Value) (o : Oper) (ho : o.op = .alloc 31) (w : World) : (execOp ρ o).run Tryz.prog w = .ok (.value (.pointer (some ⟨w.heap.size, 0, none⟩))) (w.alloc (.cells ruleZ0 31)) := by
  have hz := (zero_of_info Tryz.inf31).1
  unfold execOp
  simp only [ho]
  simp [hz, newVar, newRow, Value.cells, go_sem]
theorem Tryz.blt31 (f : Int) (hs : Bool) (st iv wk ct : Int) (hu : Bool) (un : Int) (a8 a9 a10 a11 a12 a14 a15 a16 a17 : Option Addr) (n8 n9 n10 n11 n12 n14 n15 n16 n17 c8 c9 c10 c11 c12 c14 c15 c16 c17 : Nat) : Tryz.prog.built 31 [(0, .int .u8 f), (1, .bool hs), (2, .int .i64 st), (3, .int .i64 iv), (4, .int .i64 wk), (5, .int .i64 ct), (6, .bool hu), (7, .int .i64 un), (8, .slice a8 n8 c8), (9, .slice a9 n9 c9), (10, .slice a10 n10 c10), (11, .slice a11 n11 c11), (12, .slice a12 n12 c12), (14, .slice a14 n14 c14), (15, .slice a15 n15 c15), (16, .slice a16 n16 c16), (17, .slice a17 n17 c17)] = some #[.int .u8 f, .bool hs, .int .i64 st, .int .i64 iv, .int .i64 wk, .int .i64 ct, .bool hu, .int .i64 un, .slice a8 n8 c8, .slice a9 n9 c9, .slice a10 n10 c10, .slice a11 n11 c11, .slice a12 n12 c12, .slice none 0 0, .slice a14 n14 c14, .slice a15 n15 c15, .slice a16 n16 c16, .slice a17 n17 c17] := by kernel_rfl
def prts32 : Array (Nat × Operand) := #[(0, .tmp 7), (1, .tmp 9), (2, .tmp 11), (3, .tmp 13), (4, .tmp 15), (5, .tmp 17), (6, .tmp 19), (7, .tmp 21), (8, .tmp 23), (9, .tmp 25), (10, .tmp 27), (11, .tmp 29), (12, .tmp 31), (14, .tmp 33), (15, .tmp 35), (16, .tmp 37), (17, .tmp 39)]
theorem run_bld31 (ρ : Operand → Value) (o : Oper) (ho : o.op = .build 31 prts32) {f : Int} {hs : Bool} {st iv wk ct : Int} {hu : Bool} {un : Int} {a8 a9 a10 a11 a12 a14 a15 a16 a17 : Option Addr} {n8 n9 n10 n11 n12 n14 n15 n16 n17 c8 c9 c10 c11 c12 c14 c15 c16 c17 : Nat}
    (h0 : ρ (.tmp 7) = .int .u8 f) (h1 : ρ (.tmp 9) = .bool hs) (h2 : ρ (.tmp 11) = .int .i64 st) (h3 : ρ (.tmp 13) = .int .i64 iv) (h4 : ρ (.tmp 15) = .int .i64 wk) (h5 : ρ (.tmp 17) = .int .i64 ct) (h6 : ρ (.tmp 19) = .bool hu) (h7 : ρ (.tmp 21) = .int .i64 un) (h8 : ρ (.tmp 23) = .slice a8 n8 c8) (h9 : ρ (.tmp 25) = .slice a9 n9 c9) (h10 : ρ (.tmp 27) = .slice a10 n10 c10) (h11 : ρ (.tmp 29) = .slice a11 n11 c11) (h12 : ρ (.tmp 31) = .slice a12 n12 c12) (h14 : ρ (.tmp 33) = .slice a14 n14 c14) (h15 : ρ (.tmp 35) = .slice a15 n15 c15) (h16 : ρ (.tmp 37) = .slice a16 n16 c16) (h17 : ρ (.tmp 39) = .slice a17 n17 c17) (w : World) :
    (execOp ρ o).run Tryz.prog w = .ok (.value (.agg #[.int .u8 f, .bool hs, .int .i64 st, .int .i64 iv, .int .i64 wk, .int .i64 ct, .bool hu, .int .i64 un, .slice a8 n8 c8, .slice a9 n9 c9, .slice a10 n10 c10, .slice a11 n11 c11, .slice a12 n12 c12, .slice none 0 0, .slice a14 n14 c14, .slice a15 n15 c15, .slice a16 n16 c16, .slice a17 n17 c17])) w := by
  unfold execOp
  simp only [ho]
  have hm : (prts32.map fun (i, x) => (i, ρ x)) = #[(0, .int .u8 f), (1, .bool hs), (2, .int .i64 st), (3, .int .i64 iv), (4, .int .i64 wk), (5, .int .i64 ct), (6, .bool hu), (7, .int .i64 un), (8, .slice a8 n8 c8), (9, .slice a9 n9 c9), (10, .slice a10 n10 c10), (11, .slice a11 n11 c11), (12, .slice a12 n12 c12), (14, .slice a14 n14 c14), (15, .slice a15 n15 c15), (16, .slice a16 n16 c16), (17, .slice a17 n17 c17)] := by
    simp [prts32, h0, h1, h2, h3, h4, h5, h6, h7, h8, h9, h10, h11, h12, h14, h15, h16, h17]
  rw [hm]
  simp [run_build w 31 _ _ (Tryz.blt31 f hs st iv wk ct hu un a8 a9 a10 a11 a12 a14 a15 a16 a17 n8 n9 n10 n11 n12 n14 n15 n16 n17 c8 c9 c10 c11 c12 c14 c15 c16 c17)]
theorem Tryz.inf61d : (Tryz.prog.info? 61).map (fun i => (i.zero, i.size, i.bytes)) = some (some (.agg #[.int .i64 0, .int .i64 0]), 2, 16) := by kernel_rfl
set_option maxRecDepth 100000 in
set_option maxHeartbeats 25600000 in
theorem conv32 (r : RuleD) (v : Value) (w : World) (hv : RuleIs w v r) (hlen : r.dy.length ≤ 1000000000) :
    Calls Tryz.prog 32 #[v] w fun e w' => ∃ v', e = .returned v' ∧ RuleIs w' v' r ∧ Below w.heap.size w w' := by
  obtain ⟨v8, v9, v10, v11, v12, v13, v14, v15, v16, v17, rfl, hR⟩ := hv
  obtain ⟨a8, n8, c8, rfl⟩ := hR.l8.form
  obtain ⟨a9, n9, c9, rfl⟩ := hR.l9.form
  obtain ⟨a10, n10, c10, rfl⟩ := hR.l10.form
  obtain ⟨a11, n11, c11, rfl⟩ := hR.l11.form
  obtain ⟨a12, n12, c12, rfl⟩ := hR.l12.form
  obtain ⟨a14, n14, c14, rfl⟩ := hR.l14.form
  obtain ⟨a15, n15, c15, rfl⟩ := hR.l15.form
  obtain ⟨a16, n16, c16, rfl⟩ := hR.l16.form
  obtain ⟨a17, n17, c17, rfl⟩ := hR.l17.form
  obtain ⟨a13, c13, rfl, hdy⟩ := hR.l13.form
  have HR := Lib.hid hR; clear hR
  have HDY := Lib.hid hdy; clear hdy
  obtain ⟨f, hs, st, iv, wk, ct, hu, un, sp, mo, md, yd, wn, dy, ho, mi, se, ea⟩ := r
  simp only at hlen
  unfold ruleVal
  simp only
  go_enter Tryz.func32, Tryz.ntmps32
  go_upto_region 2 with (first
    | (refine Great.wpList_runTo rfl (some 40) rfl _ _ (run_bld31 _ _ rfl rfl rfl rfl rfl rfl rfl rfl rfl rfl rfl rfl rfl rfl rfl rfl rfl rfl _) ?_)
    | (refine Great.wpList_runTo rfl (some 3) rfl _ _ (run_al31 _ _ rfl _) ?_)
    | (refine Great.wpList_runTo rfl (some 2) rfl _ _ (run_al31 _ _ rfl _) ?_)
    | (refine wpList_store_fresh rfl 31 _ _ rfl ruleZ0 #[.int .u8 f, .bool hs, .int .i64 st, .int .i64 iv, .int .i64 wk, .int .i64 ct, .bool hu, .int .i64 un, .slice a8 n8 c8, .slice a9 n9 c9, .slice a10 n10 c10, .slice a11 n11 c11, .slice a12 n12 c12, .slice none 0 0, .slice a14 n14 c14, .slice a15 n15 c15, .slice a16 n16 c16, .slice a17 n17 c17] rfl rfl (by as_aux_lemma => kernel_rfl) rfl (by simp [Value.oneCell']) ?_))
  obtain ⟨hbox, hrR, hrb, hb3, hz3⟩ := three_rows w #[.int .u8 f, .bool hs, .int .i64 st, .int .i64 iv, .int .i64 wk, .int .i64 ct, .bool hu, .int .i64 un, .slice a8 n8 c8, .slice a9 n9 c9, .slice a10 n10 c10, .slice a11 n11 c11, .slice a12 n12 c12, .slice a13 dy.length c13, .slice a14 n14 c14, .slice a15 n15 c15, .slice a16 n16 c16, .slice a17 n17 c17] ruleZ0 #[.int .u8 f, .bool hs, .int .i64 st, .int .i64 iv, .int .i64 wk, .int .i64 ct, .bool hu, .int .i64 un, .slice a8 n8 c8, .slice a9 n9 c9, .slice a10 n10 c10, .slice a11 n11 c11, .slice a12 n12 c12, .slice none 0 0, .slice a14 n14 c14, .slice a15 n15 c15, .slice a16 n16 c16, .slice a17 n17 c17] 26 31 31
  generalize ((w.alloc (.cells #[.int .u8 f, .bool hs, .int .i64 st, .int .i64 iv, .int .i64 wk, .int .i64 ct, .bool hu, .int .i64 un, .slice a8 n8 c8, .slice a9 n9 c9, .slice a10 n10 c10, .slice a11 n11 c11, .slice a12 n12 c12, .slice a13 dy.length c13, .slice a14 n14 c14, .slice a15 n15 c15, .slice a16 n16 c16, .slice a17 n17 c17] 26)).alloc (.cells ruleZ0 31)).alloc (.cells #[.int .u8 f, .bool hs, .int .i64 st, .int .i64 iv, .int .i64 wk, .int .i64 ct, .bool hu, .int .i64 un, .slice a8 n8 c8, .slice a9 n9 c9, .slice a10 n10 c10, .slice a11 n11 c11, .slice a12 n12 c12, .slice none 0 0, .slice a14 n14 c14, .slice a15 n15 c15, .slice a16 n16 c16, .slice a17 n17 c17] 31) = W3 at *
  have hcx := hbox.cell 13 (v := .slice a13 dy.length c13) rfl
  have hz3' : w.heap.size + 3 ≤ W3.heap.size := by omega
  clear hbox hz3
  go_wp2_with fail
  go_loopw [44] (fun i wr => ∃ (k : Nat) (v : Value), k ≤ dy.length ∧ i = .int .i64 k ∧ RowAt wr (w.heap.size + 1 + 1) 31 [.int .u8 f, .bool hs, .int .i64 st, .int .i64 iv, .int .i64 wk, .int .i64 ct, .bool hu, .int .i64 un, .slice a8 n8 c8, .slice a9 n9 c9, .slice a10 n10 c10, .slice a11 n11 c11, .slice a12 n12 c12, v, .slice a14 n14 c14, .slice a15 n15 c15, .slice a16 n16 c16, .slice a17 n17 c17] ∧ RowAt wr (w.heap.size + 1) 31 ruleZ0.toList ∧ wr.ownsRow (w.heap.size + 3) 61 2 v k (flat2 (dy.take k)) ∧ w.heap.size + 3 ≤ wr.heap.size ∧ Below w.heap.size w wr) (fun i _ => dy.length - (intOf i).toNat)
  case atStart => exact ⟨0, _, by omega, rfl, hrb, hrR, World.ownsRow_nil _ _ _ _, hz3', hb3⟩
  case round =>
    clear hrb hrR hb3 hz3' hcx
    obtain ⟨k, v, hk, rfl, hrb, hrR, hown, hsz, hb⟩ := hrel
    obtain ⟨va, vn, vc, rfl⟩ := own_form hown
    by_cases hlt : k < dy.length
    · obtain ⟨g, gq, rfl, hdr0⟩ : ∃ g gq, a13 = some ⟨g, gq, none⟩ ∧ DayRowQ w g gq dy := by
        rcases HDY.out with h | h
        · rw [h] at hlt; simp at hlt
        · exact h
      have hdr := hdr0.below hb
      have hgl := hdr0.lt
      clear hdr0
      obtain ⟨hcd, hcn⟩ := hdr.cell k dy[k] (by simp [hlt])
      have hsn := flat2_snoc dy k hlt
      generalize dy[k] = p at hcd hcn hsn
      obtain ⟨d, n⟩ := p
      simp only at hcd hcn hsn
      have HSN := Lib.hid hsn; clear hsn
      have hcv := hrb.cell 13 (v := .slice va vn vc) rfl
      have hcf := hrb.frozen 13
      have hal : Below wr.heap.size wr (wr.alloc (.cells #[.int .i64 d, .int .i64 n] 59)) := (Below.refl _ _).alloc (Nat.le_refl _) _
      have hcva := (hrb.below hal).cell 13 (v := .slice va vn vc) rfl
      clear hal
      have hOW : Hid ((wr.alloc (.cells #[.int .i64 d, .int .i64 n] 59)).ownsRow (w.heap.size + 3) 61 2 (.slice va vn vc) k (flat2 (dy.take k))) := hown.alloc _
      have hBW : Hid (Below (w.heap.size + 3) wr (wr.alloc (.cells #[.int .i64 d, .int .i64 n] 59))) := (Below.refl _ _).alloc hsz _
      have hZW : w.heap.size + 3 ≤ (wr.alloc (.cells #[.int .i64 d, .int .i64 n] 59)).heap.size := by simp; omega
      have hRB := Lib.hid hrb
      have hRR := Lib.hid hrR
      clear hown hrb hrR
      go_wp2_with (at_builtin; go_must (refine app2 (w.heap.size + 3) _ _ 29 (.agg #[.int .i64 0, .int .i64 0]) 16 Tryz.underlying29 Tryz.inf61d rfl hOW.out hBW.out hZW (by omega) (by omega) rfl rfl rfl rfl (by simp) ?_); intro v1 w1 hown1 hb1 hsz1; obtain ⟨va1, vn1, vc1, rfl⟩ := own_form hown1; have hrb1 := (hRB.out.belowB hb1 (by omega)).cell 13 (v := .slice va vn vc) rfl; have hrf1 := (hRB.out.belowB hb1 (by omega)).frozen 13)
      go_roundw
      case rel =>
        refine ⟨k + 1, _, by omega, by go_num, (hRB.out.belowB hb1 (by omega)).set 13 _, (hRR.out.belowB hb1 (by omega)).setOther (by omega) _ _, ?_, ?_, ?_⟩
        · rw [HSN.out]; exact ownsRow_setCell_below hown1 (by show w.heap.size + 1 + 1 < _; omega) _
        · have := hb1.size; simp [World.setCell]; omega
        · exact (hb.trans (hb1.mono (by omega))).setCell (by show w.heap.size ≤ w.heap.size + 1 + 1; omega) _
      case measure => simp [intOf]; omega
    · obtain rfl : k = dy.length := by omega
      rw [List.take_length] at hown
      have hOWN := Lib.hid hown; clear hown
      go_wp2_with (first
        | (refine wpList_load_row rfl 31 _ rfl (w.heap.size + 1 + 1) rfl 31 _ (0, 0) _ hrb.blk Tryz.underlying31 rfl (by as_aux_lemma => kernel_rfl) ?_)
        | (refine wpList_store_row rfl 31 _ _ rfl (w.heap.size + 1) _ rfl rfl 31 _ hrR.blk (by as_aux_lemma => kernel_rfl) rfl (by simp [Value.oneCell']) ?_))
      refine bodyPost_ret (results_cell_row rfl _ _ (w.heap.size + 1) 31 _ (0, 0) _ rfl (setRow_heap _ _ _ _ _ _ hrR.blk) Tryz.underlying31 rfl (by as_aux_lemma => kernel_rfl)) rfl ⟨_, rfl, ⟨_, _, _, _, _, _, _, _, _, _, rfl, ?_⟩, ?_⟩
      · have hB := below_setRow hb (g := w.heap.size + 1) (by omega) #[.int .u8 f, .bool hs, .int .i64 st, .int .i64 iv, .int .i64 wk, .int .i64 ct, .bool hu, .int .i64 un, .slice a8 n8 c8, .slice a9 n9 c9, .slice a10 n10 c10, .slice a11 n11 c11, .slice a12 n12 c12, .slice va vn vc, .slice a14 n14 c14, .slice a15 n15 c15, .slice a16 n16 c16, .slice a17 n17 c17]
        have hA := HR.out.below hB
        exact ⟨hA.l8, hA.l9, hA.l10, hA.l11, hA.l12, days_own (own_setRow hOWN.out (by omega) _), hA.l14, hA.l15, hA.l16, hA.l17⟩
      · exact below_setRow hb (by omega) _
end Go.Proofs.YtcfbkkcamiephaaGreatDoor
namespace Go.Proofs.YtcfbkkcamiephaaGreatDoor
open Go.RowKit

/-! ### ofRule -/
theorem Tryz.inf26 : (Tryz.prog.info? 26).map (fun i => (i.zero, i.size)) = some (some (.agg ruleZ0), 18) := by kernel_rfl
theorem run_al26 (ρ : Operand → Value) (o : Oper) (ho : o.op = .alloc 26) (w : World) : (execOp ρ o).run Tryz.prog w = .ok (.value (.pointer (some ⟨w.heap.size, 0, none⟩))) (w.alloc (.cells ruleZ0 26)) := by
  have hz := (zero_of_info Tryz.inf26).1
  unfold execOp
  simp only [ho]
  simp [hz, newVar, newRow, Value.cells, go_sem]
theorem Tryz.blt26 (f : Int) (hs : Bool) (st iv wk ct : Int) (hu : Bool) (un : Int) (a8 a9 a10 a11 a12 a14 a15 a16 a17 : Option Addr) (n8 n9 n10 n11 n12 n14 n15 n16 n17 c8 c9 c10 c11 c12 c14 c15 c16 c17 : Nat) : Tryz.prog.built 26 [(0, .int .u8 f), (1, .bool hs), (2, .int .i64 st), (3, .int .i64 iv), (4, .int .i64 wk), (5, .int .i64 ct), (6, .bool hu), (7, .int .i64 un), (8, .slice a8 n8 c8), (9, .slice a9 n9 c9), (10, .slice a10 n10 c10), (11, .slice a11 n11 c11), (12, .slice a12 n12 c12), (14, .slice a14 n14 c14), (15, .slice a15 n15 c15), (16, .slice a16 n16 c16), (17, .slice a17 n17 c17)] = some #[.int .u8 f, .bool hs, .int .i64 st, .int .i64 iv, .int .i64 wk, .int .i64 ct, .bool hu, .int .i64 un, .slice a8 n8 c8, .slice a9 n9 c9, .slice a10 n10 c10, .slice a11 n11 c11, .slice a12 n12 c12, .slice none 0 0, .slice a14 n14 c14, .slice a15 n15 c15, .slice a16 n16 c16, .slice a17 n17 c17] := by kernel_rfl
def prts23 : Array (Nat × Operand) := #[(0, .tmp 7), (1, .tmp 9), (2, .tmp 11), (3, .tmp 13), (4, .tmp 15), (5, .tmp 17), (6, .tmp 19), (7, .tmp 21), (8, .tmp 23), (9, .tmp 25), (10, .tmp 27), (11, .tmp 29), (12, .tmp 31), (14, .tmp 33), (15, .tmp 35), (16, .tmp 37), (17, .tmp 39)]
theorem run_bld26 (ρ : Operand → Value) (o : Oper) (ho : o.op = .build 26 prts23) {f : Int} {hs : Bool} {st iv wk ct : Int} {hu : Bool} {un : Int} {a8 a9 a10 a11 a12 a14 a15 a16 a17 : Option Addr} {n8 n9 n10 n11 n12 n14 n15 n16 n17 c8 c9 c10 c11 c12 c14 c15 c16 c17 : Nat}
    (h0 : ρ (.tmp 7) = .int .u8 f) (h1 : ρ (.tmp 9) = .bool hs) (h2 : ρ (.tmp 11) = .int .i64 st) (h3 : ρ (.tmp 13) = .int .i64 iv) (h4 : ρ (.tmp 15) = .int .i64 wk) (h5 : ρ (.tmp 17) = .int .i64 ct) (h6 : ρ (.tmp 19) = .bool hu) (h7 : ρ (.tmp 21) = .int .i64 un) (h8 : ρ (.tmp 23) = .slice a8 n8 c8) (h9 : ρ (.tmp 25) = .slice a9 n9 c9) (h10 : ρ (.tmp 27) = .slice a10 n10 c10) (h11 : ρ (.tmp 29) = .slice a11 n11 c11) (h12 : ρ (.tmp 31) = .slice a12 n12 c12) (h14 : ρ (.tmp 33) = .slice a14 n14 c14) (h15 : ρ (.tmp 35) = .slice a15 n15 c15) (h16 : ρ (.tmp 37) = .slice a16 n16 c16) (h17 : ρ (.tmp 39) = .slice a17 n17 c17) (w : World) :
    (execOp ρ o).run Tryz.prog w = .ok (.value (.agg #[.int .u8 f, .bool hs, .int .i64 st, .int .i64 iv, .int .i64 wk, .int .i64 ct, .bool hu, .int .i64 un, .slice a8 n8 c8, .slice a9 n9 c9, .slice a10 n10 c10, .slice a11 n11 c11, .slice a12 n12 c12, .slice none 0 0, .slice a14 n14 c14, .slice a15 n15 c15, .slice a16 n16 c16, .slice a17 n17 c17])) w := by
  unfold execOp
  simp only [ho]
  have hm : (prts23.map fun (i, x) => (i, ρ x)) = #[(0, .int .u8 f), (1, .bool hs), (2, .int .i64 st), (3, .int .i64 iv), (4, .int .i64 wk), (5, .int .i64 ct), (6, .bool hu), (7, .int .i64 un), (8, .slice a8 n8 c8), (9, .slice a9 n9 c9), (10, .slice a10 n10 c10), (11, .slice a11 n11 c11), (12, .slice a12 n12 c12), (14, .slice a14 n14 c14), (15, .slice a15 n15 c15), (16, .slice a16 n16 c16), (17, .slice a17 n17 c17)] := by
    simp [prts23, h0, h1, h2, h3, h4, h5, h6, h7, h8, h9, h10, h11, h12, h14, h15, h16, h17]
  rw [hm]
  simp [run_build w 26 _ _ (Tryz.blt26 f hs st iv wk ct hu un a8 a9 a10 a11 a12 a14 a15 a16 a17 n8 n9 n10 n11 n12 n14 n15 n16 n17 c8 c9 c10 c11 c12 c14 c15 c16 c17)]
theorem Tryz.inf59d : (Tryz.prog.info? 59).map (fun i => (i.zero, i.size, i.bytes)) = some (some (.agg #[.int .i64 0, .int .i64 0]), 2, 16) := by kernel_rfl
set_option maxRecDepth 100000 in
set_option maxHeartbeats 25600000 in
theorem conv23 (r : RuleD) (v : Value) (w : World) (hv : RuleIs w v r) (hlen : r.dy.length ≤ 1000000000) :
    Calls Tryz.prog 23 #[v] w fun e w' => ∃ v', e = .returned v' ∧ RuleIs w' v' r ∧ Below w.heap.size w w' := by
  obtain ⟨v8, v9, v10, v11, v12, v13, v14, v15, v16, v17, rfl, hR⟩ := hv
  obtain ⟨a8, n8, c8, rfl⟩ := hR.l8.form
  obtain ⟨a9, n9, c9, rfl⟩ := hR.l9.form
  obtain ⟨a10, n10, c10, rfl⟩ := hR.l10.form
  obtain ⟨a11, n11, c11, rfl⟩ := hR.l11.form
  obtain ⟨a12, n12, c12, rfl⟩ := hR.l12.form
  obtain ⟨a14, n14, c14, rfl⟩ := hR.l14.form
  obtain ⟨a15, n15, c15, rfl⟩ := hR.l15.form
  obtain ⟨a16, n16, c16, rfl⟩ := hR.l16.form
  obtain ⟨a17, n17, c17, rfl⟩ := hR.l17.form
  obtain ⟨a13, c13, rfl, hdy⟩ := hR.l13.form
  have HR := Lib.hid hR; clear hR
  have HDY := Lib.hid hdy; clear hdy
  obtain ⟨f, hs, st, iv, wk, ct, hu, un, sp, mo, md, yd, wn, dy, ho, mi, se, ea⟩ := r
  simp only at hlen
  unfold ruleVal
  simp only
  go_enter Tryz.func23, Tryz.ntmps23
  go_upto_region 2 with (first
    | (refine Great.wpList_runTo rfl (some 40) rfl _ _ (run_bld26 _ _ rfl rfl rfl rfl rfl rfl rfl rfl rfl rfl rfl rfl rfl rfl rfl rfl rfl rfl _) ?_)
    | (refine Great.wpList_runTo rfl (some 3) rfl _ _ (run_al26 _ _ rfl _) ?_)
    | (refine Great.wpList_runTo rfl (some 2) rfl _ _ (run_al26 _ _ rfl _) ?_)
    | (refine wpList_store_fresh rfl 26 _ _ rfl ruleZ0 #[.int .u8 f, .bool hs, .int .i64 st, .int .i64 iv, .int .i64 wk, .int .i64 ct, .bool hu, .int .i64 un, .slice a8 n8 c8, .slice a9 n9 c9, .slice a10 n10 c10, .slice a11 n11 c11, .slice a12 n12 c12, .slice none 0 0, .slice a14 n14 c14, .slice a15 n15 c15, .slice a16 n16 c16, .slice a17 n17 c17] rfl rfl (by as_aux_lemma => kernel_rfl) rfl (by simp [Value.oneCell']) ?_))
  obtain ⟨hbox, hrR, hrb, hb3, hz3⟩ := three_rows w #[.int .u8 f, .bool hs, .int .i64 st, .int .i64 iv, .int .i64 wk, .int .i64 ct, .bool hu, .int .i64 un, .slice a8 n8 c8, .slice a9 n9 c9, .slice a10 n10 c10, .slice a11 n11 c11, .slice a12 n12 c12, .slice a13 dy.length c13, .slice a14 n14 c14, .slice a15 n15 c15, .slice a16 n16 c16, .slice a17 n17 c17] ruleZ0 #[.int .u8 f, .bool hs, .int .i64 st, .int .i64 iv, .int .i64 wk, .int .i64 ct, .bool hu, .int .i64 un, .slice a8 n8 c8, .slice a9 n9 c9, .slice a10 n10 c10, .slice a11 n11 c11, .slice a12 n12 c12, .slice none 0 0, .slice a14 n14 c14, .slice a15 n15 c15, .slice a16 n16 c16, .slice a17 n17 c17] 31 26 26
  generalize ((w.alloc (.cells #[.int .u8 f, .bool hs, .int .i64 st, .int .i64 iv, .int .i64 wk, .int .i64 ct, .bool hu, .int .i64 un, .slice a8 n8 c8, .slice a9 n9 c9, .slice a10 n10 c10, .slice a11 n11 c11, .slice a12 n12 c12, .slice a13 dy.length c13, .slice a14 n14 c14, .slice a15 n15 c15, .slice a16 n16 c16, .slice a17 n17 c17] 31)).alloc (.cells ruleZ0 26)).alloc (.cells #[.int .u8 f, .bool hs, .int .i64 st, .int .i64 iv, .int .i64 wk, .int .i64 ct, .bool hu, .int .i64 un, .slice a8 n8 c8, .slice a9 n9 c9, .slice a10 n10 c10, .slice a11 n11 c11, .slice a12 n12 c12, .slice none 0 0, .slice a14 n14 c14, .slice a15 n15 c15, .slice a16 n16 c16, .slice a17 n17 c17] 26) = W3 at *
  have hcx := hbox.cell 13 (v := .slice a13 dy.length c13) rfl
  have hz3' : w.heap.size + 3 ≤ W3.heap.size := by omega
  clear hbox hz3
  go_wp2_with fail
  go_loopw [44] (fun i wr => ∃ (k : Nat) (v : Value), k ≤ dy.length ∧ i = .int .i64 k ∧ RowAt wr (w.heap.size + 1 + 1) 26 [.int .u8 f, .bool hs, .int .i64 st, .int .i64 iv, .int .i64 wk, .int .i64 ct, .bool hu, .int .i64 un, .slice a8 n8 c8, .slice a9 n9 c9, .slice a10 n10 c10, .slice a11 n11 c11, .slice a12 n12 c12, v, .slice a14 n14 c14, .slice a15 n15 c15, .slice a16 n16 c16, .slice a17 n17 c17] ∧ RowAt wr (w.heap.size + 1) 26 ruleZ0.toList ∧ wr.ownsRow (w.heap.size + 3) 59 2 v k (flat2 (dy.take k)) ∧ w.heap.size + 3 ≤ wr.heap.size ∧ Below w.heap.size w wr) (fun i _ => dy.length - (intOf i).toNat)
  case atStart => exact ⟨0, _, by omega, rfl, hrb, hrR, World.ownsRow_nil _ _ _ _, hz3', hb3⟩
  case round =>
    clear hrb hrR hb3 hz3' hcx
    obtain ⟨k, v, hk, rfl, hrb, hrR, hown, hsz, hb⟩ := hrel
    obtain ⟨va, vn, vc, rfl⟩ := own_form hown
    by_cases hlt : k < dy.length
    · obtain ⟨g, gq, rfl, hdr0⟩ : ∃ g gq, a13 = some ⟨g, gq, none⟩ ∧ DayRowQ w g gq dy := by
        rcases HDY.out with h | h
        · rw [h] at hlt; simp at hlt
        · exact h
      have hdr := hdr0.below hb
      have hgl := hdr0.lt
      clear hdr0
      obtain ⟨hcd, hcn⟩ := hdr.cell k dy[k] (by simp [hlt])
      have hsn := flat2_snoc dy k hlt
      generalize dy[k] = p at hcd hcn hsn
      obtain ⟨d, n⟩ := p
      simp only at hcd hcn hsn
      have HSN := Lib.hid hsn; clear hsn
      have hcv := hrb.cell 13 (v := .slice va vn vc) rfl
      have hcf := hrb.frozen 13
      have hal : Below wr.heap.size wr (wr.alloc (.cells #[.int .i64 d, .int .i64 n] 61)) := (Below.refl _ _).alloc (Nat.le_refl _) _
      have hcva := (hrb.below hal).cell 13 (v := .slice va vn vc) rfl
      clear hal
      have hOW : Hid ((wr.alloc (.cells #[.int .i64 d, .int .i64 n] 61)).ownsRow (w.heap.size + 3) 59 2 (.slice va vn vc) k (flat2 (dy.take k))) := hown.alloc _
      have hBW : Hid (Below (w.heap.size + 3) wr (wr.alloc (.cells #[.int .i64 d, .int .i64 n] 61))) := (Below.refl _ _).alloc hsz _
      have hZW : w.heap.size + 3 ≤ (wr.alloc (.cells #[.int .i64 d, .int .i64 n] 61)).heap.size := by simp; omega
      have hRB := Lib.hid hrb
      have hRR := Lib.hid hrR
      clear hown hrb hrR
      go_wp2_with (at_builtin; go_must (refine app2 (w.heap.size + 3) _ _ 24 (.agg #[.int .i64 0, .int .i64 0]) 16 Tryz.underlying24 Tryz.inf59d rfl hOW.out hBW.out hZW (by omega) (by omega) rfl rfl rfl rfl (by simp) ?_); intro v1 w1 hown1 hb1 hsz1; obtain ⟨va1, vn1, vc1, rfl⟩ := own_form hown1; have hrb1 := (hRB.out.belowB hb1 (by omega)).cell 13 (v := .slice va vn vc) rfl; have hrf1 := (hRB.out.belowB hb1 (by omega)).frozen 13)
      go_roundw
      case rel =>
        refine ⟨k + 1, _, by omega, by go_num, (hRB.out.belowB hb1 (by omega)).set 13 _, (hRR.out.belowB hb1 (by omega)).setOther (by omega) _ _, ?_, ?_, ?_⟩
        · rw [HSN.out]; exact ownsRow_setCell_below hown1 (by show w.heap.size + 1 + 1 < _; omega) _
        · have := hb1.size; simp [World.setCell]; omega
        · exact (hb.trans (hb1.mono (by omega))).setCell (by show w.heap.size ≤ w.heap.size + 1 + 1; omega) _
      case measure => simp [intOf]; omega
    · obtain rfl : k = dy.length := by omega
      rw [List.take_length] at hown
      have hOWN := Lib.hid hown; clear hown
      go_wp2_with (first
        | (refine wpList_load_row rfl 26 _ rfl (w.heap.size + 1 + 1) rfl 26 _ (0, 0) _ hrb.blk Tryz.underlying26 rfl (by as_aux_lemma => kernel_rfl) ?_)
        | (refine wpList_store_row rfl 26 _ _ rfl (w.heap.size + 1) _ rfl rfl 26 _ hrR.blk (by as_aux_lemma => kernel_rfl) rfl (by simp [Value.oneCell']) ?_))
      refine bodyPost_ret (results_cell_row rfl _ _ (w.heap.size + 1) 26 _ (0, 0) _ rfl (setRow_heap _ _ _ _ _ _ hrR.blk) Tryz.underlying26 rfl (by as_aux_lemma => kernel_rfl)) rfl ⟨_, rfl, ⟨_, _, _, _, _, _, _, _, _, _, rfl, ?_⟩, ?_⟩
      · have hB := below_setRow hb (g := w.heap.size + 1) (by omega) #[.int .u8 f, .bool hs, .int .i64 st, .int .i64 iv, .int .i64 wk, .int .i64 ct, .bool hu, .int .i64 un, .slice a8 n8 c8, .slice a9 n9 c9, .slice a10 n10 c10, .slice a11 n11 c11, .slice a12 n12 c12, .slice va vn vc, .slice a14 n14 c14, .slice a15 n15 c15, .slice a16 n16 c16, .slice a17 n17 c17]
        have hA := HR.out.below hB
        exact ⟨hA.l8, hA.l9, hA.l10, hA.l11, hA.l12, days_own (own_setRow hOWN.out (by omega) _), hA.l14, hA.l15, hA.l16, hA.l17⟩
      · exact below_setRow hb (by omega) _
end Go.Proofs.YtcfbkkcamiephaaGreatDoor
