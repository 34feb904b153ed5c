import Derived.Test.YtcfbkkcamiephaaGreatDoorRa
import Derived.Test.YtcfbkkcamiephaaGreatDoorRg
import Derived.Test.YtcfbkkcamiephaaGreatDoorE6
import Derived.Test.YtcfbkkcamiephaaGreatDoorF11
import Derived.Test.YtcfbkkcamiephaaGreatDoorQ2
namespace Go.Proofs.YtcfbkkcamiephaaGreatDoor
open Go.RowKit

/-! ### NewRRule, RRule.String, RuleText: out of what buildRRule does -/
/-- buildRRule hands back a row whose first cells are its argument. -/
def BuildAny : Prop := ∀ (o : Opt) (v : Value) (w : World), OptVal w v o → OptN o → boundsB o = true →
  Calls Tryz.prog 100 #[v] w fun e w' => ∃ cs : Array Value, e = .returned (.agg cs) ∧ cs.size = 60 ∧ cs.all (·.oneCell') = true ∧ v = .agg (cs.toList.take 19).toArray ∧ Below w.heap.size w w'
def rrZ : Array Value := #[.int .i64 0, .int .i64 0, .int .i64 0, .int .i64 0, .int .i64 0, .int .i64 0, .int .i64 0, .int .i64 0, .int .i64 0, .slice none 0 0, .slice none 0 0, .slice none 0 0, .slice none 0 0, .slice none 0 0, .slice none 0 0, .slice none 0 0, .slice none 0 0, .slice none 0 0, .slice none 0 0, .int .i64 0, .int .i64 0, .int .i64 0, .int .i64 0, .int .i64 0, .int .i64 0, .int .i64 0, .int .i64 0, .int .i64 0, .slice none 0 0, .slice none 0 0, .slice none 0 0, .slice none 0 0, .slice none 0 0, .slice none 0 0, .slice none 0 0, .slice none 0 0, .slice none 0 0, .slice none 0 0, .int .i64 0, .int .i64 0, .int .i64 0, .int .i64 0, .int .i64 0, .int .i64 0, .int .i64 0, .int .i64 0, .slice none 0 0, .slice none 0 0, .slice none 0 0, .slice none 0 0, .slice none 0 0, .slice none 0 0, .slice none 0 0, .slice none 0 0, .slice none 0 0, .slice none 0 0, .slice none 0 0, .slice none 0 0, .slice none 0 0, .int .i64 0]
theorem Tryz.info150 : (Tryz.prog.info? 150).map (fun i => (i.zero, i.size)) = some (some (.agg rrZ), 60) := by kernel_rfl
theorem Tryz.built150 : Tryz.prog.built 150 [] = some rrZ := by kernel_rfl
theorem run_build150 (ρ : Operand → Value) (o : Oper) (ho : o.op = .build 150 #[]) (w : World) : (execOp ρ o).run Tryz.prog w = .ok (.value (.agg rrZ)) w := by
  unfold execOp
  simp only [ho]
  simp [run_build w 150 #[] rrZ Tryz.built150]
theorem run_al150 (ρ : Operand → Value) (o : Oper) (ho : o.op = .alloc 150) (w : World) : (execOp ρ o).run Tryz.prog w = .ok (.value (.pointer (some ⟨w.heap.size, 0, none⟩))) (w.alloc (.cells rrZ 150)) := by
  have hz := (zero_of_info Tryz.info150).1
  unfold execOp
  simp only [ho]
  simp [hz, newVar, newRow, Value.cells, go_sem]
theorem rrZ_one : (rrZ.all fun x => x.oneCell') = true := by simp [rrZ, Value.oneCell']
theorem optLens {o : Opt} (h : OptOk o) : (∀ k, k < 8 → (bndXs o k).length ≤ 1000000000) ∧ o.dy.length ≤ 1000000000 := by
  refine ⟨fun k hk => ?_, by have := h.dy.1; omega⟩
  match k, hk with
  | 0, _ => have := h.se.1; show o.se.length ≤ _; omega
  | 1, _ => have := h.mi.1; show o.mi.length ≤ _; omega
  | 2, _ => have := h.ho.1; show o.ho.length ≤ _; omega
  | 3, _ => have := h.md.1; show o.md.length ≤ _; omega
  | 4, _ => have := h.yd.1; show o.yd.length ≤ _; omega
  | 5, _ => have := h.wn.1; show o.wn.length ≤ _; omega
  | 6, _ => have := h.mo.1; show o.mo.length ≤ _; omega
  | 7, _ => have := h.sp.1; show o.sp.length ≤ _; omega
  | k + 8, h => omega
theorem OptVal.below {w w' : World} {v : Value} {o : Opt} (h : OptVal w v o) (hb : Below w.heap.size w w') : OptVal w' v o := by
  obtain ⟨v6, v7, v8, v9, v10, v11, v12, v13, v14, v15, h, hL⟩ := h
  exact ⟨v6, v7, v8, v9, v10, v11, v12, v13, v14, v15, h, hL.l6.below hb, hL.l7.below hb, hL.l8.below hb, hL.l9.below hb, hL.l10.below hb, hL.l11.below hb, hL.l12.below hb, hL.l13.below hb, hL.l14.below hb, hL.l15.below hb⟩
/-- an option's value, laid at the head of a row -/
theorem optP_of {w : World} {v : Value} {o : Opt} {cs : Array Value} {N : Nat} (h : OptVal w v o) (hv : v = .agg (cs.toList.take 19).toArray) (hr : RowAt w N 150 cs.toList) : OptIsP w N o := by
  obtain ⟨v6, v7, v8, v9, v10, v11, v12, v13, v14, v15, h, hL⟩ := h
  refine ⟨v6, v7, v8, v9, v10, v11, v12, v13, v14, v15, hr.headP ?_, hL.l6, hL.l7, hL.l8, hL.l9, hL.l10, hL.l11, hL.l12, hL.l13, hL.l14, hL.l15⟩
  rw [h] at hv
  unfold optVal at hv
  injection hv with hv
  have e := congrArg Array.toList hv
  exact e.symm
def NewPost (b : Bool) (o : Opt) (w : World) (e : Ending) (w' : World) : Prop := Below w.heap.size w w' ∧ match b with
  | false => ∃ T p, e = .returned (.tuple #[.pointer none, .iface T (.pointer (some p))])
  | true => ∃ N, e = .returned (.tuple #[.pointer (some ⟨N, 0, none⟩), .nilIface]) ∧ OptIsP w' N o
set_option maxRecDepth 100000 in
set_option maxHeartbeats 3200000 in
theorem newRule_any (hbuild : BuildAny) (o : Opt) (v : Value) (w : World) (hv : OptVal w v o) (hk : OptN o) : Calls Tryz.prog 72 #[v] w (NewPost (boundsB o) o w) := by
  obtain ⟨cs, rfl, hcs, _, _⟩ := optVal_cells hv
  obtain ⟨hl1, hl2⟩ := optLens hk.ok
  have hal : Below w.heap.size w (w.alloc (.cells cs 106)) := (Below.refl _ _).alloc (Nat.le_refl _) _
  have HBX : Hid (RowAt (w.alloc (.cells cs 106)) w.heap.size 106 cs.toList) := Lib.hid ⟨by rw [heap_alloc_new]⟩
  have HCS := Lib.hid hcs
  have HAL := Lib.hid hal
  have HV := Lib.hid (hv.below hal)
  have H99 := Lib.hid (fun w hv => bounds_any o (.agg cs) w hv hl1 hl2)
  have H100 : Hid (boundsB o = true → ∀ W, OptVal W (.agg cs) o → Calls Tryz.prog 100 #[.agg cs] W fun e w' => ∃ cs1 : Array Value, e = .returned (.agg cs1) ∧ cs1.size = 60 ∧ cs1.all (·.oneCell') = true ∧ Value.agg cs = .agg (cs1.toList.take 19).toArray ∧ Below W.heap.size W w') := Lib.hid (fun hb W hW => hbuild o (.agg cs) W hW hk hb)
  clear hcs hal hv hl1 hl2 hk hbuild
  cases hb : boundsB o with
  | false =>
    rw [hb] at H99
    clear hb H100
    go_enter Tryz.func72, Tryz.ntmps72
    go_wp2_with (first
      | (refine wpList_load_row rfl 106 _ rfl w.heap.size rfl 106 cs (0, 0) _ HBX.out.blk Tryz.underlying106 rfl (by rw [HCS.out]; as_aux_lemma => kernel_rfl) ?_)
      | (go_at_call 99; go_must (refine (H99.out _ HV.out).mono ?_; rintro e w1 ⟨hb1, ev, rfl, T, p, rfl⟩))
      | (fail))
    go_ret2
    exact ⟨HAL.out.trans (hb1.mono HAL.out.size), _, _, rfl⟩
  | true =>
    rw [hb] at H99
    have H100 := Lib.hid (H100.out hb)
    clear hb
    go_enter Tryz.func72, Tryz.ntmps72
    go_wp2_with (first
      | (refine wpList_load_row rfl 106 _ rfl w.heap.size rfl 106 cs (0, 0) _ HBX.out.blk Tryz.underlying106 rfl (by rw [HCS.out]; as_aux_lemma => kernel_rfl) ?_)
      | (go_at_call 99; go_must (refine (H99.out _ HV.out).mono ?_; rintro e w1 ⟨hb1, ev, rfl, rfl⟩; have HB1 := Lib.hid hb1; have HBY := Lib.hid (HBX.out.below hb1); have HV1 := Lib.hid (HV.out.below hb1); clear hb1))
      | (refine wpList_load_row rfl 106 _ rfl w.heap.size rfl 106 cs (0, 0) _ HBY.out.blk Tryz.underlying106 rfl (by rw [HCS.out]; as_aux_lemma => kernel_rfl) ?_)
      | (go_at_call 100; go_must (refine (H100.out _ HV1.out).mono ?_; rintro e w2 ⟨cs1, rfl, h1, h2, h3, hb2⟩; have HB2 := Lib.hid hb2; have HC1 := Lib.hid h1; have HC3 := Lib.hid h3; have HV2 := Lib.hid (HV1.out.below hb2); clear h1 h3 hb2))
      | (refine Great.wpList_runTo rfl (some 5) rfl _ _ (run_al150 _ _ rfl _) ?_)
      | (refine wpList_store_fresh rfl 150 _ _ rfl rrZ cs1 rfl rfl (by rw [HC1.out]; as_aux_lemma => kernel_rfl) (by rw [HC1.out]; rfl) h2 ?_)
      | (fail))
    go_ret2
    have hal2 : Below w2.heap.size w2 (w2.alloc (.cells cs1 150)) := (Below.refl _ _).alloc (Nat.le_refl _) _
    have hx := HAL.out.trans (HB1.out.mono HAL.out.size)
    have hy := hx.trans (HB2.out.mono hx.size)
    exact ⟨hy.trans (hal2.mono hy.size), _, rfl, optP_of (HV2.out.below hal2) HC3.out ⟨by rw [heap_alloc_new]⟩⟩
set_option maxRecDepth 100000 in
theorem ruleStrR_any (o : Opt) (N : Nat) (w : World) (hG : Good w) (ho : OptIsP w N o) (hk : OptOk o) : Calls Tryz.prog 73 #[.pointer (some ⟨N, 0, none⟩)] w fun e w' => e = .returned (.string (mkS (optL o))) ∧ Below w.heap.size w w' := by
  have H67 := Lib.hid (optStrP_any o N w hG ho hk)
  clear ho hk hG
  go_enter Tryz.func73, Tryz.ntmps73
  go_wp2_with (first
    | (go_at_call 67; go_must (refine H67.out.mono ?_; rintro e w1 ⟨rfl, hb1⟩))
    | (fail))
  go_ret
  exact ⟨rfl, hb1⟩
def TextPost (b : Bool) (o : Opt) (w : World) (e : Ending) (w' : World) : Prop := Below w.heap.size w w' ∧ match b with
  | false => e = .returned (.tuple #[.string ⟨#[]⟩, .bool false])
  | true => e = .returned (.tuple #[.string (mkS (optL o)), .bool true])
set_option maxRecDepth 100000 in
set_option maxHeartbeats 3200000 in
theorem ruleText_any (hbuild : BuildAny) (r : RuleD) (v : Value) (w : World) (hG : Good w) (hv : RuleIs w v r) (hk : OptN (optOf r)) (hf : 0 ≤ r.fq ∧ r.fq ≤ 255) (hl : r.dy.length ≤ 1000000000) : Calls Tryz.prog 39 #[v] w (TextPost (boundsB (optOf r)) (optOf r) w) := by
  obtain ⟨cs, rfl, hcs, _⟩ := ruleVal_cells hv
  have hal : Below w.heap.size w (w.alloc (.cells cs 31)) := (Below.refl _ _).alloc (Nat.le_refl _) _
  have HBX : Hid (RowAt (w.alloc (.cells cs 31)) w.heap.size 31 cs.toList) := Lib.hid ⟨by rw [heap_alloc_new]⟩
  have HCS := Lib.hid hcs
  have HAL := Lib.hid hal
  have HG := Lib.hid (hG.below hal)
  have H66 := Lib.hid (option_any r (.agg cs) (w.alloc (.cells cs 31)) (hv.below hal) hf hl)
  have H72 := Lib.hid (fun v W h => newRule_any hbuild (optOf r) v W h hk)
  have HK := Lib.hid hk
  clear hcs hal hv hG hk hbuild
  generalize optOf r = o at *
  generalize boundsB o = b at *
  cases b with
  | false =>
    go_enter Tryz.func39, Tryz.ntmps39
    go_wp2_with (first
      | (refine wpList_load_row rfl 31 _ rfl w.heap.size rfl 31 cs (0, 0) _ HBX.out.blk Tryz.underlying31 rfl (by rw [HCS.out]; as_aux_lemma => kernel_rfl) ?_)
      | (go_at_call 66; go_must (refine H66.out.mono ?_; rintro e w1 ⟨v1, rfl, hv1, hb1⟩; have HV1 := Lib.hid hv1; have HB1 := Lib.hid (HAL.out.trans (hb1.mono HAL.out.size)); clear hv1 hb1))
      | (go_at_call 72; go_must (refine (H72.out _ _ HV1.out).mono ?_; rintro e w2 ⟨hb2, T, p, rfl⟩))
      | (fail))
    go_ret2
    exact ⟨HB1.out.trans (hb2.mono HB1.out.size), rfl⟩
  | true =>
    go_enter Tryz.func39, Tryz.ntmps39
    go_wp2_with (first
      | (refine wpList_load_row rfl 31 _ rfl w.heap.size rfl 31 cs (0, 0) _ HBX.out.blk Tryz.underlying31 rfl (by rw [HCS.out]; as_aux_lemma => kernel_rfl) ?_)
      | (go_at_call 66; go_must (refine H66.out.mono ?_; rintro e w1 ⟨v1, rfl, hv1, hb1⟩; have HV1 := Lib.hid hv1; have HG1 := Lib.hid (HG.out.below hb1); have HB1 := Lib.hid (HAL.out.trans (hb1.mono HAL.out.size)); clear hv1 hb1))
      | (go_at_call 72; go_must (refine (H72.out _ _ HV1.out).mono ?_; rintro e w2 ⟨hb2, N, rfl, hN⟩; have HN := Lib.hid hN; have HG2 := Lib.hid (HG1.out.below hb2); have HB2 := Lib.hid (HB1.out.trans (hb2.mono HB1.out.size)); clear hb2 hN))
      | (go_at_call 73; go_must (refine (ruleStrR_any o N _ HG2.out HN.out HK.out.ok).mono ?_; rintro e w3 ⟨rfl, hb3⟩))
      | (fail))
    go_ret2
    exact ⟨HB2.out.trans (hb3.mono HB2.out.size), rfl⟩
end Go.Proofs.YtcfbkkcamiephaaGreatDoor
namespace Go.Proofs.YtcfbkkcamiephaaGreatDoor
open Go.RowKit

attribute [local go_sem ↓] Go.wp_at_zero Go.wp_at_succ lockL_eq

/-! ### FnTextRule -/
/-- what the law's last regions hold of the world -/
structure Lr (w W : World) (cs : Array Value) (r : RuleD) : Prop where
  row : RowAt W w.heap.size 26 cs.toList
  hb : Below w.heap.size w W
theorem Lr.call {w W w1 : World} {cs : Array Value} {r : RuleD} (h : Lr w W cs r) (hb : Below W.heap.size W w1) : Lr w w1 cs r := ⟨h.row.below hb, h.hb.trans (hb.mono h.hb.size)⟩
set_option maxRecDepth 100000 in
set_option maxHeartbeats 6400000 in
theorem law_rule (hbuild : BuildAny) (hrule : RuleAny) (r : RuleD) (v : Value) (w : World) (hG : Good w) (hD : DayNms w) (hF : Freqs w) (hv : RuleIs w v r) (hin : RuleIn r) :
    Calls Tryz.prog 12 #[v] w fun e w' => e = .returned (.bool true) ∧ Below w.heap.size w w' := by
  obtain ⟨cs, rfl, hcs, _⟩ := ruleVal_cells hv
  have hal : Below w.heap.size w (w.alloc (.cells cs 26)) := (Below.refl _ _).alloc (Nat.le_refl _) _
  have HL0 : Hid (Lr w (w.alloc (.cells cs 26)) cs r) := Lib.hid ⟨⟨by rw [heap_alloc_new]⟩, hal⟩
  have HCS := Lib.hid hcs
  have HV := Lib.hid hv
  have HG := Lib.hid hG
  have H19 : Hid (∀ W, Lr w W cs r → Calls Tryz.prog 19 #[] W fun e w' => e = .returned (.bool true) ∧ Lr w w' cs r) := Lib.hid (fun W h => (awake_any hrule option_any W (hG.below h.hb)).mono fun e w' ⟨a, b⟩ => ⟨a, h.call b⟩)
  have H24 : Hid (∀ W, Lr w W cs r → Calls Tryz.prog 24 #[.agg cs] W fun e w' => e = .returned (.bool (fitsB r)) ∧ Lr w w' cs r) := Lib.hid (fun W h => (fits_any r (.agg cs) W (hv.below h.hb)).mono fun e w' ⟨a, b⟩ => ⟨a, h.call b⟩)
  have H25 : Hid (fitsB r = true → ∀ W, Lr w W cs r → Calls Tryz.prog 25 #[.agg cs] W fun e w' => ∃ b : Bool, e = .returned (.bool b) ∧ (b = true → TextR r) ∧ Lr w w' cs r) := Lib.hid (fun hf W h => (textRule_any r (.agg cs) W (hv.below h.hb) hin.fq (by
    simp only [fitsB, Bool.and_eq_true, decide_eq_true_eq] at hf
    exact hf.1.1.1.1.2)).mono fun e w' ⟨b, x, y, z⟩ => ⟨b, x, y, h.call z⟩)
  have H38 : Hid (TextR r → ∀ W, Lr w W cs r → Calls Tryz.prog 38 #[.agg cs] W fun e w' => e = .returned (.bool (easterB r)) ∧ Lr w w' cs r) := Lib.hid (fun hT W h => (easter_any r (.agg cs) W (hv.below h.hb) (by have := hT.l; omega)).mono fun e w' ⟨a, b⟩ => ⟨a, h.call b⟩)
  have H40 : Hid (TextR r → ∀ W, Lr w W cs r → Calls Tryz.prog 40 #[.agg cs] W fun e w' => e = .returned (.bool (rightB r)) ∧ Lr w w' cs r) := Lib.hid (fun hT W h => (right_any r (.agg cs) W (hv.below h.hb) hT).mono fun e w' ⟨a, b⟩ => ⟨a, h.call b⟩)
  have H28 : Hid (TextR r → ∀ W, Lr w W cs r → Calls Tryz.prog 28 #[.agg cs] W fun e w' => e = .returned (.string (mkS (optL (optOf r)))) ∧ Lr w w' cs r) := Lib.hid (fun hT W h => (optionTextS_any r (.agg cs) W (hD.below h.hb) (hF.below h.hb) (hv.below h.hb) hT hin).mono fun e w' ⟨a, b⟩ => ⟨a, h.call b⟩)
  have H32 : Hid (TextR r → ∀ W, Lr w W cs r → Calls Tryz.prog 32 #[.agg cs] W fun e w' => ∃ v', e = .returned v' ∧ RuleIs w' v' r ∧ Lr w w' cs r) := Lib.hid (fun hT W h => (conv32 r (.agg cs) W (hv.below h.hb) (by have := hT.dl; omega)).mono fun e w' ⟨v', a, b, c⟩ => ⟨v', a, b, h.call c⟩)
  have H39 : Hid (TextR r → ∀ v W, RuleIs W v r → Lr w W cs r → Calls Tryz.prog 39 #[v] W fun e w' => Lr w w' cs r ∧ TextPost (rightB r) (optOf r) W e w') := Lib.hid (fun hT v W hW h => (by
    have k := ruleText_any hbuild r v W (hG.below h.hb) hW (optN_of hT hin) hin.fq (by have := hT.dl; omega)
    rw [bounds_right] at k
    exact k.mono fun e w' x => ⟨h.call x.1, x⟩))
  clear hcs hal hv hin hG hD hF hrule hbuild
  cases hfit : fitsB r with
  | false =>
    rw [hfit] at H24
    clear hfit H25 H38 H40 H28 H32 H39
    go_enter Tryz.func12, Tryz.ntmps12
    go_wp2_with (first
      | (refine wpList_load_row rfl 26 _ rfl w.heap.size rfl 26 cs (0, 0) _ HL0.out.row.blk Tryz.underlying26 rfl (by rw [HCS.out]; as_aux_lemma => kernel_rfl) ?_)
      | (go_at_call 24; go_must (refine (H24.out _ HL0.out).mono ?_; rintro e w1 ⟨rfl, hl1⟩))
      | (fail))
    go_ret
    exact ⟨rfl, hl1.hb⟩
  | true =>
  rw [hfit] at H24
  have H25 := Lib.hid (H25.out hfit)
  clear hfit
  go_enter Tryz.func12, Tryz.ntmps12
  go_upto_region 3 with (first
    | (refine wpList_load_row rfl 26 _ rfl w.heap.size rfl 26 cs (0, 0) _ HL0.out.row.blk Tryz.underlying26 rfl (by rw [HCS.out]; as_aux_lemma => kernel_rfl) ?_)
    | (go_at_call 24; go_must (refine (H24.out _ HL0.out).mono ?_; rintro e w1 ⟨rfl, hl1⟩; have HL1 := Lib.hid hl1; clear hl1))
    | (fail))
  clear HL0 H24
  go_cut [15] from 5 to 15 (fun c wx => ∃ c' : Bool, c = .bool c' ∧ Hid (c' = false → TextR r) ∧ Hid (Lr w wx cs r))
  case first =>
    go_wp2_with (first
      | (refine wpList_load_row rfl 26 _ rfl w.heap.size rfl 26 cs (0, 0) _ HL1.out.row.blk Tryz.underlying26 rfl (by rw [HCS.out]; as_aux_lemma => kernel_rfl) ?_)
      | (go_at_call 25; go_must (refine (H25.out _ HL1.out).mono ?_; rintro e w2 ⟨b, rfl, hT, hl2⟩; have HT := Lib.hid hT; have HL2 := Lib.hid hl2; have hld := lockLoad_arr (W := w2) (B := w.heap.size) cs 18 HCS.out (fun i => by rw [hl2.row.cells]; simp); clear hT hl2; cases b))
      | (fail))
    · go_meet
      exact ⟨true, rfl, Lib.hid (fun h => by cases h), HL2⟩
    · have hTT : TextR r := HT.out (by first | rfl | trivial)
      have HTT := Lib.hid hTT
      clear hTT
      go_wp2_with (first
        | (go_at_call 38; go_must (refine (H38.out HTT.out _ HL2.out).mono ?_; rintro e w3 ⟨rfl, hl3⟩; have HL3 := Lib.hid hl3; clear hl3))
        | (fail))
      go_meet
      exact ⟨_, rfl, Lib.hid (fun _ => HTT.out), HL3⟩
  case rest =>
  obtain ⟨c', rfl, HT, HL⟩ := hcut
  clear HL1 H25 H38
  cases c' with
  | true =>
    go_wp2_with (first
      | (go_at_call 19; go_must (refine (H19.out _ HL.out).mono ?_; rintro e w3 ⟨rfl, hl3⟩))
      | (fail))
    go_ret
    exact ⟨rfl, hl3.hb⟩
  | false =>
  have hT : TextR r := HT.out rfl
  have H40 := Lib.hid (H40.out hT)
  have H28 := Lib.hid (H28.out hT)
  have H32 := Lib.hid (H32.out hT)
  have H39 := Lib.hid (H39.out hT)
  clear hT HT
  generalize rightB r = b at *
  cases b with
  | false =>
    go_wp2_with (first
      | (refine wpList_load_row rfl 26 _ rfl w.heap.size rfl 26 cs (0, 0) _ HL.out.row.blk Tryz.underlying26 rfl (by rw [HCS.out]; as_aux_lemma => kernel_rfl) ?_)
      | (go_at_call 32; go_must (refine (H32.out _ HL.out).mono ?_; rintro e w3 ⟨v3, rfl, hv3, hl3⟩; have HV3 := Lib.hid hv3; have HL3 := Lib.hid hl3; clear hv3 hl3))
      | (go_at_call 39; go_must (refine (H39.out _ _ HV3.out HL3.out).mono ?_; rintro e w4 ⟨hl4, _, rfl⟩; have HL4 := Lib.hid hl4; clear hl4))
      | (go_at_call 19; go_must (refine (H19.out _ HL4.out).mono ?_; rintro e w5 ⟨rfl, hl5⟩; have HL5 := Lib.hid hl5; have hld := lockLoad_arr (W := w5) (B := w.heap.size) cs 18 HCS.out (fun i => by rw [hl5.row.cells]; simp); clear hl5))
      | (go_at_call 40; go_must (refine (H40.out _ HL5.out).mono ?_; rintro e w6 ⟨rfl, hl6⟩))
      | (fail))
    go_ret
    exact ⟨rfl, hl6.hb⟩
  | true =>
    go_wp2_with (first
      | (refine wpList_load_row rfl 26 _ rfl w.heap.size rfl 26 cs (0, 0) _ HL.out.row.blk Tryz.underlying26 rfl (by rw [HCS.out]; as_aux_lemma => kernel_rfl) ?_)
      | (go_at_call 32; go_must (refine (H32.out _ HL.out).mono ?_; rintro e w3 ⟨v3, rfl, hv3, hl3⟩; have HV3 := Lib.hid hv3; have HL3 := Lib.hid hl3; clear hv3 hl3))
      | (go_at_call 39; go_must (refine (H39.out _ _ HV3.out HL3.out).mono ?_; rintro e w4 ⟨hl4, _, he⟩; have HL4 := Lib.hid hl4; clear hl4; subst he))
      | (go_at_call 19; go_must (refine (H19.out _ HL4.out).mono ?_; rintro e w5 ⟨rfl, hl5⟩; have HL5 := Lib.hid hl5; have hld := lockLoad_arr (W := w5) (B := w.heap.size) cs 18 HCS.out (fun i => by rw [hl5.row.cells]; simp); clear hl5))
      | (go_at_call 40; go_must (refine (H40.out _ HL5.out).mono ?_; rintro e w6 ⟨rfl, hl6⟩; have HL6 := Lib.hid hl6; have hld2 := lockLoad_arr (W := w6) (B := w.heap.size) cs 18 HCS.out (fun i => by rw [hl6.row.cells]; simp); clear hl6))
      | (go_at_call 28; go_must (refine (H28.out _ HL6.out).mono ?_; rintro e w7 ⟨rfl, hl7⟩))
      | (fail))
    go_ret
    exact ⟨rfl, hl7.hb⟩
end Go.Proofs.YtcfbkkcamiephaaGreatDoor
