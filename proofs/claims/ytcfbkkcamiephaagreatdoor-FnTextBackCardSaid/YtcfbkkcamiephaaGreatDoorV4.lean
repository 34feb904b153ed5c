import Derived.Test.YtcfbkkcamiephaaGreatDoorV3
import Derived.Test.YtcfbkkcamiephaaGreatDoorR1
import Derived.Test.YtcfbkkcamiephaaGreatDoorF13
namespace Go.Proofs.YtcfbkkcamiephaaGreatDoor
open Go.RowKit

attribute [local go_sem ↓] Go.wp_at_zero Go.wp_at_succ lockL_eq

/-! ### a rule that can be asked as a text: its option -/
/-- The ranges that a rule's numbers have by their kinds. -/
structure RuleIn (r : RuleD) : Prop where
  fq : 0 ≤ r.fq ∧ r.fq ≤ 255
  iv : In64 r.iv
  ct : In64 r.ct
  sp : ∀ z ∈ r.sp, In64 z
  mo : ∀ z ∈ r.mo, In64 z
  md : ∀ z ∈ r.md, In64 z
  yd : ∀ z ∈ r.yd, In64 z
  wn : ∀ z ∈ r.wn, In64 z
  dy : ∀ p ∈ r.dy, In64 p.2
  ho : ∀ z ∈ r.ho, In64 z
  mi : ∀ z ∈ r.mi, In64 z
  se : ∀ z ∈ r.se, In64 z
  ea : ∀ z ∈ r.ea, In64 z
theorem in0 : InTime 0 := ⟨by decide, by decide⟩
theorem in64_0 : In64 0 := ⟨by decide, by decide⟩
theorem optN_of {r : RuleD} (h : TextR r) (k : RuleIn r) : OptN (optOf r) := by
  refine ⟨⟨⟨k.fq.1, h.fq⟩, ?_, k.iv, ⟨h.wk.1, h.wk.2, in64_0⟩, k.ct, ?_, ⟨by have := h.l.1; show r.sp.length ≤ _; omega, k.sp⟩, ⟨by have := h.l.2.1; show r.mo.length ≤ _; omega, k.mo⟩, ⟨by have := h.l.2.2.1; show r.md.length ≤ _; omega, k.md⟩, ⟨by have := h.l.2.2.2.1; show r.yd.length ≤ _; omega, k.yd⟩, ⟨by have := h.l.2.2.2.2.1; show r.wn.length ≤ _; omega, k.wn⟩,
    ⟨by have := h.dl; show r.dy.length ≤ _; omega, fun p hp => ⟨(h.dy p hp).1, (h.dy p hp).2, k.dy p hp⟩⟩, ⟨by have := h.l.2.2.2.2.2.1; show r.ho.length ≤ _; omega, k.ho⟩, ⟨by have := h.l.2.2.2.2.2.2.1; show r.mi.length ≤ _; omega, k.mi⟩, ⟨by have := h.l.2.2.2.2.2.2.2.1; show r.se.length ≤ _; omega, k.se⟩, ⟨by have := h.l.2.2.2.2.2.2.2.2; show r.ea.length ≤ _; omega, k.ea⟩⟩, rfl, rfl⟩
  · show InTime (if r.hs = true then r.st else 0)
    split
    · exact h.st
    · exact in0
  · show InTime (if r.hu = true then r.un else 0)
    split
    · exact h.un
    · exact in0
theorem ruleOf_optOf {r : RuleD} (h : TextR r) : ruleOf (optOf r) = r := by
  have e : ∀ (b : Bool) (n : Int), b = (n != 0) → (if b = true then n else 0) = n := fun b n hb => by
    by_cases hn : n = 0
    · subst hn; split <;> rfl
    · rw [if_pos (by rw [hb]; simpa using hn)]
  have hs := e r.hs r.st h.hs
  have hu := e r.hu r.un h.hu
  obtain ⟨f, hs', st, iv, wk, ct, hu', un, sp, mo, md, yd, wn, dy, ho, mi, se, ea⟩ := r
  unfold ruleOf optOf
  simp only at hs hu ⊢
  rw [hs, hu, isZ_zero, isZ_zero, ← h.hs, ← h.hu]
/-- The rule without its start. -/
def bareOf (r : RuleD) : RuleD := { r with hs := false, st := 0 }
theorem ruleOf_bare {r : RuleD} (h : TextR r) : ruleOf { optOf r with st := (0, 0) } = bareOf r := by
  have := ruleOf_optOf h
  unfold bareOf
  conv => rhs; rw [← this]
  rfl
theorem ruleLen {r : RuleD} (h : TextR r) : RuleLen r := ⟨by obtain ⟨h1, h2, h3, h4, h5, h6, h7, h8, h9⟩ := h.l; have := h.dl; exact ⟨by omega, by omega, by omega, by omega, by omega, by omega, by omega, by omega, by omega, by omega⟩⟩
theorem optL_len (o : Opt) (h : OptOk o) : (optL o).length ≤ 1000000 := by
  have h1 := rrL_len o h
  have h2 := stampS_len _ h.st
  unfold optL
  split
  · omega
  · simp only [List.length_append, rfcL, List.length_cons, dtL, nlL, List.length_nil]; omega


/-! ### FnTextBack -/
structure Bk (w W : World) (B1 B3 : Nat) (L1 L3 : Array Value) (r r3 : RuleD) : Prop where
  lt1 : B1 < W.heap.size
  lt3 : B3 < W.heap.size
  hb : Below w.heap.size w W
  good : Good W
  r1 : RuleIs W (.agg L1) r
  r3 : RuleIs W (.agg L3) r3
theorem bk_call {w W w1 : World} {B1 B3 : Nat} {L1 L3 : Array Value} {r r3 : RuleD} (h : (∀ i, W.cell? ⟨B1, i, none⟩ = L1[i]?) ∧ (∀ i, W.cell? ⟨B3, i, none⟩ = L3[i]?) ∧ Bk w W B1 B3 L1 L3 r r3) (hb : Below W.heap.size W w1) :
    (∀ i, w1.cell? ⟨B1, i, none⟩ = L1[i]?) ∧ (∀ i, w1.cell? ⟨B3, i, none⟩ = L3[i]?) ∧ Bk w w1 B1 B3 L1 L3 r r3 :=
  ⟨fun i => ((bcell hb).1 B1 i h.2.2.lt1).trans (h.1 i), fun i => ((bcell hb).1 B3 i h.2.2.lt3).trans (h.2.1 i), Nat.lt_of_lt_of_le h.2.2.lt1 hb.size, Nat.lt_of_lt_of_le h.2.2.lt3 hb.size, h.2.2.hb.trans (hb.mono h.2.2.hb.size), h.2.2.good.below hb, h.2.2.r1.below hb, h.2.2.r3.below hb⟩
theorem bk_drew {w W : World} {B1 B3 : Nat} {L1 L3 : Array Value} {r r3 : RuleD} (h : (∀ i, W.cell? ⟨B1, i, none⟩ = L1[i]?) ∧ (∀ i, W.cell? ⟨B3, i, none⟩ = L3[i]?) ∧ Bk w W B1 B3 L1 L3 r r3) :
    (∀ i, W.drew.cell? ⟨B1, i, none⟩ = L1[i]?) ∧ (∀ i, W.drew.cell? ⟨B3, i, none⟩ = L3[i]?) ∧ Bk w W.drew B1 B3 L1 L3 r r3 := bk_call h (Below.refl _ _).drew
theorem bk_good {w W : World} {B1 B3 : Nat} {L1 L3 : Array Value} {r r3 : RuleD} (h : (∀ i, W.cell? ⟨B1, i, none⟩ = L1[i]?) ∧ (∀ i, W.cell? ⟨B3, i, none⟩ = L3[i]?) ∧ Bk w W B1 B3 L1 L3 r r3) : Good W := h.2.2.good
theorem bk_r1 {w W : World} {B1 B3 : Nat} {L1 L3 : Array Value} {r r3 : RuleD} (h : (∀ i, W.cell? ⟨B1, i, none⟩ = L1[i]?) ∧ (∀ i, W.cell? ⟨B3, i, none⟩ = L3[i]?) ∧ Bk w W B1 B3 L1 L3 r r3) : RuleIs W (.agg L1) r := h.2.2.r1
theorem bk_r3 {w W : World} {B1 B3 : Nat} {L1 L3 : Array Value} {r r3 : RuleD} (h : (∀ i, W.cell? ⟨B1, i, none⟩ = L1[i]?) ∧ (∀ i, W.cell? ⟨B3, i, none⟩ = L3[i]?) ∧ Bk w W B1 B3 L1 L3 r r3) : RuleIs W (.agg L3) r3 := h.2.2.r3
def BkS (w : World) (B1 B3 : Nat) (L1 L3 : Array Value) (r r3 : RuleD) (W : World) : Prop := (∀ i, W.cell? ⟨B1, i, none⟩ = L1[i]?) ∧ (∀ i, W.cell? ⟨B3, i, none⟩ = L3[i]?) ∧ Bk w W B1 B3 L1 L3 r r3
theorem bare_cells {w : World} {cs : Array Value} {r : RuleD} (h : RuleIs w (.agg cs) r) : RuleIs w (.agg ((cs.setIfInBounds 1 (.bool false)).setIfInBounds 2 (.int .i64 0))) (bareOf r) := by
  obtain ⟨v8, v9, v10, v11, v12, v13, v14, v15, v16, v17, he, hR⟩ := h
  injection he with he
  subst he
  exact ⟨v8, v9, v10, v11, v12, v13, v14, v15, v16, v17, rfl, hR.l8, hR.l9, hR.l10, hR.l11, hR.l12, hR.l13, hR.l14, hR.l15, hR.l16, hR.l17⟩
set_option maxRecDepth 100000 in
set_option maxHeartbeats 25600000 in
theorem law_back (hrule : RuleAny) (r : RuleD) (v : Value) (w : World) (hG : Good w) (hv : RuleIs w v r) (hin : RuleIn r) :
    Calls Tryz.prog 13 #[v] w fun e w' => e = .returned (.bool true) ∧ Below w.heap.size w w' := by
  obtain ⟨cs, rfl, hcs, hc1⟩ := ruleVal_cells hv
  have hal : Below w.heap.size w (w.alloc (.cells cs 26)) := (Below.refl _ _).alloc (Nat.le_refl _) _
  have hbox : RowAt (w.alloc (.cells cs 26)) w.heap.size 26 cs.toList := ⟨by rw [heap_alloc_new]⟩
  have HBX := Lib.hid hbox
  have HCS := Lib.hid hcs
  have HV := Lib.hid (hv.below hal)
  have HAL := Lib.hid hal
  have HG := Lib.hid hG
  have H19 := Lib.hid (fun w hG => awake_any hrule option_any w hG)
  have H24 := Lib.hid (fun w hv => fits_any r (.agg cs) w hv)
  clear hbox hcs hv hal hG
  cases hfit : fitsB r with
  | false =>
    rw [hfit] at H24
    clear hfit H19 hrule hin HG
    go_enter Tryz.func13, Tryz.ntmps13
    go_wp2_with (first
      | (refine wpList_load_row rfl 26 _ rfl w.heap.size rfl 26 cs (0, 0) _ HBX.out.blk Tryz.underlying26 rfl (by rw [HCS.out]; as_aux_lemma => kernel_rfl) ?_)
      | (go_at_call 24; go_must (refine (H24.out _ HV.out).mono ?_; rintro e w1 ⟨rfl, hb1⟩))
      | (fail))
    go_ret
    exact ⟨rfl, HAL.out.trans (hb1.mono HAL.out.size)⟩
  | true =>
    have hdl : r.dy.length ≤ 2147483647 := by
      simp only [fitsB, Bool.and_eq_true, decide_eq_true_eq] at hfit
      exact hfit.1.1.1.1.2
    rw [hfit] at H24
    have H25 := Lib.hid (fun w hv => textRule_any r (.agg cs) w hv hin.fq hdl)
    clear hfit hdl
    have HIN := Lib.hid hin
    have HRL := Lib.hid hrule
    clear hin hrule
    go_enter Tryz.func13, Tryz.ntmps13
    go_upto_region 3 with (first
      | (refine wpList_load_row rfl 26 _ rfl w.heap.size rfl 26 cs (0, 0) _ HBX.out.blk Tryz.underlying26 rfl (by rw [HCS.out]; as_aux_lemma => kernel_rfl) ?_)
      | (go_at_call 24; go_must (refine (H24.out _ HV.out).mono ?_; rintro e w1 ⟨rfl, hb1⟩; have HB1 := Lib.hid hb1; clear hb1))
      | (fail))
    have hr1 := Lib.hid (HBX.out.below HB1.out)
    go_upto_if 9 with (first
      | (refine wpList_load_row rfl 26 _ rfl w.heap.size rfl 26 cs (0, 0) _ hr1.out.blk Tryz.underlying26 rfl (by rw [HCS.out]; as_aux_lemma => kernel_rfl) ?_)
      | (go_at_call 25; go_must (refine (H25.out _ (HV.out.below HB1.out)).mono ?_; rintro e w2 ⟨b, rfl, hT, hb2⟩; have HB2 := Lib.hid hb2; have HT := Lib.hid hT; clear hb2 hT))
      | (fail))
    have hB2 : Hid (Below w.heap.size w w2) := Lib.hid ((HAL.out.trans (HB1.out.mono HAL.out.size)).trans (HB2.out.mono (HAL.out.trans (HB1.out.mono HAL.out.size)).size))
    cases b with
    | false =>
      go_wp2_with (first
        | (go_at_call 19; go_must (refine (H19.out _ (HG.out.below hB2.out)).mono ?_; rintro e w3 ⟨rfl, hb3⟩))
        | (fail))
      go_ret
      exact ⟨rfl, hB2.out.trans (hb3.mono hB2.out.size)⟩
    | true =>
      have hT := HT.out rfl
      have hN := optN_of hT HIN.out
      have hRO := ruleOf_optOf hT
      have hRB := ruleOf_bare hT
      have hLn := ruleLen hT
      have hLb : RuleLen (bareOf r) := ⟨hLn.out⟩
      have hol := optL_len _ hN.ok
      have hrl : (rrL (optOf r)).length ≤ 1000000 := by have := rrL_len _ hN.ok; omega
      have h31 : Hid (∀ v w, Good w → RuleIs w v r → Calls Tryz.prog 31 #[v] w fun e w' => e = .returned (.string (mkS (optL (optOf r)))) ∧ Below w.heap.size w w') := fun v w hG hv => optionText_any option_any r v w hG hv HIN.out.fq hN.ok hLn.out.1
      have h41 : Hid (∀ v w, Good w → RuleIs w v r → Calls Tryz.prog 41 #[v] w fun e w' => e = .returned (.string (mkS (rrL (optOf r)))) ∧ Below w.heap.size w w') := fun v w hG hv => ruleString_any option_any r v w hG hv HIN.out.fq hN.ok hLn.out.1
      have h32 : Hid (∀ v w, RuleIs w v r → Calls Tryz.prog 32 #[v] w fun e w' => ∃ v', e = .returned v' ∧ RuleIs w' v' r ∧ Below w.heap.size w w') := fun v w hv => conv32 r v w hv hLn.out.1
      have h27a : Hid (∀ v w, Good w → RuleIs w v r → Calls Tryz.prog 27 #[.string (mkS (optL (optOf r))), v] w fun e w' => e = .returned (.bool true) ∧ Below w.heap.size w w') := fun v w hG hv => parsed_yes HRL.out _ (optOf r) v w hG hol (opt_back _ hN) (by rw [hRO]; exact hv) (by rw [hRO]; exact hLn)
      have h27b : Hid (∀ v w, Good w → RuleIs w v (bareOf r) → Calls Tryz.prog 27 #[.string (mkS (rrL (optOf r))), v] w fun e w' => e = .returned (.bool true) ∧ Below w.heap.size w w') := fun v w hG hv => parsed_yes HRL.out _ { optOf r with st := (0, 0) } v w hG hrl (rr_back _ hN) (by rw [hRB]; exact hv) (by rw [hRB]; exact hLb)
      have hr2 := Lib.hid (hr1.out.below HB2.out)
      have HVb := Lib.hid (bare_cells HV.out)
      have hV2 := Lib.hid ((HV.out.below HB1.out).below HB2.out)
      clear hT hN hRO hRB hLn hLb hol hrl HT HRL HIN H24 H25
      generalize optL (optOf r) = t1 at *
      generalize rrL (optOf r) = t2 at *
      generalize bareOf r = r3 at *
      have hq1 : cs[1]? = some (cs[1]'(by rw [HCS.out]; omega)) := by simp
      have hq2 : cs[2]? = some (cs[2]'(by rw [HCS.out]; omega)) := by simp
      generalize cs[1]'(by rw [HCS.out]; omega) = x1 at hq1
      generalize cs[2]'(by rw [HCS.out]; omega) = x2 at hq2
      go_upto_region 7 with (first
        | (refine wpList_load_row rfl 26 _ rfl w.heap.size rfl 26 cs (0, 0) _ hr2.out.blk Tryz.underlying26 rfl (by rw [HCS.out]; as_aux_lemma => kernel_rfl) ?_)
        | (refine Great.wpList_runTo rfl (some 3) rfl _ _ (run_al26 _ _ rfl _) ?_)
        | (refine wpList_store_fresh rfl 26 _ _ rfl ruleZ0 cs rfl rfl (by rw [HCS.out]; as_aux_lemma => kernel_rfl) (by rw [HCS.out]; rfl) hc1 ?_)
        | (fail))
      have hds : ((cs.setIfInBounds 1 (.bool false)).setIfInBounds 2 (.int .i64 0)).size = 18 := by simp [HCS.out]
      generalize (cs.setIfInBounds 1 (.bool false)).setIfInBounds 2 (.int .i64 0) = ds at *
      have hal2 : Below w2.heap.size w2 (w2.alloc (.cells ds 26)) := (Below.refl _ _).alloc (Nat.le_refl _) _
      have hA : RowAt (w2.alloc (.cells ds 26)) w.heap.size 26 cs.toList := hr2.out.below hal2
      have hB : RowAt (w2.alloc (.cells ds 26)) w2.heap.size 26 ds.toList := ⟨by rw [heap_alloc_new]⟩
      have hBf : Below w.heap.size w (w2.alloc (.cells ds 26)) := hB2.out.trans (hal2.mono hB2.out.size)
      have hK0 : (∀ i, (w2.alloc (.cells ds 26)).cell? ⟨w.heap.size, i, none⟩ = cs[i]?) ∧ (∀ i, (w2.alloc (.cells ds 26)).cell? ⟨w2.heap.size, i, none⟩ = ds[i]?) ∧ Bk w (w2.alloc (.cells ds 26)) w.heap.size w2.heap.size cs ds r r3 :=
        ⟨fun i => by rw [hA.cells]; simp, fun i => by rw [hB.cells]; simp, hA.lt, hB.lt, hBf, (HG.out.below hB2.out).below hal2, hV2.out.below hal2, ((HVb.out.below HB1.out).below HB2.out).below hal2⟩
      have hcs := HCS.out
      have HL1 : ∀ W : World, (∀ i, W.cell? ⟨w.heap.size, i, none⟩ = cs[i]?) → (lockLoad ⟨w.heap.size, 0, none⟩ 18).run Tryz.prog W = .ok cs W := fun W h => lockLoad_arr cs 18 hcs h
      have HL3 : ∀ W : World, (∀ i, W.cell? ⟨w2.heap.size, i, none⟩ = ds[i]?) → (lockLoad ⟨w2.heap.size, 0, none⟩ 18).run Tryz.prog W = .ok ds W := fun W h => lockLoad_arr ds 18 hds h
      clear hal2 hA hB hBf HBX HV HB1 HAL hcs hds HCS HB2 hr2 HVb hV2 hB2 HG hr1 hq1 hq2
      generalize w2.alloc (.cells ds 26) = Wf at *
      generalize w2.heap.size = B3 at *
      generalize hB1 : w.heap.size = B1 at *
      have HB1 := Lib.hid hB1
      clear hB1
      obtain ⟨hc1, hc3, hkw⟩ := hK0
      as_aux_lemma =>
        go_region_held3 (fun w' => (∀ i, w'.cell? ⟨B1, i, none⟩ = cs[i]?) ∧ (∀ i, w'.cell? ⟨B3, i, none⟩ = ds[i]?) ∧ Bk w w' B1 B3 cs ds r r3) (first
          | (with_reducible assumption)
          | (with_reducible exact bk_drew ⟨hc1, hc3, hkw⟩)
          | (with_reducible exact bk_drew (by assumption)))
          (first
          | (go_at_call 19; refine (H19.out _ (bk_good (B1 := B1) (B3 := B3) (L1 := cs) (L3 := ds) (r := r) (r3 := r3) (w := w) (by with_reducible first | assumption | exact bk_drew ⟨hc1, hc3, hkw⟩))).mono ?_; rintro e w7 ⟨rfl, hb7⟩; have hKc := bk_call (by with_reducible first | assumption | exact bk_drew ⟨hc1, hc3, hkw⟩) hb7)
          | (go_at_call 32; refine (h32.out _ _ (bk_r1 (B1 := B1) (B3 := B3) (L1 := cs) (L3 := ds) (r := r) (r3 := r3) (w := w) (by with_reducible first | assumption | exact bk_drew ⟨hc1, hc3, hkw⟩))).mono ?_; rintro e w8 ⟨v8, rfl, hv8, hb8⟩; have hKd := bk_call (by with_reducible first | assumption | exact bk_drew ⟨hc1, hc3, hkw⟩) hb8)
          | (go_at_call 31; refine (h31.out _ _ (bk_good (B1 := B1) (B3 := B3) (L1 := cs) (L3 := ds) (r := r) (r3 := r3) (w := w) (by with_reducible first | assumption | exact bk_drew ⟨hc1, hc3, hkw⟩)) (by with_reducible assumption)).mono ?_; rintro e w9 ⟨rfl, hb9⟩; have hKe := bk_call (by with_reducible first | assumption | exact bk_drew ⟨hc1, hc3, hkw⟩) hb9)
          | (go_at_call 41; refine (h41.out _ _ (bk_good (B1 := B1) (B3 := B3) (L1 := cs) (L3 := ds) (r := r) (r3 := r3) (w := w) (by with_reducible first | assumption | exact bk_drew ⟨hc1, hc3, hkw⟩)) (by with_reducible assumption)).mono ?_; rintro e w10 ⟨rfl, hb10⟩; have hKf := bk_call (by with_reducible first | assumption | exact bk_drew ⟨hc1, hc3, hkw⟩) hb10)
          | (go_at_call_of 27 (Value.string (mkS t1)); refine (h27a.out _ _ (bk_good (B1 := B1) (B3 := B3) (L1 := cs) (L3 := ds) (r := r) (r3 := r3) (w := w) (by with_reducible first | assumption | exact bk_drew ⟨hc1, hc3, hkw⟩)) (bk_r1 (B1 := B1) (B3 := B3) (L1 := cs) (L3 := ds) (r := r) (r3 := r3) (w := w) (by with_reducible first | assumption | exact bk_drew ⟨hc1, hc3, hkw⟩))).mono ?_; rintro e w11 ⟨rfl, hb11⟩; have hKg := bk_call (by with_reducible first | assumption | exact bk_drew ⟨hc1, hc3, hkw⟩) hb11)
          | (go_at_call_of 27 (Value.string (mkS t2)); refine (h27b.out _ _ (bk_good (B1 := B1) (B3 := B3) (L1 := cs) (L3 := ds) (r := r) (r3 := r3) (w := w) (by with_reducible first | assumption | exact bk_drew ⟨hc1, hc3, hkw⟩)) (bk_r3 (B1 := B1) (B3 := B3) (L1 := cs) (L3 := ds) (r := r) (r3 := r3) (w := w) (by with_reducible first | assumption | exact bk_drew ⟨hc1, hc3, hkw⟩))).mono ?_; rintro e w12 ⟨rfl, hb12⟩; have hKh := bk_call (by with_reducible first | assumption | exact bk_drew ⟨hc1, hc3, hkw⟩) hb12))
        all_goals
          go_wp2
          go_ret
          exact ⟨rfl, hKh.2.2.hb⟩
end Go.Proofs.YtcfbkkcamiephaaGreatDoor
