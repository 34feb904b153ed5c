import Derived.Test.YtcfbkkcamiephaaGreatDoorQ3
namespace Go.Proofs.YtcfbkkcamiephaaGreatDoor
open Go.RowKit

attribute [local go_sem ↓] Go.wp_at_zero Go.wp_at_succ lockL_eq

/-! ### FnTextIs -/
/-- what the laws' last regions hold of the world: the rule's box, the names -/
structure Ck (w W : World) (B1 : Nat) (L1 : Array Value) (r : RuleD) : Prop where
  lt1 : B1 < W.heap.size
  hb : Below w.heap.size w W
  good : Good W
  dn : DayNms W
  fr : Freqs W
  r1 : RuleIs W (.agg L1) r
def CkS (w : World) (B1 : Nat) (L1 : Array Value) (r : RuleD) (W : World) : Prop := (∀ i, W.cell? ⟨B1, i, none⟩ = L1[i]?) ∧ Ck w W B1 L1 r
theorem ck_call {w W w1 : World} {B1 : Nat} {L1 : Array Value} {r : RuleD} (h : (∀ i, W.cell? ⟨B1, i, none⟩ = L1[i]?) ∧ Ck w W B1 L1 r) (hb : Below W.heap.size W w1) : (∀ i, w1.cell? ⟨B1, i, none⟩ = L1[i]?) ∧ Ck w w1 B1 L1 r :=
  ⟨fun i => ((bcell hb).1 B1 i h.2.lt1).trans (h.1 i), Nat.lt_of_lt_of_le h.2.lt1 hb.size, h.2.hb.trans (hb.mono h.2.hb.size), h.2.good.below hb, h.2.dn.below hb, h.2.fr.below hb, h.2.r1.below hb⟩
theorem ck_drew {w W : World} {B1 : Nat} {L1 : Array Value} {r : RuleD} (h : (∀ i, W.cell? ⟨B1, i, none⟩ = L1[i]?) ∧ Ck w W B1 L1 r) : (∀ i, W.drew.cell? ⟨B1, i, none⟩ = L1[i]?) ∧ Ck w W.drew B1 L1 r := ck_call h (Below.refl _ _).drew
theorem ck_ck {w W : World} {B1 : Nat} {L1 : Array Value} {r : RuleD} (h : (∀ i, W.cell? ⟨B1, i, none⟩ = L1[i]?) ∧ Ck w W B1 L1 r) : Ck w W B1 L1 r := h.2
set_option maxRecDepth 100000 in
set_option maxHeartbeats 25600000 in
theorem law_is (hrule : RuleAny) (r : RuleD) (v : Value) (w : World) (hG : Good w) (hD : DayNms w) (hF : Freqs w) (hv : RuleIs w v r) (hin : RuleIn r) :
    Calls Tryz.prog 14 #[v] w fun e w' => e = .returned (.bool true) ∧ Below w.heap.size w w' := by
  obtain ⟨cs, rfl, hcs, hc1⟩ := ruleVal_cells hv
  have hal : Below w.heap.size w (w.alloc (.cells cs 26)) := (Below.refl _ _).alloc (Nat.le_refl _) _
  have hbox : RowAt (w.alloc (.cells cs 26)) w.heap.size 26 cs.toList := ⟨by rw [heap_alloc_new]⟩
  have HBX := Lib.hid hbox
  have HCS := Lib.hid hcs
  have HV := Lib.hid (hv.below hal)
  have HAL := Lib.hid hal
  have HG := Lib.hid hG
  have HD := Lib.hid hD
  have HF := Lib.hid hF
  have H19 := Lib.hid (fun w hG => awake_any hrule option_any w hG)
  have H24 := Lib.hid (fun w hv => fits_any r (.agg cs) w hv)
  clear hbox hcs hv hal hG hD hF
  cases hfit : fitsB r with
  | false =>
    rw [hfit] at H24
    clear hfit H19 hrule hin HG HD HF
    go_enter Tryz.func14, Tryz.ntmps14
    go_wp2_with (first
      | (refine wpList_load_row rfl 26 _ rfl w.heap.size rfl 26 cs (0, 0) _ HBX.out.blk Tryz.underlying26 rfl (by rw [HCS.out]; as_aux_lemma => kernel_rfl) ?_)
      | (go_at_call 24; go_must (refine (H24.out _ HV.out).mono ?_; rintro e w1 ⟨rfl, hb1⟩))
      | (fail))
    go_ret
    exact ⟨rfl, HAL.out.trans (hb1.mono HAL.out.size)⟩
  | true =>
    have hdl : r.dy.length ≤ 2147483647 := by
      simp only [fitsB, Bool.and_eq_true, decide_eq_true_eq] at hfit
      exact hfit.1.1.1.1.2
    rw [hfit] at H24
    have H25 := Lib.hid (fun w hv => textRule_any r (.agg cs) w hv hin.fq hdl)
    clear hfit hdl
    have HIN := Lib.hid hin
    have HRL := Lib.hid hrule
    clear hin hrule
    go_enter Tryz.func14, Tryz.ntmps14
    go_upto_region 3 with (first
      | (refine wpList_load_row rfl 26 _ rfl w.heap.size rfl 26 cs (0, 0) _ HBX.out.blk Tryz.underlying26 rfl (by rw [HCS.out]; as_aux_lemma => kernel_rfl) ?_)
      | (go_at_call 24; go_must (refine (H24.out _ HV.out).mono ?_; rintro e w1 ⟨rfl, hb1⟩; have HB1 := Lib.hid hb1; clear hb1))
      | (fail))
    have hr1 := Lib.hid (HBX.out.below HB1.out)
    go_upto_if 8 with (first
      | (refine wpList_load_row rfl 26 _ rfl w.heap.size rfl 26 cs (0, 0) _ hr1.out.blk Tryz.underlying26 rfl (by rw [HCS.out]; as_aux_lemma => kernel_rfl) ?_)
      | (go_at_call 25; go_must (refine (H25.out _ (HV.out.below HB1.out)).mono ?_; rintro e w2 ⟨b, rfl, hT, hb2⟩; have HB2 := Lib.hid hb2; have HT := Lib.hid hT; clear hb2 hT))
      | (fail))
    have hB2 : Hid (Below w.heap.size w w2) := Lib.hid ((HAL.out.trans (HB1.out.mono HAL.out.size)).trans (HB2.out.mono (HAL.out.trans (HB1.out.mono HAL.out.size)).size))
    cases b with
    | false =>
      go_wp2_with (first
        | (go_at_call 19; go_must (refine (H19.out _ (HG.out.below hB2.out)).mono ?_; rintro e w3 ⟨rfl, hb3⟩))
        | (fail))
      go_ret
      exact ⟨rfl, hB2.out.trans (hb3.mono hB2.out.size)⟩
    | true =>
      have hT := HT.out rfl
      have hN := optN_of hT HIN.out
      have hLn := ruleLen hT
      have h31 : Hid (∀ v w, Good w → RuleIs w v r → Calls Tryz.prog 31 #[v] w fun e w' => e = .returned (.string (mkS (optL (optOf r)))) ∧ Below w.heap.size w w') := fun v w hG hv => optionText_any option_any r v w hG hv HIN.out.fq hN.ok hLn.out.1
      have h41 : Hid (∀ v w, Good w → RuleIs w v r → Calls Tryz.prog 41 #[v] w fun e w' => e = .returned (.string (mkS (rrL (optOf r)))) ∧ Below w.heap.size w w') := fun v w hG hv => ruleString_any option_any r v w hG hv HIN.out.fq hN.ok hLn.out.1
      have h32 : Hid (∀ v w, RuleIs w v r → Calls Tryz.prog 32 #[v] w fun e w' => ∃ v', e = .returned v' ∧ RuleIs w' v' r ∧ Below w.heap.size w w') := fun v w hv => conv32 r v w hv hLn.out.1
      have h28 : Hid (∀ B1 w0 W, Ck w0 W B1 cs r → Calls Tryz.prog 28 #[.agg cs] W fun e w' => e = .returned (.string (mkS (optL (optOf r)))) ∧ Below W.heap.size W w') := fun B1 w0 W h => optionTextS_any r (.agg cs) W h.dn h.fr h.r1 hT HIN.out
      have h35 : Hid (∀ B1 w0 W, Ck w0 W B1 cs r → Calls Tryz.prog 35 #[.agg cs] W fun e w' => e = .returned (.string (mkS (rrL (optOf r)))) ∧ Below W.heap.size W w') := fun B1 w0 W h => ruleStringS_any r (.agg cs) W h.dn h.fr h.r1 hT HIN.out
      have hr2 := Lib.hid (hr1.out.below HB2.out)
      have hV2 := Lib.hid ((HV.out.below HB1.out).below HB2.out)
      clear hT hN hLn HT HRL HIN H24 H25
      generalize optL (optOf r) = t1 at *
      generalize rrL (optOf r) = t2 at *
      go_upto_region 5 with fail
      have hK0 : (∀ i, w2.cell? ⟨w.heap.size, i, none⟩ = cs[i]?) ∧ Ck w w2 w.heap.size cs r :=
        ⟨fun i => by rw [hr2.out.cells]; simp, hr2.out.lt, hB2.out, HG.out.below hB2.out, HD.out.below hB2.out, HF.out.below hB2.out, hV2.out⟩
      have hcs := HCS.out
      have HL1 : ∀ W : World, (∀ i, W.cell? ⟨w.heap.size, i, none⟩ = cs[i]?) → (lockLoad ⟨w.heap.size, 0, none⟩ 18).run Tryz.prog W = .ok cs W := fun W h => lockLoad_arr cs 18 hcs h
      clear HBX HV HB1 HAL hcs HCS HB2 hr2 hV2 hB2 HG HD HF hr1
      generalize hB1 : w.heap.size = B1 at *
      have HB1 := Lib.hid hB1
      clear hB1
      obtain ⟨hc1, hkw⟩ := hK0
      as_aux_lemma =>
        go_region_held3 (fun w' => (∀ i, w'.cell? ⟨B1, i, none⟩ = cs[i]?) ∧ Ck w w' B1 cs r) (first
          | (with_reducible assumption)
          | (with_reducible exact ck_drew ⟨hc1, hkw⟩)
          | (with_reducible exact ck_drew (by assumption)))
          (first
          | (go_at_call 19; refine (H19.out _ (ck_ck (B1 := B1) (L1 := cs) (r := r) (w := w) (by with_reducible first | assumption | exact ck_drew ⟨hc1, hkw⟩)).good).mono ?_; rintro e w7 ⟨rfl, hb7⟩; have hKc := ck_call (by with_reducible first | assumption | exact ck_drew ⟨hc1, hkw⟩) hb7)
          | (go_at_call 32; refine (h32.out _ _ (ck_ck (B1 := B1) (L1 := cs) (r := r) (w := w) (by with_reducible first | assumption | exact ck_drew ⟨hc1, hkw⟩)).r1).mono ?_; rintro e w8 ⟨v8, rfl, hv8, hb8⟩; have hKd := ck_call (by with_reducible first | assumption | exact ck_drew ⟨hc1, hkw⟩) hb8)
          | (go_at_call 31; refine (h31.out _ _ (ck_ck (B1 := B1) (L1 := cs) (r := r) (w := w) (by with_reducible first | assumption | exact ck_drew ⟨hc1, hkw⟩)).good (by with_reducible assumption)).mono ?_; rintro e w9 ⟨rfl, hb9⟩; have hKe := ck_call (by with_reducible first | assumption | exact ck_drew ⟨hc1, hkw⟩) hb9)
          | (go_at_call 41; refine (h41.out _ _ (ck_ck (B1 := B1) (L1 := cs) (r := r) (w := w) (by with_reducible first | assumption | exact ck_drew ⟨hc1, hkw⟩)).good (by with_reducible assumption)).mono ?_; rintro e w10 ⟨rfl, hb10⟩; have hKf := ck_call (by with_reducible first | assumption | exact ck_drew ⟨hc1, hkw⟩) hb10)
          | (go_at_call 28; refine (h28.out B1 w _ (ck_ck (B1 := B1) (L1 := cs) (r := r) (w := w) (by with_reducible first | assumption | exact ck_drew ⟨hc1, hkw⟩))).mono ?_; rintro e w11 ⟨rfl, hb11⟩; have hKg := ck_call (by with_reducible first | assumption | exact ck_drew ⟨hc1, hkw⟩) hb11)
          | (go_at_call 35; refine (h35.out B1 w _ (ck_ck (B1 := B1) (L1 := cs) (r := r) (w := w) (by with_reducible first | assumption | exact ck_drew ⟨hc1, hkw⟩))).mono ?_; rintro e w12 ⟨rfl, hb12⟩; have hKh := ck_call (by with_reducible first | assumption | exact ck_drew ⟨hc1, hkw⟩) hb12))
        all_goals
          go_wp2
          go_ret
          exact ⟨rfl, hKh.2.hb⟩
end Go.Proofs.YtcfbkkcamiephaaGreatDoor
