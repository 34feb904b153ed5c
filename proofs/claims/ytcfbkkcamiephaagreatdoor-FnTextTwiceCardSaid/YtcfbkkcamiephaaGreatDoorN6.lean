import Derived.Test.YtcfbkkcamiephaaGreatDoorN5
namespace Go.Proofs.YtcfbkkcamiephaaGreatDoor
open Go.RowKit

attribute [local go_sem ↓] Go.wp_at_zero Go.wp_at_succ lockL_eq

/-! ### FnTextTwice -/
structure Cr (w W : World) (B1 : Nat) (L1 : Array Value) (r : RuleD) : Prop where
  lt1 : B1 < W.heap.size
  hb : Below w.heap.size w W
  good : Good W
  r1 : RuleIs W (.agg L1) r
theorem cr_call {w W w1 : World} {B1 : Nat} {L1 : Array Value} {r : RuleD} (h : (∀ i, W.cell? ⟨B1, i, none⟩ = L1[i]?) ∧ Cr w W B1 L1 r) (hb : Below W.heap.size W w1) : (∀ i, w1.cell? ⟨B1, i, none⟩ = L1[i]?) ∧ Cr w w1 B1 L1 r :=
  ⟨fun i => ((bcell hb).1 B1 i h.2.lt1).trans (h.1 i), Nat.lt_of_lt_of_le h.2.lt1 hb.size, h.2.hb.trans (hb.mono h.2.hb.size), h.2.good.below hb, h.2.r1.below hb⟩
theorem cr_drew {w W : World} {B1 : Nat} {L1 : Array Value} {r : RuleD} (h : (∀ i, W.cell? ⟨B1, i, none⟩ = L1[i]?) ∧ Cr w W B1 L1 r) : (∀ i, W.drew.cell? ⟨B1, i, none⟩ = L1[i]?) ∧ Cr w W.drew B1 L1 r := cr_call h (Below.refl _ _).drew
theorem cr_cr {w W : World} {B1 : Nat} {L1 : Array Value} {r : RuleD} (h : (∀ i, W.cell? ⟨B1, i, none⟩ = L1[i]?) ∧ Cr w W B1 L1 r) : Cr w W B1 L1 r := h.2
set_option maxRecDepth 100000 in
set_option maxHeartbeats 25600000 in
theorem law_twice (hrule : RuleAny) (l : List UInt8) (w : World) (hG : Good w) (hD : DayNms w) (hF : Freqs w) :
    Calls Tryz.prog 10 #[.string (mkS l)] w fun e w' => e = .returned (.bool true) ∧ Below w.heap.size w w' := by
  have zl := size_mkS l
  have HG := Lib.hid hG
  have H19 := Lib.hid (fun w hG => awake_any hrule option_any w hG)
  rcases Nat.lt_or_ge 2147483647 l.length with hlong | hle
  · have hd : decide ((2147483647 : Int) < (l.length : Int)) = true := by simp; omega
    clear hG hD hF hrule
    go_enter Tryz.func10, Tryz.ntmps10
    go_wp2
    go_ret
    exact ⟨rfl, Below.refl _ _⟩
  have hd : decide ((2147483647 : Int) < (l.length : Int)) = false := by simp; omega
  rcases Nat.lt_or_ge 2000 l.length with hlong | hlen
  · have hd2 : decide ((2000 : Int) < (l.length : Int)) = true := by simp; omega
    clear hG hD hF hrule
    go_enter Tryz.func10, Tryz.ntmps10
    go_wp2_with (first
      | (go_at_call 19; go_must (refine (H19.out _ HG.out).mono ?_; rintro e w1 ⟨rfl, hb1⟩))
      | (fail))
    go_ret
    exact ⟨rfl, hb1⟩
  have hd2 : decide ((2000 : Int) < (l.length : Int)) = false := by simp; omega
  have h20 : ∀ W, Below w.heap.size w W → Calls Tryz.prog 20 #[.string (mkS l)] W fun e w' => ∃ cs : Array Value, e = .returned (.tuple #[.agg cs, .int .u8 (parS l).code]) ∧ cs.size = 18 ∧ cs.all (·.oneCell') = true ∧ Below W.heap.size W w' := fun W hb =>
    (parseS_any l W (hD.below hb) (hF.below hb) (by omega)).mono fun e w' h => by
      obtain ⟨cs, a, b, c, d, _⟩ := ps_cells h
      exact ⟨cs, a, b, c, d⟩
  generalize (parS l).code = cd at h20
  have H20 := Lib.hid h20
  have h21 := parse21_any hrule l w hG (by omega)
  have hgg := fun o (h : optT l = some o) => optT_g l o h
  generalize optT l = O at *
  clear hG hD hF h20
  cases O with
  | none =>
    have H21 := Lib.hid h21
    clear h21 hgg hrule
    go_enter Tryz.func10, Tryz.ntmps10
    go_wp2_with (first
      | (go_at_call 21; go_must (refine H21.out.mono ?_; rintro e w1 ⟨hb1, rfl⟩; have hb3 : Below w.heap.size w (w1.alloc (.cells ruleZ0 31)) := hb1.trans (((Below.refl _ _).alloc (Nat.le_refl _) _).mono hb1.size)))
      | (refine Great.wpList_runTo rfl (some 3) rfl _ _ (run_al31 _ _ rfl _) ?_)
      | (refine wpList_store_fresh rfl 31 _ _ rfl ruleZ0 ruleZ0 rfl rfl (by as_aux_lemma => kernel_rfl) rfl ruleZ0_one ?_)
      | (go_at_call 20; go_must (refine (H20.out _ hb3).mono ?_; rintro e w2 ⟨cs, rfl, hcs, hone, hb2⟩; have HCS := Lib.hid hcs; clear hcs; have hb4 : Below w.heap.size w w2 := hb3.trans (hb2.mono hb3.size); have hb5 : Below w.heap.size w (w2.alloc (.cells cs 26)) := hb4.trans (((Below.refl _ _).alloc (Nat.le_refl _) _).mono hb4.size)))
      | (refine Great.wpList_runTo rfl (some 5) rfl _ _ (run_al26 _ _ rfl _) ?_)
      | (refine wpList_store_fresh rfl 26 _ _ rfl ruleZ0 cs rfl rfl (by rw [HCS.out]; as_aux_lemma => kernel_rfl) (by rw [HCS.out]; rfl) hone ?_)
      | (go_at_call 19; go_must (refine (H19.out _ (HG.out.below hb5)).mono ?_; rintro e w6 ⟨rfl, hb6⟩))
      | (fail))
    go_ret
    exact ⟨rfl, hb5.trans (hb6.mono hb5.size)⟩
  | some o =>
    have hgo := hgg o rfl
    have HLN := Lib.hid (hgo.len (by omega))
    have HIN := Lib.hid hgo.inn
    have h21' : Calls Tryz.prog 21 #[.string (mkS l)] w fun e w' => Below w.heap.size w w' ∧ ∃ v, e = .returned (.tuple #[v, .bool true]) ∧ RuleIs w' v (ruleOf o) := h21
    have H21 := Lib.hid h21'
    have HRL := Lib.hid hrule
    clear h21 h21' hgg hgo hrule
    generalize ruleOf o = r at *
    go_enter Tryz.func10, Tryz.ntmps10
    go_upto_region 7 with (first
      | (go_at_call 21; go_must (refine H21.out.mono ?_; rintro e w1 ⟨hb1, v4, rfl, hv4⟩; obtain ⟨ds, rfl, hds, hone2⟩ := ruleVal_cells hv4; have HDS := Lib.hid hds; clear hds; have HV4 := Lib.hid hv4; clear hv4; have hb3 : Below w.heap.size w (w1.alloc (.cells ds 31)) := hb1.trans (((Below.refl _ _).alloc (Nat.le_refl _) _).mono hb1.size)))
      | (refine Great.wpList_runTo rfl (some 3) rfl _ _ (run_al31 _ _ rfl _) ?_)
      | (refine wpList_store_fresh rfl 31 _ _ rfl ruleZ0 ds rfl rfl (by rw [HDS.out]; as_aux_lemma => kernel_rfl) (by rw [HDS.out]; rfl) hone2 ?_)
      | (go_at_call 20; go_must (refine (H20.out _ hb3).mono ?_; rintro e w2 ⟨cs, rfl, hcs, hone, hb2⟩; have HCS := Lib.hid hcs; clear hcs; have hb4 : Below w.heap.size w w2 := hb3.trans (hb2.mono hb3.size); have hb5 : Below w.heap.size w (w2.alloc (.cells cs 26)) := hb4.trans (((Below.refl _ _).alloc (Nat.le_refl _) _).mono hb4.size)))
      | (refine Great.wpList_runTo rfl (some 5) rfl _ _ (run_al26 _ _ rfl _) ?_)
      | (refine wpList_store_fresh rfl 26 _ _ rfl ruleZ0 cs rfl rfl (by rw [HCS.out]; as_aux_lemma => kernel_rfl) (by rw [HCS.out]; rfl) hone ?_)
      | (fail))
    have hal1 : Below w1.heap.size w1 (w1.alloc (.cells ds 31)) := (Below.refl _ _).alloc (Nat.le_refl _) _
    have hal2 : Below w2.heap.size w2 (w2.alloc (.cells cs 26)) := (Below.refl _ _).alloc (Nat.le_refl _) _
    have hA : RowAt (w2.alloc (.cells cs 26)) w1.heap.size 31 ds.toList := by
      have h0 : RowAt (w1.alloc (.cells ds 31)) w1.heap.size 31 ds.toList := ⟨by rw [heap_alloc_new]⟩
      exact (h0.below hb2).below hal2
    have hK0 : (∀ i, (w2.alloc (.cells cs 26)).cell? ⟨w1.heap.size, i, none⟩ = ds[i]?) ∧ Cr w (w2.alloc (.cells cs 26)) w1.heap.size ds r :=
      ⟨fun i => by rw [hA.cells]; simp, hA.lt, hb5, HG.out.below hb5, ((HV4.out.below hal1).below hb2).below hal2⟩
    have hds := HDS.out
    have HL1 : ∀ W : World, (∀ i, W.cell? ⟨w1.heap.size, i, none⟩ = ds[i]?) → (lockLoad ⟨w1.heap.size, 0, none⟩ 18).run Tryz.prog W = .ok ds W := fun W h => lockLoad_arr ds 18 hds h
    change Code.wp _ _ _ _ (w2.alloc (.cells cs 26))
    clear hal1 hal2 hA hb1 hb2 hb3 hb4 hb5 HV4 HDS hone hone2 HCS H21 H20 hds
    generalize w2.alloc (.cells cs 26) = Wf at *
    generalize w1.heap.size = B1 at *
    have HK0 := Lib.hid hK0
    by_cases hc2 : cd = 2
    · have d2 : (cd == 2) = true := by simp [hc2]
      clear hc2 hK0 HL1
      go_wp2_with (first
        | (go_at_call 19; go_must (refine (H19.out _ HK0.out.2.good).mono ?_; rintro e w6 ⟨rfl, hb6⟩))
        | (fail))
      go_ret
      exact ⟨rfl, HK0.out.2.hb.trans (hb6.mono HK0.out.2.hb.size)⟩
    · have d2 : (cd == 2) = false := by simp [hc2]
      clear hc2
      have hld := HL1 Wf hK0.1
      have HL1h := Lib.hid HL1
      clear hK0 HL1
      go_cut [35] from 24 to 35 (fun c wx => ∃ b c' : Bool, c = .bool c' ∧ Hid (c' = !b) ∧ Hid (b = true → TextR r) ∧ Hid (Below Wf.heap.size Wf wx))
      case first =>
        go_wp2_with (first
          | (go_at_call 23; go_must (refine (conv23 r _ _ HK0.out.2.r1 HLN.out.out.1).mono ?_; rintro e w7 ⟨v7, rfl, hv7, hb7⟩; have HV7 := Lib.hid hv7; clear hv7))
          | (go_at_call 25; go_must (refine (textRule_any r v7 w7 HV7.out HIN.out.fq (Nat.le_trans HLN.out.out.1 (by decide))).mono ?_; rintro e w8 ⟨b, rfl, hT, hb8⟩; have HTb := Lib.hid hT; have HBb := Lib.hid (hb7.trans (hb8.mono hb7.size)); clear hT hb8; cases b))
          | (fail))
        all_goals
          go_meet
          first
            | exact ⟨false, _, rfl, Lib.hid rfl, Lib.hid (fun h => by cases h), HBb⟩
            | exact ⟨true, _, rfl, Lib.hid rfl, Lib.hid (fun _ => HTb.out (by simp)), HBb⟩
      case rest =>
      obtain ⟨b, c', rfl, HCC, HT, HB⟩ := hcut
      have HKc := Lib.hid (cr_call HK0.out HB.out)
      clear hld HK0
      cases c' with
      | true =>
        go_wp2_with (first
          | (go_at_call 19; go_must (refine (H19.out _ HKc.out.2.good).mono ?_; rintro e w6 ⟨rfl, hb6⟩))
          | (fail))
        go_ret
        exact ⟨rfl, HKc.out.2.hb.trans (hb6.mono HKc.out.2.hb.size)⟩
      | false =>
        have hb : b = true := by have h := HCC.out; cases b; exact absurd h (by decide); rfl
        have hT := HT.out hb
        have hN := optN_of hT HIN.out
        have hRO := ruleOf_optOf hT
        have hol := optL_len _ hN.ok
        have h31 : Hid (∀ v w, Good w → RuleIs w v r → Calls Tryz.prog 31 #[v] w fun e w' => e = .returned (.string (mkS (optL (optOf r)))) ∧ Below w.heap.size w w') := fun v w hG hv => optionText_any option_any r v w hG hv HIN.out.fq hN.ok HLN.out.out.1
        have h27 : Hid (∀ v w, Good w → RuleIs w v r → Calls Tryz.prog 27 #[.string (mkS (optL (optOf r))), v] w fun e w' => e = .returned (.bool true) ∧ Below w.heap.size w w') := fun v w hG hv => parsed_yes HRL.out _ (optOf r) v w hG hol (opt_back _ hN) (by rw [hRO]; exact hv) (by rw [hRO]; exact HLN.out)
        have h23 : Hid (∀ v w, RuleIs w v r → Calls Tryz.prog 23 #[v] w fun e w' => ∃ v', e = .returned v' ∧ RuleIs w' v' r ∧ Below w.heap.size w w') := fun v w hv => conv23 r v w hv HLN.out.out.1
        clear hT hN hRO hol HT HCC HB hb HRL HIN HLN
        generalize optL (optOf r) = t1 at *
        go_upto_region 9 with fail
        have HL1 := HL1h.out
        obtain ⟨hc1, hkw⟩ := HKc.out
        clear HL1h HKc
        as_aux_lemma =>
          go_region_held3 (fun w' => (∀ i, w'.cell? ⟨B1, i, none⟩ = ds[i]?) ∧ Cr w w' B1 ds r) (first
            | (with_reducible assumption)
            | (with_reducible exact cr_drew ⟨hc1, hkw⟩)
            | (with_reducible exact cr_drew (by assumption)))
            (first
            | (go_at_call 19; refine (H19.out _ (cr_cr (B1 := B1) (L1 := ds) (r := r) (w := w) (by with_reducible first | assumption | exact cr_drew ⟨hc1, hkw⟩)).good).mono ?_; rintro e w7 ⟨rfl, hb7⟩; have hKc := cr_call (by with_reducible first | assumption | exact cr_drew ⟨hc1, hkw⟩) hb7)
            | (go_at_call 31; refine (h31.out _ _ (cr_cr (B1 := B1) (L1 := ds) (r := r) (w := w) (by with_reducible first | assumption | exact cr_drew ⟨hc1, hkw⟩)).good (cr_cr (B1 := B1) (L1 := ds) (r := r) (w := w) (by with_reducible first | assumption | exact cr_drew ⟨hc1, hkw⟩)).r1).mono ?_; rintro e w9 ⟨rfl, hb9⟩; have hKe := cr_call (by with_reducible first | assumption | exact cr_drew ⟨hc1, hkw⟩) hb9)
            | (go_at_call 23; refine (h23.out _ _ (cr_cr (B1 := B1) (L1 := ds) (r := r) (w := w) (by with_reducible first | assumption | exact cr_drew ⟨hc1, hkw⟩)).r1).mono ?_; rintro e w10 ⟨v10, rfl, hv10, hb10⟩; have hKf := cr_call (by with_reducible first | assumption | exact cr_drew ⟨hc1, hkw⟩) hb10)
            | (go_at_call 27; refine (h27.out _ _ (cr_cr (B1 := B1) (L1 := ds) (r := r) (w := w) (by with_reducible first | assumption | exact cr_drew ⟨hc1, hkw⟩)).good (by with_reducible assumption)).mono ?_; rintro e w11 ⟨rfl, hb11⟩; have hKg := cr_call (by with_reducible first | assumption | exact cr_drew ⟨hc1, hkw⟩) hb11))
          all_goals
            go_wp2
            go_ret
            exact ⟨rfl, hKg.2.hb⟩
end Go.Proofs.YtcfbkkcamiephaaGreatDoor
