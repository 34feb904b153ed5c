import Derived.Test.YtcfbkkcamiephaaGreatDoorZ9
import Derived.Test.YtcfbkkcamiephaaGreatDoorZ7
import Derived.Test.YtcfbkkcamiephaaGreatDoorIw
namespace Go.Proofs.YtcfbkkcamiephaaGreatDoor
open Go.RowKit

attribute [local go_sem ↓] Go.wp_at_zero Go.wp_at_succ lockL_eq

/-! ### FnTextLast -/
theorem textR_bare {r : RuleD} (h : TextR r) : TextR (bareOf r) := ⟨h.fq, h.wk, in0, h.un, h.hu, rfl, h.dl, h.dy, h.l⟩
theorem ruleIn_bare {r : RuleD} (h : RuleIn r) : RuleIn (bareOf r) := ⟨h.fq, h.iv, h.ct, h.sp, h.mo, h.md, h.yd, h.wn, h.dy, h.ho, h.mi, h.se, h.ea⟩
/-- the two rules in their boxes -/
structure LS (w : World) (B1 B2 : Nat) (cs ds : Array Value) (W : World) : Prop where
  r1 : RowAt W B1 26 cs.toList
  r2 : RowAt W B2 26 ds.toList
  hb : Below w.heap.size w W
theorem LS.call {w W w1 : World} {B1 B2 : Nat} {cs ds : Array Value} (h : LS w B1 B2 cs ds W) (hb : Below W.heap.size W w1) : LS w B1 B2 cs ds w1 := ⟨h.r1.below hb, h.r2.below hb, h.hb.trans (hb.mono h.hb.size)⟩
theorem LS.c1 {w W : World} {B1 B2 : Nat} {cs ds : Array Value} (h : LS w B1 B2 cs ds W) (i : Nat) : W.cell? ⟨B1, i, none⟩ = cs[i]? := by rw [h.r1.cells]; simp
theorem LS.c2 {w W : World} {B1 B2 : Nat} {cs ds : Array Value} (h : LS w B1 B2 cs ds W) (i : Nat) : W.cell? ⟨B2, i, none⟩ = ds[i]? := by rw [h.r2.cells]; simp
/-- the two lists of parts -/
structure L6 (w : World) (B1 B2 : Nat) (cs ds : Array Value) (P Q : List Part) (b : Value × Value × Value × Value) (listed : Array Bool) (W : World) : Prop where
  ls : LS w B1 B2 cs ds W
  k1 : listed[1]? = some true → PartsV W b.1 P
  k3 : listed[3]? = some true → PartsV W b.2.1 Q
  k4 : listed[4]? = some true → PartsV W b.2.2.1 P
  k5 : listed[5]? = some true → PartsV W b.2.2.2 Q
section
variable {w W w1 : World} {B1 B2 : Nat} {cs ds : Array Value} {P Q : List Part} {b : Value × Value × Value × Value} {listed : Array Bool}
theorem L6.other (h : L6 w B1 B2 cs ds P Q b listed W) {i : Nat} (h1 : i ≠ 1) (h3 : i ≠ 3) (h4 : i ≠ 4) (h5 : i ≠ 5) : L6 w B1 B2 cs ds P Q b (listed.setIfInBounds i true) W :=
  ⟨h.ls, by rw [ne_get h1]; exact h.k1, by rw [ne_get h3]; exact h.k3, by rw [ne_get h4]; exact h.k4, by rw [ne_get h5]; exact h.k5⟩
theorem L6.made1 (h : L6 w B1 B2 cs ds P Q b listed W) (hb : Below W.heap.size W w1) (hl : LS w B1 B2 cs ds w1) {v : Value} (hv : PartsV w1 v P) : L6 w B1 B2 cs ds P Q (v, b.2.1, b.2.2.1, b.2.2.2) (listed.setIfInBounds 1 true) w1 :=
  ⟨hl, fun _ => hv, by rw [ne_get (by decide)]; exact fun e => (h.k3 e).below hb, by rw [ne_get (by decide)]; exact fun e => (h.k4 e).below hb, by rw [ne_get (by decide)]; exact fun e => (h.k5 e).below hb⟩
theorem L6.made3 (h : L6 w B1 B2 cs ds P Q b listed W) (hb : Below W.heap.size W w1) (hl : LS w B1 B2 cs ds w1) {v : Value} (hv : PartsV w1 v Q) : L6 w B1 B2 cs ds P Q (b.1, v, b.2.2.1, b.2.2.2) (listed.setIfInBounds 3 true) w1 :=
  ⟨hl, by rw [ne_get (by decide)]; exact fun e => (h.k1 e).below hb, fun _ => hv, by rw [ne_get (by decide)]; exact fun e => (h.k4 e).below hb, by rw [ne_get (by decide)]; exact fun e => (h.k5 e).below hb⟩
theorem L6.set4 (h : L6 w B1 B2 cs ds P Q b listed W) (h1 : listed[1]? = some true) : L6 w B1 B2 cs ds P Q (b.1, b.2.1, b.1, b.2.2.2) (listed.setIfInBounds 4 true) W :=
  ⟨h.ls, by rw [ne_get (by decide)]; exact h.k1, by rw [ne_get (by decide)]; exact h.k3, fun _ => h.k1 h1, by rw [ne_get (by decide)]; exact h.k5⟩
theorem L6.set5 (h : L6 w B1 B2 cs ds P Q b listed W) (h3 : listed[3]? = some true) : L6 w B1 B2 cs ds P Q (b.1, b.2.1, b.2.2.1, b.2.1) (listed.setIfInBounds 5 true) W :=
  ⟨h.ls, by rw [ne_get (by decide)]; exact h.k1, by rw [ne_get (by decide)]; exact h.k3, by rw [ne_get (by decide)]; exact h.k4, fun _ => h.k3 h3⟩
end
/-- the two rules that were read -/
structure L18 (w : World) (B1 B2 : Nat) (cs ds : Array Value) (Ba Bb : Nat) (As Bs : Array Value) (rx : RuleD) (b : Value × Value) (listed : Array Bool) (W : World) : Prop where
  ls : LS w B1 B2 cs ds W
  ra : RowAt W Ba 31 As.toList
  rb : RowAt W Bb 31 Bs.toList
  ia : RuleIs W (.agg As) rx
  ib : RuleIs W (.agg Bs) rx
  k9 : listed[9]? = some true → RuleIs W b.1 rx
  k11 : listed[11]? = some true → RuleIs W b.2 rx
section
variable {w W w1 : World} {B1 B2 Ba Bb : Nat} {cs ds As Bs : Array Value} {rx : RuleD} {b : Value × Value} {listed : Array Bool}
theorem L18.other (h : L18 w B1 B2 cs ds Ba Bb As Bs rx b listed W) {i : Nat} (h1 : i ≠ 9) (h3 : i ≠ 11) : L18 w B1 B2 cs ds Ba Bb As Bs rx b (listed.setIfInBounds i true) W :=
  ⟨h.ls, h.ra, h.rb, h.ia, h.ib, by rw [ne_get h1]; exact h.k9, by rw [ne_get h3]; exact h.k11⟩
theorem L18.call (h : L18 w B1 B2 cs ds Ba Bb As Bs rx b listed W) (hb : Below W.heap.size W w1) : L18 w B1 B2 cs ds Ba Bb As Bs rx b listed w1 :=
  ⟨h.ls.call hb, h.ra.below hb, h.rb.below hb, h.ia.below hb, h.ib.below hb, fun e => (h.k9 e).below hb, fun e => (h.k11 e).below hb⟩
theorem L18.made9 (h : L18 w B1 B2 cs ds Ba Bb As Bs rx b listed W) {v : Value} (hv : RuleIs W v rx) : L18 w B1 B2 cs ds Ba Bb As Bs rx (v, b.2) (listed.setIfInBounds 9 true) W :=
  ⟨h.ls, h.ra, h.rb, h.ia, h.ib, fun _ => hv, by rw [ne_get (by decide)]; exact h.k11⟩
theorem L18.made11 (h : L18 w B1 B2 cs ds Ba Bb As Bs rx b listed W) {v : Value} (hv : RuleIs W v rx) : L18 w B1 B2 cs ds Ba Bb As Bs rx (b.1, v) (listed.setIfInBounds 11 true) W :=
  ⟨h.ls, h.ra, h.rb, h.ia, h.ib, by rw [ne_get (by decide)]; exact h.k9, fun _ => hv⟩
end
theorem LS.grown {w W W' : World} {B1 B2 n N1 : Nat} {cs ds : Array Value} {u : Value} {ys : List Value} (h : LS w B1 B2 cs ds W) (hown : W.ownsRow N1 46 2 u n ys) (hN : w.heap.size ≤ N1) (hg : W.grownBy W' u.ownBlock) : LS w B1 B2 cs ds W' :=
  ⟨h.r1.grown (by decide) hown hg, h.r2.grown (by decide) hown hg, h.hb.grown hg h.hb.size (fun k hk => Nat.le_trans hN (hown.lt k hk).1)⟩
theorem lockLoad_two {W : World} {g q : Nat} {x y : Value} (h0 : W.cell? ⟨g, q, none⟩ = some x) (h1 : W.cell? ⟨g, q + 1, none⟩ = some y) : (lockLoad ⟨g, q, none⟩ 2).run Tryz.prog W = .ok #[x, y] W := by
  have := run_loadCells_list (P := Tryz.prog) W ⟨g, q, none⟩ [x, y] (fun j v hv => by
    rw [Addr.add_lit]
    match j, hv with
    | 0, hv => injection hv with hv; subst hv; exact h0
    | 1, hv => injection hv with hv; subst hv; exact h1
    | j + 2, hv => cases hv)
  exact this
theorem bareP_snoc (P : List Part) (p : Part) (k : Nat) (h : k < P.length) : bareP (P.take (k + 1)) p = bareP (P.take k) p ++ (if P[k].1 != p.1 then [P[k]] else []) := by
  unfold bareP
  rw [List.take_succ_eq_append_getElem h, List.filter_append]
  congr 1
  cases hq : P[k].1 != p.1 <;> simp [hq]
theorem bareP_mem {P : List Part} {p x : Part} (h : x ∈ bareP P p) : x ∈ P := (List.mem_filter.1 h).1
theorem bareP_len (P : List Part) (p : Part) : (bareP P p).length ≤ P.length := List.length_filter_le ..
set_option maxRecDepth 100000 in
set_option maxHeartbeats 25600000 in
theorem law_last (hrule : RuleAny) (r r2 : RuleD) (v v2 : Value) (n : Nat) (hn8 : n ≤ 255) (w : World) (hG : Good w) (hD : DayNms w) (hF : Freqs w) (hv : RuleIs w v r) (hin : RuleIn r) (hv2 : RuleIs w v2 r2) (hin2 : RuleIn r2) :
    Calls Tryz.prog 5 #[v, v2, .int .u8 (n : Int)] w fun e w' => e = .returned (.bool true) ∧ Below w.heap.size w w' := by
  obtain ⟨cs, rfl, hcs, _⟩ := ruleVal_cells hv
  obtain ⟨ds, rfl, hds, _⟩ := ruleVal_cells hv2
  obtain ⟨hr1, hr2, hb0, _⟩ := two_rows w cs ds 26 26
  have HL0 : Hid (LS w w.heap.size (w.heap.size + 1) cs ds ((w.alloc (.cells cs 26)).alloc (.cells ds 26))) := Lib.hid ⟨hr1, hr2, hb0⟩
  clear hr1 hr2 hb0
  have HCS := Lib.hid hcs
  have HDS := Lib.hid hds
  have HV := Lib.hid hv
  have HV2 := Lib.hid hv2
  have H19 : Hid (∀ B1 B2 cs W, LS w B1 B2 cs ds W → Calls Tryz.prog 19 #[] W fun e w' => e = .returned (.bool true) ∧ LS w B1 B2 cs ds w' ∧ Below W.heap.size W w') := Lib.hid (fun B1 B2 cs W h => (awake_any hrule option_any W (hG.below h.hb)).mono fun e w' ⟨a, b⟩ => ⟨a, h.call b, b⟩)
  have H24a : Hid (∀ B1 B2 W, LS w B1 B2 cs ds W → Calls Tryz.prog 24 #[.agg cs] W fun e w' => e = .returned (.bool (fitsB r)) ∧ LS w B1 B2 cs ds w') := Lib.hid (fun B1 B2 W h => (fits_any r (.agg cs) W (hv.below h.hb)).mono fun e w' ⟨a, b⟩ => ⟨a, h.call b⟩)
  have H24b : Hid (∀ B1 B2 W, LS w B1 B2 cs ds W → Calls Tryz.prog 24 #[.agg ds] W fun e w' => e = .returned (.bool (fitsB r2)) ∧ LS w B1 B2 cs ds w') := Lib.hid (fun B1 B2 W h => (fits_any r2 (.agg ds) W (hv2.below h.hb)).mono fun e w' ⟨a, b⟩ => ⟨a, h.call b⟩)
  have H25a : Hid (∀ B1 B2 W, fitsB r = true → LS w B1 B2 cs ds W → Calls Tryz.prog 25 #[.agg cs] W fun e w' => ∃ b : Bool, e = .returned (.bool b) ∧ (b = true → TextR r) ∧ LS w B1 B2 cs ds w') := Lib.hid (fun B1 B2 W hf h => (textRule_any r (.agg cs) W (hv.below h.hb) hin.fq (by
    simp only [fitsB, Bool.and_eq_true, decide_eq_true_eq] at hf
    exact hf.1.1.1.1.2)).mono fun e w' ⟨b, x, y, z⟩ => ⟨b, x, y, h.call z⟩)
  have H25b : Hid (∀ B1 B2 W, fitsB r2 = true → LS w B1 B2 cs ds W → Calls Tryz.prog 25 #[.agg ds] W fun e w' => ∃ b : Bool, e = .returned (.bool b) ∧ (b = true → TextR r2) ∧ LS w B1 B2 cs ds w') := Lib.hid (fun B1 B2 W hf h => (textRule_any r2 (.agg ds) W (hv2.below h.hb) hin2.fq (by
    simp only [fitsB, Bool.and_eq_true, decide_eq_true_eq] at hf
    exact hf.1.1.1.1.2)).mono fun e w' ⟨b, x, y, z⟩ => ⟨b, x, y, h.call z⟩)
  have HIN := Lib.hid hin
  have HIN2 := Lib.hid hin2
  have HG := Lib.hid hG
  have HD := Lib.hid hD
  have HF := Lib.hid hF
  have HRL := Lib.hid hrule
  clear hcs hds hv hv2 hin hin2 hG hD hF hrule
  go_enter Tryz.func5, Tryz.ntmps5
  go_upto_region 1 with fail
  change Code.wp _ _ _ _ ((w.alloc (.cells cs 26)).alloc (.cells ds 26))
  generalize (w.alloc (.cells cs 26)).alloc (.cells ds 26) = W0 at *
  have hne : w.heap.size ≠ w.heap.size + 1 := by omega
  have hB1 : w.heap.size ≤ w.heap.size := Nat.le_refl _
  have HNE := Lib.hid hne
  have HBB := Lib.hid hB1
  clear hne hB1
  generalize w.heap.size + 1 = B2 at *
  obtain ⟨B1, hB1⟩ : ∃ B1, B1 = w.heap.size := ⟨_, rfl⟩
  rw [← hB1] at HNE HBB
  have HL0 : Hid (LS w B1 B2 cs ds W0) := Lib.hid (by rw [hB1]; exact HL0.out)
  rw [← hB1]
  have HBW := Lib.hid hB1
  clear hB1
  cases hf1 : fitsB r with
  | false =>
    rw [hf1] at H24a
    clear hf1 H25a H25b H24b
    go_wp2_with (first
      | (refine wpList_load_row rfl 26 _ rfl B1 rfl 26 cs (0, 0) _ HL0.out.r1.blk Tryz.underlying26 rfl (by rw [HCS.out]; as_aux_lemma => kernel_rfl) ?_)
      | (go_at_call 24; go_must (refine (H24a.out _ _ _ HL0.out).mono ?_; rintro e w1 ⟨rfl, hl1⟩))
      | (fail))
    go_ret
    exact ⟨rfl, hl1.hb⟩
  | true =>
  rw [hf1] at H24a
  have H25a := Lib.hid (fun B1 B2 W => H25a.out B1 B2 W hf1)
  clear hf1
  cases hf2 : fitsB r2 with
  | false =>
    rw [hf2] at H24b
    clear hf2 H25a H25b
    go_wp2_with (first
      | (refine wpList_load_row rfl 26 _ rfl B1 rfl 26 cs (0, 0) _ HL0.out.r1.blk Tryz.underlying26 rfl (by rw [HCS.out]; as_aux_lemma => kernel_rfl) ?_)
      | (go_at_call_of 24 (Value.agg cs); go_must (refine (H24a.out _ _ _ HL0.out).mono ?_; rintro e w1 ⟨rfl, hl1⟩; have HL1 := Lib.hid hl1; have hld := lockLoad_arr (W := w1) (B := B2) ds 18 HDS.out hl1.c2; clear hl1))
      | (go_at_call_of 24 (Value.agg ds); go_must (refine (H24b.out _ _ _ HL1.out).mono ?_; rintro e w2 ⟨rfl, hl2⟩))
      | (fail))
    go_ret
    exact ⟨rfl, hl2.hb⟩
  | true =>
  rw [hf2] at H24b
  have H25b := Lib.hid (fun B1 B2 W => H25b.out B1 B2 W hf2)
  clear hf2
  go_upto_region 3 with (first
    | (refine wpList_load_row rfl 26 _ rfl B1 rfl 26 cs (0, 0) _ HL0.out.r1.blk Tryz.underlying26 rfl (by rw [HCS.out]; as_aux_lemma => kernel_rfl) ?_)
    | (go_at_call_of 24 (Value.agg cs); go_must (refine (H24a.out _ _ _ HL0.out).mono ?_; rintro e w1 ⟨rfl, hl1⟩; have HL1 := Lib.hid hl1; have hld := lockLoad_arr (W := w1) (B := B2) ds 18 HDS.out hl1.c2; clear hl1))
    | (go_at_call_of 24 (Value.agg ds); go_must (refine (H24b.out _ _ _ HL1.out).mono ?_; rintro e w2 ⟨rfl, hl2⟩; have HL2 := Lib.hid hl2; clear hl2))
    | (fail))
  clear H24a H24b HL0 HL1 hld
  go_cut [33] from 18 to 33 (fun c wx => ∃ c' : Bool, c = .bool c' ∧ Hid (c' = false → TextR r ∧ TextR r2) ∧ Hid (LS w B1 B2 cs ds wx))
  case first =>
    go_wp2_with (first
      | (refine wpList_load_row rfl 26 _ rfl B1 rfl 26 cs (0, 0) _ HL2.out.r1.blk Tryz.underlying26 rfl (by rw [HCS.out]; as_aux_lemma => kernel_rfl) ?_)
      | (go_at_call_of 25 (Value.agg cs); go_must (refine (H25a.out _ _ _ HL2.out).mono ?_; rintro e w3 ⟨b, rfl, hT, hl3⟩; have HT3 := Lib.hid hT; have HL3 := Lib.hid hl3; have hld := lockLoad_arr (W := w3) (B := B2) ds 18 HDS.out hl3.c2; clear hT hl3; cases b))
      | (fail))
    · go_meet
      exact ⟨true, rfl, Lib.hid (fun h => by cases h), HL3⟩
    · go_wp2_with (first
        | (go_at_call_of 25 (Value.agg ds); go_must (refine (H25b.out _ _ _ HL3.out).mono ?_; rintro e w4 ⟨b, rfl, hT, hl4⟩; have HT4 := Lib.hid hT; have HL4 := Lib.hid hl4; clear hT hl4; cases b))
        | (fail))
      · go_meet
        exact ⟨true, rfl, Lib.hid (fun h => by cases h), HL4⟩
      · go_meet
        exact ⟨false, rfl, Lib.hid (fun _ => ⟨HT3.out (by first | rfl | trivial), HT4.out (by first | rfl | trivial)⟩), HL4⟩
  case rest =>
  obtain ⟨c', rfl, HT, HL⟩ := hcut
  clear HL2 H25a H25b
  cases c' with
  | true =>
    go_wp2_with (first
      | (go_at_call 19; go_must (refine (H19.out _ _ _ _ HL.out).mono ?_; rintro e w3 ⟨rfl, hl3, _⟩))
      | (fail))
    go_ret
    exact ⟨rfl, hl3.hb⟩
  | false =>
  obtain ⟨hT, hT2⟩ := HT.out rfl
  have hTb := textR_bare hT
  have hIb := ruleIn_bare HIN.out
  have hN := optN_of hTb hIb
  have hN2 := optN_of hT2 HIN2.out
  obtain ⟨es, hes⟩ : ∃ es : Array Value, es = (cs.setIfInBounds 1 (.bool false)).setIfInBounds 2 (.int .i64 0) := ⟨_, rfl⟩
  have HES : Hid (es.size = 18) := Lib.hid (by rw [hes]; simp [HCS.out])
  have hq1 : cs.toList[1]? = some (cs[1]'(by rw [HCS.out]; omega)) := by simp
  have hq2 : cs.toList[2]? = some (cs[2]'(by rw [HCS.out]; omega)) := by simp
  have hc1 := HL.out.r1.cell 1 hq1
  have hc2 := HL.out.r1.cell 2 hq2
  have hfr1 := HL.out.r1.frozen 1
  have hfr2 := HL.out.r1.frozen 2
  generalize cs[1]'(by rw [HCS.out]; omega) = x1 at hc1
  generalize cs[2]'(by rw [HCS.out]; omega) = x2 at hc2
  clear hq1 hq2
  have HLb : Hid (LS w B1 B2 es ds ((wc.setCell ⟨B1, 1, none⟩ (.bool false)).setCell ⟨B1, 2, none⟩ (.int .i64 0))) := Lib.hid ⟨by
      have h := (HL.out.r1.set 1 (.bool false)).set 2 (.int .i64 0)
      rw [hes]
      simpa using h, (HL.out.r2.setOther (b := B1) (Ne.symm HNE.out) 1 _).setOther (b := B1) (Ne.symm HNE.out) 2 _, (HL.out.hb.setCell (Nat.le_of_eq HBW.out.symm) _).setCell (Nat.le_of_eq HBW.out.symm) _⟩
  have H29a : Hid (∀ W, LS w B1 B2 es ds W → Calls Tryz.prog 29 #[.agg es] W fun e w' => ∃ v', e = .returned v' ∧ PartsV w' v' (pairsOf (optOf (bareOf r))) ∧ LS w B1 B2 es ds w' ∧ Below W.heap.size W w') := Lib.hid (fun W h => (ruleParts_any (bareOf r) (.agg es) W (HD.out.below h.hb) (HF.out.below h.hb) (by rw [hes]; exact bare_cells (HV.out.below h.hb)) hTb hIb).mono fun e w' ⟨v', a, b, c⟩ => ⟨v', a, parts_own b, h.call c, c⟩)
  have H29b : Hid (∀ W, LS w B1 B2 es ds W → Calls Tryz.prog 29 #[.agg ds] W fun e w' => ∃ v', e = .returned v' ∧ PartsV w' v' (pairsOf (optOf r2)) ∧ LS w B1 B2 es ds w' ∧ Below W.heap.size W w') := Lib.hid (fun W h => (ruleParts_any r2 (.agg ds) W (HD.out.below h.hb) (HF.out.below h.hb) (HV2.out.below h.hb) hT2 HIN2.out).mono fun e w' ⟨v', a, b, c⟩ => ⟨v', a, parts_own b, h.call c, c⟩)
  have HPLAIN : Hid (∀ p ∈ pairsOf (optOf r2), ∃ X : Opt, optT (joinP (pairsOf (optOf (bareOf r)) ++ [p])) = some X ∧ optT (joinP (bareP (pairsOf (optOf (bareOf r))) p ++ [p])) = some X) := Lib.hid (fun p hp => last_plain _ _ hN hN2 p hp)
  have HSH : Hid (∀ p ∈ pairsOf (optOf r2), ∀ P : List Part, P.length ≤ (pairsOf (optOf (bareOf r))).length → (∀ x ∈ P, x ∈ pairsOf (optOf (bareOf r))) → PartsShort (P ++ [p]) ∧ (joinP (P ++ [p])).length ≤ 480016) := Lib.hid (fun p hp P h1 h2 => last_short _ _ hN.ok hN2.ok P h1 h2 p hp)
  have hPP : 0 < (pairsOf (optOf (bareOf r))).length := by
    unfold pairsOf
    rw [List.length_map]
    exact List.length_pos_iff.2 (idxs_ne _)
  have hQP : 0 < (pairsOf (optOf r2)).length := by
    unfold pairsOf
    rw [List.length_map]
    exact List.length_pos_iff.2 (idxs_ne _)
  have hPL := (pairs_short (optOf (bareOf r)) hN.ok).len
  have hQL := (pairs_short (optOf r2) hN2.ok).len
  clear hT hT2 hTb hIb hN hN2 hes HT HV HV2 HIN HIN2 HD HF
  generalize pairsOf (optOf (bareOf r)) = P at *
  generalize pairsOf (optOf r2) = Q at *
  go_upto_region 6 with fail
  change Code.wp _ _ _ _ ((wc.setCell ⟨B1, 1, none⟩ (.bool false)).setCell ⟨B1, 2, none⟩ (.int .i64 0))
  clear HL hc1 hc2 hfr1 hfr2 HCS
  generalize (wc.setCell ⟨B1, 1, none⟩ (.bool false)).setCell ⟨B1, 2, none⟩ (.int .i64 0) = W6 at *
  go_cut [7, 8] from 18 to 40 (fun va vb wx => Hid (PartsV wx va P) ∧ Hid (PartsV wx vb Q) ∧ Hid (LS w B1 B2 es ds wx))
  case first =>
    refine wp_region_table (β := Value × Value × Value × Value) (fun b => #[.agg cs, .agg ds, .int .u8 n, .pointer (some ⟨B1, 0, none⟩), .pointer (some ⟨B2, 0, none⟩), undef, .bool false, b.2.2.1, b.2.2.2, undef, undef, undef, undef, undef, undef, undef, undef, undef, u18, u19, u20, u21, u22, u23, u24, u25, u26, u27, u28, u29, u30, u31, u32, .bool false, undef, .pointer (some ⟨B1, 1, none⟩), .pointer (some ⟨B1, 2, none⟩), .agg es, b.1, .agg ds, b.2.1, undef, undef, undef, undef, undef, undef, undef, undef, undef, undef, undef, undef, undef, undef, undef, undef, undef, undef, undef, undef, undef, undef, undef, undef, undef, undef, undef, undef, undef, undef, undef, undef, undef, undef, undef, undef, undef, undef, undef, undef, undef, undef, undef, undef, undef, undef, undef, undef, undef, undef, undef, undef, undef, undef, undef, undef, undef, undef, undef]) (fun b listed W => L6 w B1 B2 es ds P Q b listed W) 100 (fun _ => rfl) rfl (by kernel_rfl) (undef, undef, undef, undef) rfl [7, 8, 37, 38, 39, 40] (by kernel_rfl) (by kernel_rfl) (⟨HLb.out.call (Below.refl _ _).drew, fun e => absurd e (none_listed 6 _), fun e => absurd e (none_listed 6 _), fun e => absurd e (none_listed 6 _), fun e => absurd e (none_listed 6 _)⟩) ?hs ?hdone
    case hs =>
      refine ⟨StepF.of (fun b listed w1 hB hf hdep K' Q' hK' => ?_), ?_⟩
      · have hld := lockLoad_arr (W := w1) (B := B1) es 18 HES.out hB.ls.c1
        clear hf hdep
        go_simp
        refine hK'.out _ _ ⟨rfl, b, fun _ _ => rfl, fun d e => (by cases e; rfl), hB.other (by decide) (by decide) (by decide) (by decide)⟩
      refine ⟨StepF.of (fun b listed w1 hB hf hdep K' Q' hK' => ?_), ?_⟩
      · clear hf hdep
        go_simp
        go_at_call 29
        refine (H29a.out _ hB.ls).mono ?_
        rintro e w2 ⟨v', rfl, hp, hl, hb⟩
        try dsimp only
        refine hK'.out _ _ ⟨rfl, (v', b.2.1, b.2.2.1, b.2.2.2), fun k e => getD_upd2 (d := 38) (v := v') rfl e, fun d e => (by cases e; rfl), hB.made1 hb hl hp⟩
      refine ⟨StepF.of (fun b listed w1 hB hf hdep K' Q' hK' => ?_), ?_⟩
      · have hld := lockLoad_arr (W := w1) (B := B2) ds 18 HDS.out hB.ls.c2
        clear hf hdep
        go_simp
        refine hK'.out _ _ ⟨rfl, b, fun _ _ => rfl, fun d e => (by cases e; rfl), hB.other (by decide) (by decide) (by decide) (by decide)⟩
      refine ⟨StepF.of (fun b listed w1 hB hf hdep K' Q' hK' => ?_), ?_⟩
      · clear hf hdep
        go_simp
        go_at_call 29
        refine (H29b.out _ hB.ls).mono ?_
        rintro e w2 ⟨v', rfl, hp, hl, hb⟩
        try dsimp only
        refine hK'.out _ _ ⟨rfl, (b.1, v', b.2.2.1, b.2.2.2), fun k e => getD_upd2 (d := 40) (v := v') rfl e, fun d e => (by cases e; rfl), hB.made3 hb hl hp⟩
      refine ⟨StepF.of (fun b listed w1 hB hf hdep K' Q' hK' => ?_), ?_⟩
      · have h1 := hdep ⟨1, .data⟩ (by simp) rfl
        clear hf hdep
        go_simp
        refine hK'.out _ _ ⟨rfl, (b.1, b.2.1, b.1, b.2.2.2), fun k e => getD_upd2 (d := 7) (v := b.1) rfl e, fun d e => (by cases e; rfl), hB.set4 h1⟩
      refine ⟨StepF.of (fun b listed w1 hB hf hdep K' Q' hK' => ?_), ?_⟩
      · have h3 := hdep ⟨3, .data⟩ (by simp) rfl
        clear hf hdep
        go_simp
        refine hK'.out _ _ ⟨rfl, (b.1, b.2.1, b.2.2.1, b.2.1), fun k e => getD_upd2 (d := 8) (v := b.2.1) rfl e, fun d e => (by cases e; rfl), hB.set5 h3⟩
      trivial
    case hdone =>
      intro b listed w5 hK hall
      have h4 := hK.k4 (hall 4 (by decide))
      have h5 := hK.k5 (hall 5 (by decide))
      have hl5 := hK.ls
      clear hall hK
      go_wp2
      go_meet
      exact ⟨Lib.hid h4, Lib.hid h5, Lib.hid hl5⟩
  case rest =>
  obtain ⟨HPa, HPb, HL⟩ := hcut
  clear HLb H29a H29b
  obtain ⟨a1, c1, rfl, hr1⟩ := HPa.out
  obtain ⟨g1, gq1, rfl, hp1⟩ : ∃ g gq, a1 = some ⟨g, gq, none⟩ ∧ PartRow wc g gq P := by
    rcases hr1 with h | h
    · rw [h] at hPP; cases hPP
    · exact h
  obtain ⟨a2, c2, rfl, hr2⟩ := HPb.out
  obtain ⟨g2, gq2, rfl, hp2⟩ : ∃ g gq, a2 = some ⟨g, gq, none⟩ ∧ PartRow wc g gq Q := by
    rcases hr2 with h | h
    · rw [h] at hQP; cases hQP
    · exact h
  have HR1 := Lib.hid hp1
  have hz : ((Q.length : Int) == 0) = false := beq_eq_false_iff_ne.2 (by omega)
  obtain ⟨k, hk, hrem⟩ : ∃ k : Nat, k < Q.length ∧ Int.tmod (n : Int) (Q.length : Int) = (k : Int) := ⟨n % Q.length, Nat.mod_lt _ hQP, rfl⟩
  obtain ⟨hq0, hq1⟩ := hp2.cell k Q[k] (List.getElem?_eq_getElem hk)
  have hwn : wrap64 (n : Int) = (n : Int) := IntWalk.wrap64_in _ (by omega)
  have HPM := Lib.hid (List.getElem_mem hk)
  generalize Q[k] = p at hq0 hq1 HPM
  obtain ⟨p1, p2⟩ := p
  simp only at hq0 hq1
  have hkn : ((k : Int)).toNat = k := by omega
  have hlq : (lockLoad ⟨g2, gq2 + k * 2, none⟩ 2).run Tryz.prog wc = .ok #[.string (mkS p1), .string (mkS p2)] wc := lockLoad_two hq0 hq1
  have hk0 : (0 : Int) ≤ (k : Int) := Int.natCast_nonneg _
  have hk1 : (k : Int) < (Q.length : Int) := by omega
  clear hr1 hr2 hp1 hp2 HPa HPb
  go_upto_region 7 with fail
  obtain ⟨wp, rfl⟩ : ∃ W : World, W = wc := ⟨_, rfl⟩
  go_cut [9] from 41 to 48 (fun pv wx => pv = .pointer (some ⟨wp.heap.size, 0, none⟩) ∧ wx = wp.alloc (.cells #[strV p1, strV p2] 46))
  case first =>
    go_wp2
    go_meet
    exact ⟨rfl, rfl⟩
  case rest =>
  obtain ⟨rfl, hwx⟩ := hcut
  have hal : Below wp.heap.size wp wc := by rw [hwx]; exact (Below.refl _ _).alloc (Nat.le_refl _) _
  have HRP : Hid (RowAt wc wp.heap.size 46 [strV p1, strV p2]) := Lib.hid ⟨by rw [hwx, heap_alloc_new]⟩
  have HL7 := Lib.hid (HL.out.call hal)
  have HR7 := Lib.hid (HR1.out.below hal)
  clear hwx hal HL HR1 hq0 hq1 hrem hk hk0 hk1 hz hlq hkn hwn
  generalize wp.heap.size = B3 at *
  obtain ⟨X, hX1, hX2⟩ := HPLAIN.out _ HPM.out
  obtain ⟨hs1, hl1⟩ := HSH.out _ HPM.out P (Nat.le_refl _) (fun _ h => h)
  obtain ⟨hs2, hl2⟩ := HSH.out _ HPM.out (bareP P (p1, p2)) (bareP_len _ _) (fun _ h => bareP_mem h)
  have H30a : Hid (∀ v W, PartsV W v (P ++ [(p1, p2)]) → Calls Tryz.prog 30 #[v] W fun e w' => e = .returned (.string (mkS (joinP (P ++ [(p1, p2)])))) ∧ Below W.heap.size W w') := Lib.hid (fun v W h => partsText_any _ v W h hs1)
  have H30b : Hid (∀ v W, PartsV W v (bareP P (p1, p2) ++ [(p1, p2)]) → Calls Tryz.prog 30 #[v] W fun e w' => e = .returned (.string (mkS (joinP (bareP P (p1, p2) ++ [(p1, p2)])))) ∧ Below W.heap.size W w') := Lib.hid (fun v W h => partsText_any _ v W h hs2)
  have hln := (optT_g _ X hX1).len (by omega)
  have hpar : ∀ (l : List UInt8), l.length ≤ 480016 → optT l = some X → ∀ W, LS w B1 B2 es ds W → Calls Tryz.prog 21 #[.string (mkS l)] W fun e w' => ∃ v, e = .returned (.tuple #[v, .bool true]) ∧ RuleIs w' v (ruleOf X) ∧ LS w B1 B2 es ds w' ∧ Below W.heap.size W w' := fun l hl ho W h => by
    have h21 := parse21_any HRL.out l W (HG.out.below h.hb) (by omega)
    rw [ho] at h21
    exact h21.mono fun e w' ⟨a, v, b, c⟩ => ⟨v, b, c, h.call a, a⟩
  have H21a := Lib.hid (hpar _ hl1 hX1)
  have H21b := Lib.hid (hpar _ hl2 hX2)
  have HLN := Lib.hid hln
  clear hpar hX1 hX2 hs1 hs2 hl1 hl2 hln HPLAIN HSH HPM
  generalize ruleOf X = rx at *
  generalize hT1 : joinP (P ++ [(p1, p2)]) = T1 at *
  generalize hT2 : joinP (bareP P (p1, p2) ++ [(p1, p2)]) = T2 at *
  clear hT1 hT2
  have tp1 := toList_mkS p1
  go_upto_region 8 with fail
  obtain ⟨wq, rfl⟩ : ∃ W : World, W = wc := ⟨_, rfl⟩
  go_cut [10] from 41 to 55 (fun tv wx => tv = .string (mkS T1) ∧ Hid (Below wq.heap.size wq wx))
  case first =>
    refine wp_region_table (β := Nat × Value × Nat × Value) (fun b => #[.agg cs, .agg ds, .int .u8 n, .pointer (some ⟨B1, 0, none⟩), .pointer (some ⟨B2, 0, none⟩), undef, .bool false, .slice (some ⟨g1, gq1, none⟩) P.length c1, .slice (some ⟨g2, gq2, none⟩) Q.length c2, .pointer (some ⟨B3, 0, none⟩), .string (mkS T1), undef, undef, undef, undef, undef, undef, undef, u18, u19, u20, u21, u22, u23, u24, u25, u26, u27, u28, u29, u30, u31, u32, u33, u34, u35, u36, u37, u38, u39, u40, u41, u42, u43, u44, u45, u46, u47, u48, .slice (some ⟨b.1, 0, none⟩) 0 0, .slice (some ⟨g1, gq1, none⟩) P.length c1, b.2.1, .agg #[strV p1, strV p2], .slice (some ⟨b.2.2.1, 0, none⟩) 1 1, b.2.2.2, .string (mkS T1), undef, undef, undef, undef, undef, undef, undef, undef, undef, undef, undef, undef, undef, undef, undef, undef, undef, undef, undef, undef, undef, undef, undef, undef, undef, undef, undef, undef, undef, undef, undef, undef, undef, undef, undef, undef, undef, undef, undef, undef, undef, undef, undef, undef]) (fun b listed W => L8 wq.drew P (p1, p2) b listed W) 100 (fun _ => rfl) rfl (by kernel_rfl) (0, undef, 0, undef) rfl [10, 49, 50, 51, 52, 53, 54, 55] (by kernel_rfl) (by kernel_rfl) (L8.start (none_listed 8) (Below.refl _ _)) ?hs ?hdone
    case hs =>
      refine ⟨StepF.of (fun b listed w1 hB hf hdep K' Q' hK' => ?_), ?_⟩
      · have hm := hB.made0 hf
        clear hf hdep
        go_simp
        refine hK'.out _ _ ⟨rfl, (w1.heap.size, b.2.1, b.2.2.1, b.2.2.2), fun k e => getD_upd2 (d := 49) (v := .slice (some ⟨w1.heap.size, 0, none⟩) 0 0) rfl e, fun d e => (by cases e; rfl), hm⟩
      refine ⟨StepF.of (fun b listed w1 hB hf hdep K' Q' hK' => ?_), ?_⟩
      · clear hf hdep
        go_simp
        refine hK'.out _ _ ⟨rfl, b, fun _ _ => rfl, fun d e => (by cases e; rfl), hB.other (by decide) (by decide) (by decide) (by decide)⟩
      refine ⟨StepF.of (fun b listed w1 hB hf hdep K' Q' hK' => ?_), ?_⟩
      · have h0 := hdep ⟨0, .data⟩ (by simp) rfl
        refine step_l2 (.tmp 49) (.tmp 50) hB h0 hf hPP hPL (HR7.out.below (Below.refl _ _).drew) rfl rfl rfl (fun v1 w2 h => ?_)
        exact hK'.out _ _ ⟨rfl, (b.1, v1, b.2.2.1, b.2.2.2), fun k e => getD_upd2 (d := 51) (v := v1) rfl e, fun d e => (by cases e; rfl), h⟩
      refine ⟨StepF.of (fun b listed w1 hB hf hdep K' Q' hK' => ?_), ?_⟩
      · have hr3 := (HRP.out.below (Below.refl _ _).drew).below hB.hb
        have hc0 : w1.cell? ⟨B3, 0, none⟩ = some (strV p1) := hr3.cell 0 rfl
        have hc1 : w1.cell? ⟨B3, 1, none⟩ = some (strV p2) := hr3.cell 1 rfl
        have hlq := lockLoad_two hc0 hc1
        clear hf hdep hr3 hc0 hc1
        go_simp
        refine hK'.out _ _ ⟨rfl, b, fun _ _ => rfl, fun d e => (by cases e; rfl), hB.other (by decide) (by decide) (by decide) (by decide)⟩
      refine ⟨StepF.of (fun b listed w1 hB hf hdep K' Q' hK' => ?_), ?_⟩
      · have hm := hB.made4 hf
        clear hf hdep
        go_simp
        refine hK'.out _ _ ⟨rfl, (b.1, b.2.1, w1.heap.size, b.2.2.2), fun k e => getD_upd2 (d := 53) (v := .slice (some ⟨w1.heap.size, 0, none⟩) 1 1) rfl e, fun d e => (by cases e; rfl), hm⟩
      refine ⟨StepF.of (fun b listed w1 hB hf hdep K' Q' hK' => ?_), ?_⟩
      · have h2 := hdep ⟨2, .data⟩ (by simp) rfl
        have h4 := hdep ⟨4, .data⟩ (by simp) rfl
        refine step_l5 (.tmp 51) (.tmp 53) hB h2 h4 hf hPL rfl rfl rfl (fun v1 w2 h => ?_)
        exact hK'.out _ _ ⟨rfl, (b.1, b.2.1, b.2.2.1, v1), fun k e => getD_upd2 (d := 54) (v := v1) rfl e, fun d e => (by cases e; rfl), h⟩
      refine ⟨StepF.of (fun b listed w1 hB hf hdep K' Q' hK' => ?_), ?_⟩
      · have h5 := hdep ⟨5, .data⟩ (by simp) rfl
        have hp : PartsV w1 b.2.2.2 (P ++ [(p1, p2)]) := parts_own (B := wq.drew.heap.size) (by rw [flatP_snoc, List.length_append]; exact hB.own2 h5)
        clear hf hdep
        go_simp
        go_at_call 30
        refine (H30a.out _ _ hp).mono ?_
        rintro e w2 ⟨rfl, hb2⟩
        try dsimp only
        refine hK'.out _ _ ⟨rfl, b, fun _ _ => rfl, fun d e => (by cases e; rfl), (hB.call hb2).other (by decide) (by decide) (by decide) (by decide)⟩
      refine ⟨StepF.of (fun b listed w1 hB hf hdep K' Q' hK' => ?_), ?_⟩
      · clear hf hdep
        go_simp
        refine hK'.out _ _ ⟨rfl, b, fun _ _ => rfl, fun d e => (by cases e; rfl), hB.other (by decide) (by decide) (by decide) (by decide)⟩
      trivial
    case hdone =>
      intro b listed w5 hK hall
      have hb5 := hK.hb
      clear hall hK
      go_wp2
      go_meet
      exact ⟨rfl, Lib.hid (((Below.refl wq.heap.size wq).drew).trans (hb5.mono (Nat.le_refl _)))⟩
  case rest =>
  obtain ⟨rfl, HB8⟩ := hcut
  have HL8 := Lib.hid (HL7.out.call HB8.out)
  have HR8 := Lib.hid (HR7.out.below HB8.out)
  have HP8 := Lib.hid (HRP.out.below HB8.out)
  clear HL7 HR7 HRP HB8 H30a
  go_wp2
  obtain ⟨wr0, rfl⟩ : ∃ W : World, W = wc := ⟨_, rfl⟩
  obtain ⟨N1, hN1⟩ : ∃ N1 : Nat, N1 = wr0.heap.size := ⟨_, rfl⟩
  have HN1 := Lib.hid hN1
  clear hN1
  go_loopw [11, 58] (fun bv i wr => ∃ k : Nat, k ≤ P.length ∧ i = .int .i64 k ∧ Hid (wr.ownsRow N1 46 2 bv (bareP (P.take k) (p1, p2)).length (flatP (bareP (P.take k) (p1, p2)))) ∧ Hid (Below N1 wr0 wr) ∧ Hid (AllStr wr bv)) (fun _ i _ => P.length - (intOf i).toNat)
  case atStart => exact ⟨0, by omega, rfl, Lib.hid (World.ownsRow_nil _ _ _ _), Lib.hid (Below.refl _ _), Lib.hid (allStr_nil _)⟩
  case round =>
  obtain ⟨k, hk, rfl, HOW, HB, HST⟩ := hrel
  have HBr : Hid (Below wr0.heap.size wr0 wr) := Lib.hid (by rw [← HN1.out]; exact HB.out)
  by_cases hlt : k < P.length
  case pos =>
    obtain ⟨hc0, hc1⟩ := (HR8.out.below HBr.out).cell k P[k] (List.getElem?_eq_getElem hlt)
    have HSN := Lib.hid (bareP_snoc P (p1, p2) k hlt)
    generalize P[k] = x at hc0 hc1 HSN
    obtain ⟨x1, x2⟩ := x
    simp only at hc0 hc1 HSN
    have hbl : (bareP (P.take k) (p1, p2)).length ≤ 1000 := Nat.le_trans (bareP_len _ _) (by rw [List.length_take]; omega)
    generalize bareP (P.take k) (p1, p2) = Bk at *
    have tx1 := toList_mkS x1
    have hlq : (lockLoad ⟨g1, gq1 + k * 2, none⟩ 2).run Tryz.prog wr = .ok #[.string (mkS x1), .string (mkS x2)] wr := lockLoad_two hc0 hc1
    have hal : Below wr.heap.size wr (wr.alloc (.cells #[strV x1, strV x2] 46)) := (Below.refl _ _).alloc (Nat.le_refl _) _
    have hal2 : Below (wr.alloc (.cells #[strV x1, strV x2] 46)).heap.size (wr.alloc (.cells #[strV x1, strV x2] 46)) ((wr.alloc (.cells #[strV x1, strV x2] 46)).alloc (.cells #[strV x1, strV x2] 46)) := (Below.refl _ _).alloc (Nat.le_refl _) _
    have hp8 := (HP8.out.below HBr.out).below hal
    have hkp : (wr.alloc (.cells #[strV x1, strV x2] 46)).cell? ⟨B3, 0, none⟩ = some (.string (mkS p1)) := hp8.cell 0 rfl
    have hrx : RowAt (wr.alloc (.cells #[strV x1, strV x2] 46)) wr.heap.size 46 [strV x1, strV x2] := ⟨by rw [heap_alloc_new]⟩
    have hkx0 : (wr.alloc (.cells #[strV x1, strV x2] 46)).cell? ⟨wr.heap.size, 0, none⟩ = some (.string (mkS x1)) := hrx.cell 0 rfl
    have hkx1 : (wr.alloc (.cells #[strV x1, strV x2] 46)).cell? ⟨wr.heap.size, 1, none⟩ = some (.string (mkS x2)) := hrx.cell 1 rfl
    have hbz : N1 ≤ wr.heap.size := by rw [HN1.out]; exact HBr.out.size
    have HBA : Hid (Below N1 wr0 (wr.alloc (.cells #[strV x1, strV x2] 46))) := Lib.hid (HB.out.trans (hal.mono hbz))
    have HOA := Lib.hid (own_call HOW.out hal)
    have HSA := Lib.hid (HST.out.call hal)
    go_upto_region 13 with fail
    change Code.wp _ _ _ _ (wr.alloc (.cells #[strV x1, strV x2] 46))
    have hlx := lockLoad_two hkx0 hkx1
    clear hal hp8 hrx HOW HB HBr HST hc0 hc1 hal2 hlq
    generalize wr.alloc (.cells #[strV x1, strV x2] 46) = W13 at *
    generalize wr.heap.size = n13 at *
    cases hxp : x1 == p1 with
    | true =>
      rw [show ((x1 != p1) : Bool) = false by rw [bne, hxp]; rfl] at HSN
      have e1 : x1 = p1 := by simpa using hxp
      subst e1
      clear hxp
      go_wp2
      go_roundw
      case rel => exact ⟨k + 1, by omega, by go_num, Lib.hid (by rw [HSN.out, if_neg (by decide), List.append_nil]; exact HOA.out), HBA, HSA⟩
      case measure => simp [intOf]; omega
    | false =>
      rw [show ((x1 != p1) : Bool) = true by rw [bne, hxp]; rfl] at HSN
      have n1 : (!(x1 == p1)) = true := by rw [hxp]; rfl
      have hal : Below W13.heap.size W13 (W13.alloc (.cells #[strV x1, strV x2] 46)) := (Below.refl _ _).alloc (Nat.le_refl _) _
      have HOL := Lib.hid (own_call HOA.out hal)
      have HSL := Lib.hid (HSA.out.call hal)
      have HBL : Hid (Below N1 wr0 (W13.alloc (.cells #[strV x1, strV x2] 46))) := Lib.hid (HBA.out.trans (hal.mono (by have := HBA.out.size; rw [HN1.out]; exact this)))
      have hbzL : N1 ≤ (W13.alloc (.cells #[strV x1, strV x2] 46)).heap.size := by rw [HN1.out]; exact HBL.out.size
      have HNW : Hid (∀ j u, [strV x1, strV x2][j]? = some u → (W13.alloc (.cells #[strV x1, strV x2] 46)).cell? ((⟨W13.heap.size, 0, none⟩ : Addr).add j) = some u) := Lib.hid (World.news_of_block (cs := #[strV x1, strV x2]) (t := 46) (fr := (0, 0)) (heap_alloc_new W13 _))
      clear hal HOA HBA HSA hxp
      go_wp2_with (first
        | (at_builtin; go_must (refine wpList_append_str rfl (.tmp 67) (.tmp 69) rfl rfl HOL.out HSL.out ⟨W13.heap.size, 0, none⟩ 1 [strV x1, strV x2] rfl rfl HNW.out (by simp [strV, isStr]) (by omega) hbzL (fun v1 w6 h1 h2 h3 => ?_)))
        | (fail))
      have HO6 := Lib.hid h1
      have HB6 : Hid (Below N1 wr0 w6) := Lib.hid (HBL.out.grown h2 hbzL (fun k hk => (HOL.out.lt k hk).1))
      have HS6 := Lib.hid h3
      clear h1 h2 h3
      go_roundw
      case rel => exact ⟨k + 1, by omega, by go_num, Lib.hid (by rw [HSN.out, if_pos rfl, List.length_append, flatP_snoc]; exact HO6.out), HB6, HS6⟩
      case measure => simp [intOf]; omega
  case neg =>
  obtain rfl : k = P.length := by omega
  rw [List.take_length] at HOW
  have HL9 := Lib.hid (HL8.out.call HBr.out)
  have HP9 := Lib.hid (HP8.out.below HBr.out)
  have hBPl : (bareP P (p1, p2)).length ≤ 1000 := Nat.le_trans (bareP_len _ _) hPL
  have hN1r : N1 ≤ wr.heap.size := by rw [HN1.out]; exact HBr.out.size
  have hNw : w.heap.size ≤ N1 := by rw [HN1.out]; exact HL8.out.hb.size
  clear HB HBr HL8 HR8 HP8 HN1 hlt hk
  generalize bareP P (p1, p2) = BP at *
  go_upto_region 16 with fail
  obtain ⟨ws, rfl⟩ : ∃ W : World, W = wr := ⟨_, rfl⟩
  go_cut [14, 15] from 72 to 76 (fun pv ov wx => ∃ (Ba : Nat) (As : Array Value), pv = .pointer (some ⟨Ba, 0, none⟩) ∧ ov = .bool true ∧ Hid (As.size = 18) ∧ Hid (RowAt wx Ba 31 As.toList) ∧ Hid (RuleIs wx (.agg As) rx) ∧ Hid (Below ws.heap.size ws wx))
  case first =>
    go_wp2_with (first
      | (go_at_call 21; go_must (refine (H21a.out _ HL9.out).mono ?_; rintro e w1 ⟨v3, rfl, hv3, hl3, hb3⟩; obtain ⟨As, rfl, has, ha1⟩ := ruleVal_cells hv3; have HV3 := Lib.hid hv3; have HAS := Lib.hid has; have HB3 := Lib.hid hb3; clear hv3 has hb3 hl3))
      | (refine Great.wpList_runTo rfl (some 14) rfl _ _ (run_al31 _ _ rfl _) ?_)
      | (refine wpList_store_fresh rfl 31 _ _ rfl ruleZ0 As rfl rfl (by rw [HAS.out]; as_aux_lemma => kernel_rfl) (by rw [HAS.out]; rfl) ha1 ?_)
      | (fail))
    go_meet
    have hal : Below w1.heap.size w1 (w1.alloc (.cells As 31)) := (Below.refl _ _).alloc (Nat.le_refl _) _
    exact ⟨w1.heap.size, As, rfl, rfl, HAS, Lib.hid ⟨by rw [heap_alloc_new]⟩, Lib.hid (HV3.out.below hal), Lib.hid (HB3.out.trans (hal.mono HB3.out.size))⟩
  case rest =>
  obtain ⟨Ba, As, rfl, rfl, HAS, HRA, HIA, HBa⟩ := hcut
  have HLa := Lib.hid (HL9.out.call HBa.out)
  have HPa := Lib.hid (HP9.out.below HBa.out)
  have HOa := Lib.hid (own_call HOW.out HBa.out)
  have HSa := Lib.hid (HST.out.call HBa.out)
  have hN1a : N1 ≤ wc.heap.size := Nat.le_trans hN1r HBa.out.size
  clear HL9 HP9 HOW HBa H21a hN1r HST
  go_upto_region 17 with fail
  obtain ⟨wt, rfl⟩ : ∃ W : World, W = wc := ⟨_, rfl⟩
  have hal : Below wt.heap.size wt (wt.alloc (.cells #[strV p1, strV p2] 46)) := (Below.refl _ _).alloc (Nat.le_refl _) _
  have HOL := Lib.hid (own_call HOa.out hal)
  have HSL := Lib.hid (HSa.out.call hal)
  have HLL := Lib.hid (HLa.out.call hal)
  have HRL2 := Lib.hid (HRA.out.below hal)
  have HIL := Lib.hid (HIA.out.below hal)
  have HNW : Hid (∀ j u, [strV p1, strV p2][j]? = some u → (wt.alloc (.cells #[strV p1, strV p2] 46)).cell? ((⟨wt.heap.size, 0, none⟩ : Addr).add j) = some u) := Lib.hid (World.news_of_block (cs := #[strV p1, strV p2]) (t := 46) (fr := (0, 0)) (heap_alloc_new wt _))
  have hbzL : N1 ≤ (wt.alloc (.cells #[strV p1, strV p2] 46)).heap.size := Nat.le_trans hN1a hal.size
  have hpc0 : wt.cell? ⟨B3, 0, none⟩ = some (.string (mkS p1)) := HPa.out.cell 0 rfl
  have hpc1 : wt.cell? ⟨B3, 1, none⟩ = some (.string (mkS p2)) := HPa.out.cell 1 rfl
  have hlq := lockLoad_two hpc0 hpc1
  clear hal HOa HSa HLa HRA HIA HPa
  go_cut [16, 17] from 77 to 85 (fun pv ov wx => ∃ (Bb : Nat) (Bs : Array Value), pv = .pointer (some ⟨Bb, 0, none⟩) ∧ ov = .bool true ∧ Hid (Bs.size = 18) ∧ Hid (RowAt wx Bb 31 Bs.toList) ∧ Hid (RuleIs wx (.agg Bs) rx) ∧ Hid (RowAt wx Ba 31 As.toList) ∧ Hid (RuleIs wx (.agg As) rx) ∧ Hid (LS w B1 B2 es ds wx))
  case first =>
    go_wp2_with (first
      | (at_builtin; go_must (refine wpList_append_str rfl (.tmp 78) (.tmp 80) rfl rfl HOL.out HSL.out ⟨wt.heap.size, 0, none⟩ 1 [strV p1, strV p2] rfl rfl HNW.out (by simp [strV, isStr]) (by omega) hbzL (fun v1 w6 h1 h2 h3 => ?_)); have HP6 := Lib.hid (parts_own (B := N1) (P := BP ++ [(p1, p2)]) (by rw [flatP_snoc, List.length_append]; exact h1)); have HL6 := Lib.hid (HLL.out.grown HOL.out hNw h2); have HR6 := Lib.hid (HRL2.out.grown (by decide) HOL.out h2); have HI6 := Lib.hid (HIL.out.grown HSL.out h2); clear h1 h2 h3)
      | (go_at_call 30; go_must (refine (H30b.out _ _ HP6.out).mono ?_; rintro e w7 ⟨rfl, hb7⟩; have HL7 := Lib.hid (HL6.out.call hb7); have HR7 := Lib.hid (HR6.out.below hb7); have HI7 := Lib.hid (HI6.out.below hb7); clear hb7))
      | (go_at_call 21; go_must (refine (H21b.out _ HL7.out).mono ?_; rintro e w1 ⟨v3, rfl, hv3, hl3, hb3⟩; obtain ⟨Bs, rfl, hbs, hb1⟩ := ruleVal_cells hv3; have HV3 := Lib.hid hv3; have HBS := Lib.hid hbs; have HL8 := Lib.hid hl3; have HR8 := Lib.hid (HR7.out.below hb3); have HI8 := Lib.hid (HI7.out.below hb3); clear hv3 hbs hb3 hl3))
      | (refine Great.wpList_runTo rfl (some 16) rfl _ _ (run_al31 _ _ rfl _) ?_)
      | (refine wpList_store_fresh rfl 31 _ _ rfl ruleZ0 Bs rfl rfl (by rw [HBS.out]; as_aux_lemma => kernel_rfl) (by rw [HBS.out]; rfl) hb1 ?_)
      | (fail))
    go_meet
    have hal : Below w1.heap.size w1 (w1.alloc (.cells Bs 31)) := (Below.refl _ _).alloc (Nat.le_refl _) _
    exact ⟨w1.heap.size, Bs, rfl, rfl, HBS, Lib.hid ⟨by rw [heap_alloc_new]⟩, Lib.hid (HV3.out.below hal), Lib.hid (HR8.out.below hal), Lib.hid (HI8.out.below hal), Lib.hid (HL8.out.call hal)⟩
  case rest =>
  obtain ⟨Bb, Bs, rfl, rfl, HBS, HRB, HIB, HRA, HIA, HL⟩ := hcut
  clear HOL HSL HLL HRL2 HIL HNW hbzL hpc0 hpc1 hlq H30b H21b hN1a hNw
  go_upto_region 18 with fail
  refine wp_region_tableG (β := Value × Value) (fun b => #[.agg cs, .agg ds, .int .u8 n, .pointer (some ⟨B1, 0, none⟩), .pointer (some ⟨B2, 0, none⟩), undef, .bool true, .slice (some ⟨g1, gq1, none⟩) P.length c1, .slice (some ⟨g2, gq2, none⟩) Q.length c2, .pointer (some ⟨B3, 0, none⟩), .string (mkS T1), u11, undef, u13, .pointer (some ⟨Ba, 0, none⟩), .bool true, .pointer (some ⟨Bb, 0, none⟩), .bool true, u18, u19, u20, u21, u22, u23, u24, u25, u26, u27, u28, u29, u30, u31, u32, u33, u34, u35, u36, u37, u38, u39, u40, u41, u42, u43, u44, u45, u46, u47, u48, u49, u50, u51, u52, u53, u54, u55, .slice (some ⟨g1, gq1, none⟩) P.length c1, .int .i64 P.length, .int .i64 P.length, .bool false, u60, u61, u62, u63, u64, u65, u66, u67, u68, u69, u70, u71, u72, u73, u74, u75, u76, u77, u78, u79, u80, u81, u82, u83, u84, u85, .bool true, .bool true, .bool true, .bool true, .bool true, .bool true, .bool true, .bool true, .agg As, b.1, .agg Bs, b.2, .bool true, .bool true]) (fun b listed W => L18 w B1 B2 es ds Ba Bb As Bs rx b listed W) 100 (fun _ => rfl) rfl (by kernel_rfl) (undef, undef) rfl [6, 86, 87, 88, 89, 90, 91, 92, 93, 94, 95, 96, 97, 98, 99] (by kernel_rfl) (by kernel_rfl) (⟨HL.out.call (Below.refl _ _).drew, HRA.out.below (Below.refl _ _).drew, HRB.out.below (Below.refl _ _).drew, HIA.out.below (Below.refl _ _).drew, HIB.out.below (Below.refl _ _).drew, fun e => absurd e (none_listed _ _), fun e => absurd e (none_listed _ _)⟩) ?hs ?hdone
  case hs =>
    refine ⟨.inl ⟨fun _ => rfl, StepF.of (fun b listed w1 hB hf hdep K' Q' hK' => ?_)⟩, ?_⟩
    · clear hf hdep
      go_simp
      go_at_call 19
      refine (H19.out _ _ _ _ hB.ls).mono ?_
      rintro e w2 ⟨rfl, _, hb2⟩
      try dsimp only
      refine hK'.out _ _ ⟨rfl, b, fun _ _ => rfl, fun d e => (by cases e; rfl), (hB.call hb2).other (by decide) (by decide)⟩
    refine ⟨.inl ⟨fun _ => rfl, StepF.of (fun b listed w1 hB hf hdep K' Q' hK' => ?_)⟩, ?_⟩
    · clear hf hdep
      go_simp
      refine hK'.out _ _ ⟨rfl, b, fun _ _ => rfl, fun d e => (by cases e; rfl), hB.other (by decide) (by decide)⟩
    refine ⟨.inl ⟨fun _ => rfl, StepF.of (fun b listed w1 hB hf hdep K' Q' hK' => ?_)⟩, ?_⟩
    · clear hf hdep
      go_simp
      refine hK'.out _ _ ⟨rfl, b, fun _ _ => rfl, fun d e => (by cases e; rfl), hB.other (by decide) (by decide)⟩
    refine ⟨.inl ⟨fun _ => rfl, StepF.of (fun b listed w1 hB hf hdep K' Q' hK' => ?_)⟩, ?_⟩
    · clear hf hdep
      go_simp
      refine hK'.out _ _ ⟨rfl, b, fun _ _ => rfl, fun d e => (by cases e; rfl), hB.other (by decide) (by decide)⟩
    refine ⟨.inl ⟨fun _ => rfl, StepF.of (fun b listed w1 hB hf hdep K' Q' hK' => ?_)⟩, ?_⟩
    · clear hf hdep
      go_simp
      refine hK'.out _ _ ⟨rfl, b, fun _ _ => rfl, fun d e => (by cases e; rfl), hB.other (by decide) (by decide)⟩
    refine ⟨.inl ⟨fun _ => rfl, StepF.of (fun b listed w1 hB hf hdep K' Q' hK' => ?_)⟩, ?_⟩
    · clear hf hdep
      go_simp
      refine hK'.out _ _ ⟨rfl, b, fun _ _ => rfl, fun d e => (by cases e; rfl), hB.other (by decide) (by decide)⟩
    refine ⟨.inl ⟨fun _ => rfl, StepF.of (fun b listed w1 hB hf hdep K' Q' hK' => ?_)⟩, ?_⟩
    · clear hf hdep
      go_simp
      refine hK'.out _ _ ⟨rfl, b, fun _ _ => rfl, fun d e => (by cases e; rfl), hB.other (by decide) (by decide)⟩
    refine ⟨.inl ⟨fun _ => rfl, StepF.of (fun b listed w1 hB hf hdep K' Q' hK' => ?_)⟩, ?_⟩
    · clear hf hdep
      go_simp
      refine hK'.out _ _ ⟨rfl, b, fun _ _ => rfl, fun d e => (by cases e; rfl), hB.other (by decide) (by decide)⟩
    refine ⟨.inl ⟨fun _ => rfl, StepF.of (fun b listed w1 hB hf hdep K' Q' hK' => ?_)⟩, ?_⟩
    · have hld := lockLoad_arr (W := w1) (B := Ba) As 18 HAS.out (fun i => by rw [hB.ra.cells]; simp)
      clear hf hdep
      go_simp
      refine hK'.out _ _ ⟨rfl, b, fun _ _ => rfl, fun d e => (by cases e; rfl), hB.other (by decide) (by decide)⟩
    refine ⟨.inl ⟨fun _ => rfl, StepF.of (fun b listed w1 hB hf hdep K' Q' hK' => ?_)⟩, ?_⟩
    · clear hf hdep
      go_simp
      go_at_call 23
      refine (conv23 rx (.agg As) _ hB.ia HLN.out.out.1).mono ?_
      rintro e w2 ⟨v', rfl, hv, hb2⟩
      try dsimp only
      refine hK'.out _ _ ⟨rfl, (v', b.2), fun k e => getD_upd2 (d := 95) (v := v') rfl e, fun d e => (by cases e; rfl), (hB.call hb2).made9 hv⟩
    refine ⟨.inl ⟨fun _ => rfl, StepF.of (fun b listed w1 hB hf hdep K' Q' hK' => ?_)⟩, ?_⟩
    · have hld := lockLoad_arr (W := w1) (B := Bb) Bs 18 HBS.out (fun i => by rw [hB.rb.cells]; simp)
      clear hf hdep
      go_simp
      refine hK'.out _ _ ⟨rfl, b, fun _ _ => rfl, fun d e => (by cases e; rfl), hB.other (by decide) (by decide)⟩
    refine ⟨.inl ⟨fun _ => rfl, StepF.of (fun b listed w1 hB hf hdep K' Q' hK' => ?_)⟩, ?_⟩
    · clear hf hdep
      go_simp
      go_at_call 23
      refine (conv23 rx (.agg Bs) _ hB.ib HLN.out.out.1).mono ?_
      rintro e w2 ⟨v', rfl, hv, hb2⟩
      try dsimp only
      refine hK'.out _ _ ⟨rfl, (b.1, v'), fun k e => getD_upd2 (d := 97) (v := v') rfl e, fun d e => (by cases e; rfl), (hB.call hb2).made11 hv⟩
    refine ⟨.inl ⟨fun _ => rfl, StepF.of (fun b listed w1 hB hf hdep K' Q' hK' => ?_)⟩, ?_⟩
    · have h9 := hB.k9 (hdep ⟨9, .data⟩ (by simp) rfl)
      have h11 := hB.k11 (hdep ⟨11, .data⟩ (by simp) rfl)
      clear hf hdep
      go_simp
      go_at_call 22
      refine (same_any rx _ _ _ h9 h11 HLN.out.out).mono ?_
      rintro e w2 ⟨rfl, hb2⟩
      try dsimp only
      refine hK'.out _ _ ⟨rfl, b, fun _ _ => rfl, fun d e => (by cases e; rfl), (hB.call hb2).other (by decide) (by decide)⟩
    refine ⟨.inl ⟨fun _ => rfl, StepF.of (fun b listed w1 hB hf hdep K' Q' hK' => ?_)⟩, ?_⟩
    · clear hf hdep
      go_simp
      refine hK'.out _ _ ⟨rfl, b, fun _ _ => rfl, fun d e => (by cases e; rfl), hB.other (by decide) (by decide)⟩
    refine ⟨.inl ⟨fun _ => rfl, StepF.of (fun b listed w1 hB hf hdep K' Q' hK' => ?_)⟩, ?_⟩
    · clear hf hdep
      go_simp
      refine hK'.out _ _ ⟨rfl, b, fun _ _ => rfl, fun d e => (by cases e; rfl), hB.other (by decide) (by decide)⟩
    trivial
  case hdone =>
    intro b listed w5 hK hall
    have hb5 := hK.ls.hb
    clear hall hK
    go_wp2
    go_ret
    exact ⟨rfl, hb5⟩
end Go.Proofs.YtcfbkkcamiephaaGreatDoor
