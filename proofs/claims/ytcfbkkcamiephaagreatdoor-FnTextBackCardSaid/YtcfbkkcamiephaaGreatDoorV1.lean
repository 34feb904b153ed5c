import Derived.Test.YtcfbkkcamiephaaGreatDoorW2
namespace Go.Proofs.YtcfbkkcamiephaaGreatDoor
open Go.RowKit

attribute [local go_sem ↓] Go.wp_at_zero Go.wp_at_succ

/-! ### textParsed: a text is read as a rule -/
structure RuleLen (r : RuleD) : Prop where
  out : r.dy.length ≤ 1000000000 ∧ r.sp.length ≤ 1000000000 ∧ r.mo.length ≤ 1000000000 ∧ r.md.length ≤ 1000000000 ∧ r.yd.length ≤ 1000000000 ∧ r.wn.length ≤ 1000000000 ∧ r.ho.length ≤ 1000000000 ∧ r.mi.length ≤ 1000000000 ∧ r.se.length ≤ 1000000000 ∧ r.ea.length ≤ 1000000000
structure K2 (w W : World) (v1 v3 : Value) (r : RuleD) : Prop where
  hb : Below w.heap.size w W
  r1 : RuleIs W v1 r
  r3 : RuleIs W v3 r
structure Two (w W : World) (B1 B3 : Nat) (L1 L3 : Array Value) (r : RuleD) : Prop where
  lt1 : B1 < W.heap.size
  lt3 : B3 < W.heap.size
  k : K2 w W (.agg L1) (.agg L3) r
def TwoS (w W : World) (B1 B3 : Nat) (L1 L3 : Array Value) (r : RuleD) : Prop := (∀ i, W.cell? ⟨B1, i, none⟩ = L1[i]?) ∧ (∀ i, W.cell? ⟨B3, i, none⟩ = L3[i]?) ∧ Two w W B1 B3 L1 L3 r
theorem two_call {w W w1 : World} {B1 B3 : Nat} {L1 L3 : Array Value} {r : RuleD} (h : (∀ i, W.cell? ⟨B1, i, none⟩ = L1[i]?) ∧ (∀ i, W.cell? ⟨B3, i, none⟩ = L3[i]?) ∧ Two w W B1 B3 L1 L3 r) (hb : Below W.heap.size W w1) :
    (∀ i, w1.cell? ⟨B1, i, none⟩ = L1[i]?) ∧ (∀ i, w1.cell? ⟨B3, i, none⟩ = L3[i]?) ∧ Two w w1 B1 B3 L1 L3 r :=
  ⟨fun i => ((bcell hb).1 B1 i h.2.2.lt1).trans (h.1 i), fun i => ((bcell hb).1 B3 i h.2.2.lt3).trans (h.2.1 i), Nat.lt_of_lt_of_le h.2.2.lt1 hb.size, Nat.lt_of_lt_of_le h.2.2.lt3 hb.size, h.2.2.k.hb.trans (hb.mono h.2.2.k.hb.size), h.2.2.k.r1.below hb, h.2.2.k.r3.below hb⟩
theorem two_drew {w W : World} {B1 B3 : Nat} {L1 L3 : Array Value} {r : RuleD} (h : (∀ i, W.cell? ⟨B1, i, none⟩ = L1[i]?) ∧ (∀ i, W.cell? ⟨B3, i, none⟩ = L3[i]?) ∧ Two w W B1 B3 L1 L3 r) :
    (∀ i, W.drew.cell? ⟨B1, i, none⟩ = L1[i]?) ∧ (∀ i, W.drew.cell? ⟨B3, i, none⟩ = L3[i]?) ∧ Two w W.drew B1 B3 L1 L3 r := two_call h (Below.refl _ _).drew
theorem two_r1 {w W : World} {B1 B3 : Nat} {L1 L3 : Array Value} {r : RuleD} (h : (∀ i, W.cell? ⟨B1, i, none⟩ = L1[i]?) ∧ (∀ i, W.cell? ⟨B3, i, none⟩ = L3[i]?) ∧ Two w W B1 B3 L1 L3 r) : RuleIs W (.agg L1) r := h.2.2.k.r1
theorem two_r3 {w W : World} {B1 B3 : Nat} {L1 L3 : Array Value} {r : RuleD} (h : (∀ i, W.cell? ⟨B1, i, none⟩ = L1[i]?) ∧ (∀ i, W.cell? ⟨B3, i, none⟩ = L3[i]?) ∧ Two w W B1 B3 L1 L3 r) : RuleIs W (.agg L3) r := h.2.2.k.r3
theorem lockLoad_arr {W : World} {B : Nat} (cs : Array Value) (n : Nat) (hn : cs.size = n) (h : ∀ i, W.cell? ⟨B, i, none⟩ = cs[i]?) : (lockLoad ⟨B, 0, none⟩ n).run Tryz.prog W = .ok cs W := by
  have := lockLoad_row (W := W) (B := B) cs.toList n (by simpa using hn) (fun i => by rw [h i]; simp)
  rw [Array.toArray_toList] at this; exact this
attribute [local go_sem ↓] lockL_eq
set_option maxRecDepth 100000 in
set_option maxHeartbeats 25600000 in
theorem parsed_yes (hrule : RuleAny) (l : List UInt8) (o : Opt) (v : Value) (w : World) (hG : Good w) (hl : l.length ≤ 1000000) (hR : optT l = some o) (hv : RuleIs w v (ruleOf o)) (hlen : RuleLen (ruleOf o)) :
    Calls Tryz.prog 27 #[.string (mkS l), v] w fun e w' => e = .returned (.bool true) ∧ Below w.heap.size w w' := by
  obtain ⟨cs, rfl, hcs, hc1⟩ := ruleVal_cells hv
  have hal : Below w.heap.size w (w.alloc (.cells cs 26)) := (Below.refl _ _).alloc (Nat.le_refl _) _
  have h21 := parse21_any hrule l (w.alloc (.cells cs 26)) (hG.below hal) hl
  rw [hR] at h21
  have h21' : Calls Tryz.prog 21 #[.string (mkS l)] (w.alloc (.cells cs 26)) fun e w' => Below (w.alloc (.cells cs 26)).heap.size (w.alloc (.cells cs 26)) w' ∧ ∃ v, e = .returned (.tuple #[v, .bool true]) ∧ RuleIs w' v (ruleOf o) := h21
  clear h21
  generalize ruleOf o = r at *
  have H21 := Lib.hid h21'
  have hbox : RowAt (w.alloc (.cells cs 26)) w.heap.size 26 cs.toList := ⟨by rw [heap_alloc_new]⟩
  have HBX := Lib.hid hbox
  have HCS := Lib.hid hcs
  have HV := Lib.hid (hv.below hal)
  have HAL := Lib.hid hal
  have HLN := Lib.hid hlen
  clear hbox hcs hv hal h21' hR hlen hG hl
  go_enter Tryz.func27, Tryz.ntmps27
  go_upto_region 2 with (first
    | (go_at_call 21; go_must (refine H21.out.mono ?_; rintro e w1 ⟨hb1, v3, rfl, hv3⟩; obtain ⟨ds, rfl, hds, hd1⟩ := ruleVal_cells hv3; have HV3 := Lib.hid hv3; have HDS := Lib.hid hds; have HB1 := Lib.hid hb1; clear hv3 hds hb1))
    | (refine Great.wpList_runTo rfl (some 5) rfl _ _ (run_al31 _ _ rfl _) ?_)
    | (refine wpList_store_fresh rfl 31 _ _ rfl ruleZ0 ds rfl rfl (by rw [HDS.out]; as_aux_lemma => kernel_rfl) (by rw [HDS.out]; rfl) hd1 ?_))
  have hal1 : Below w1.heap.size w1 (w1.alloc (.cells ds 31)) := (Below.refl _ _).alloc (Nat.le_refl _) _
  have hA : RowAt (w1.alloc (.cells ds 31)) w.heap.size 26 cs.toList := (HBX.out.below HB1.out).below hal1
  have hB : RowAt (w1.alloc (.cells ds 31)) w1.heap.size 31 ds.toList := ⟨by rw [heap_alloc_new]⟩
  have hBf : Below w.heap.size w (w1.alloc (.cells ds 31)) := (HAL.out.trans (HB1.out.mono HAL.out.size)).trans (hal1.mono (HAL.out.trans (HB1.out.mono HAL.out.size)).size)
  have hK0 : (∀ i, (w1.alloc (.cells ds 31)).cell? ⟨w.heap.size, i, none⟩ = cs[i]?) ∧ (∀ i, (w1.alloc (.cells ds 31)).cell? ⟨w1.heap.size, i, none⟩ = ds[i]?) ∧ Two w (w1.alloc (.cells ds 31)) w.heap.size w1.heap.size cs ds r :=
    ⟨fun i => by rw [hA.cells]; simp, fun i => by rw [hB.cells]; simp, hA.lt, hB.lt, hBf, (HV.out.below HB1.out).below hal1, HV3.out.below hal1⟩
  have hcs := HCS.out
  have hds := HDS.out
  have HL1 : ∀ W : World, (∀ i, W.cell? ⟨w.heap.size, i, none⟩ = cs[i]?) → (lockLoad ⟨w.heap.size, 0, none⟩ 18).run Tryz.prog W = .ok cs W := fun W h => lockLoad_arr cs 18 hcs h
  have HL3 : ∀ W : World, (∀ i, W.cell? ⟨w1.heap.size, i, none⟩ = ds[i]?) → (lockLoad ⟨w1.heap.size, 0, none⟩ 18).run Tryz.prog W = .ok ds W := fun W h => lockLoad_arr ds 18 hds h
  clear hal1 hA hB hBf HBX HV HV3 HB1 HAL H21 hcs hds HCS HDS
  generalize w1.alloc (.cells ds 31) = Wf at *
  generalize w1.heap.size = B3 at *
  generalize hB1 : w.heap.size = B1 at *
  have HB1 := Lib.hid hB1
  clear hB1
  obtain ⟨hc1, hc3, hkw⟩ := hK0
  as_aux_lemma =>
    go_region_held3 (fun w' => (∀ i, w'.cell? ⟨B1, i, none⟩ = cs[i]?) ∧ (∀ i, w'.cell? ⟨B3, i, none⟩ = ds[i]?) ∧ Two w w' B1 B3 cs ds r) (first
      | (with_reducible assumption)
      | (with_reducible exact two_drew ⟨hc1, hc3, hkw⟩))
      (first
      | (go_at_call 23; refine (conv23 r _ _ (two_r3 (B1 := B1) (B3 := B3) (L1 := cs) (L3 := ds) (w := w) (by with_reducible first | assumption | exact two_drew ⟨hc1, hc3, hkw⟩)) HLN.out.out.1).mono ?_; rintro e w7 ⟨v7, rfl, hv7, hb7⟩; have hKc := two_call (by with_reducible first | assumption | exact two_drew ⟨hc1, hc3, hkw⟩) hb7)
      | (go_at_call 22; refine (same_any r _ _ _ hv7 (two_r1 (B1 := B1) (B3 := B3) (L1 := cs) (L3 := ds) (w := w) (by with_reducible assumption)) HLN.out.out).mono ?_; rintro e w8 ⟨rfl, hb8⟩; have hKd := two_call (by with_reducible assumption) hb8))
    all_goals
      go_wp2
      go_ret
      exact ⟨rfl, hKd.2.2.k.hb⟩
end Go.Proofs.YtcfbkkcamiephaaGreatDoor
namespace Go.Proofs.YtcfbkkcamiephaaGreatDoor
open Go.RowKit

/-! ### impl.RuleString -/
set_option maxRecDepth 100000 in
set_option maxHeartbeats 6400000 in
theorem ruleString_any (hopt : OptionAny) (r : RuleD) (v : Value) (w : World) (hG : Good w) (hv : RuleIs w v r) (hf : 0 ≤ r.fq ∧ r.fq ≤ 255) (hk : OptOk (optOf r)) (hlen : r.dy.length ≤ 1000000000) :
    Calls Tryz.prog 41 #[v] w fun e w' => e = .returned (.string (mkS (rrL (optOf r)))) ∧ Below w.heap.size w w' := by
  obtain ⟨cs, rfl, hcs, hc1⟩ := ruleVal_cells hv
  have hal : Below w.heap.size w (w.alloc (.cells cs 31)) := (Below.refl _ _).alloc (Nat.le_refl _) _
  have H66 := Lib.hid (hopt r (.agg cs) (w.alloc (.cells cs 31)) (hv.below hal) hf hlen)
  have hbox : (w.alloc (.cells cs 31)).heap[w.heap.size]? = some (.cells cs 31 (0, 0)) := heap_alloc_new w _
  have HBX := Lib.hid hbox
  have HCS := Lib.hid hcs
  have H75 := Lib.hid (fun (N : Nat) (w : World) (hG : Good w) (ho : OptIsQ w N (optOf r)) => rr_any (optOf r) N w hG ho hk)
  have HAL := Lib.hid hal
  clear hbox hcs hv hk hal
  go_enter Tryz.func41, Tryz.ntmps41
  go_wp2_with (first
    | (refine wpList_load_row rfl 31 _ rfl w.heap.size rfl 31 cs (0, 0) _ HBX.out Tryz.underlying31 rfl (by rw [HCS.out]; as_aux_lemma => kernel_rfl) ?_)
    | (go_at_call 66; go_must (refine H66.out.mono ?_; rintro e w1 ⟨v', rfl, hv', hb1⟩; obtain ⟨ds, rfl, hds, hd1, hoi⟩ := optVal_cells hv'; have HOI := Lib.hid hoi; have HDS := Lib.hid hds; have hB1 := HAL.out.trans (hb1.mono HAL.out.size); clear hoi hds hv'))
    | (refine Great.wpList_runTo rfl (some 3) rfl _ _ (run_alloc106 _ _ rfl _) ?_)
    | (refine wpList_store_fresh rfl 106 _ _ rfl optZ ds rfl rfl (by rw [HDS.out]; as_aux_lemma => kernel_rfl) (by rw [HDS.out]; rfl) hd1 ?_)
    | (go_at_call 75; go_must (refine (H75.out _ _ (hG.below (hB1.alloc hB1.size _)) HOI.out).mono ?_; rintro e w2 ⟨rfl, hb2⟩)))
  go_ret
  have hB2 := hB1.alloc hB1.size (.cells ds 106)
  exact ⟨rfl, hB2.trans (hb2.mono hB2.size)⟩

/-! ### zzFits1 -/
/-- The sizes of a rule's lists. -/
def fitsB (r : RuleD) : Bool := decide (r.sp.length ≤ 2147483647) && decide (r.mo.length ≤ 2147483647) && decide (r.md.length ≤ 2147483647) && decide (r.yd.length ≤ 2147483647) && decide (r.wn.length ≤ 2147483647) && decide (r.dy.length ≤ 2147483647) && decide (r.ho.length ≤ 2147483647) && decide (r.mi.length ≤ 2147483647) && decide (r.se.length ≤ 2147483647) && decide (r.ea.length ≤ 2147483647)
theorem IntsV.formL {w : World} {v : Value} {xs : List Int} (h : IntsV w v xs) : ∃ a c, v = .slice a xs.length c := by
  rcases h with ⟨h0, h⟩ | ⟨g, gq, c, h, _, _⟩
  · subst h0; exact ⟨_, _, h⟩
  · exact ⟨_, _, h⟩
theorem DaysV.formL {w : World} {v : Value} {xs : List (Int × Int)} (h : DaysV w v xs) : ∃ a c, v = .slice a xs.length c := by
  rcases h with ⟨h0, h⟩ | ⟨g, gq, c, h, _, _⟩
  · subst h0; exact ⟨_, _, h⟩
  · exact ⟨_, _, h⟩
set_option maxRecDepth 100000 in
set_option maxHeartbeats 6400000 in
theorem fits_any (r : RuleD) (v : Value) (w : World) (hv : RuleIs w v r) : Calls Tryz.prog 24 #[v] w fun e w' => e = .returned (.bool (fitsB r)) ∧ Below w.heap.size w w' := by
  obtain ⟨v8, v9, v10, v11, v12, v13, v14, v15, v16, v17, rfl, hR⟩ := hv
  obtain ⟨a8, c8, rfl⟩ := hR.l8.formL
  obtain ⟨a9, c9, rfl⟩ := hR.l9.formL
  obtain ⟨a10, c10, rfl⟩ := hR.l10.formL
  obtain ⟨a11, c11, rfl⟩ := hR.l11.formL
  obtain ⟨a12, c12, rfl⟩ := hR.l12.formL
  obtain ⟨a13, c13, rfl⟩ := hR.l13.formL
  obtain ⟨a14, c14, rfl⟩ := hR.l14.formL
  obtain ⟨a15, c15, rfl⟩ := hR.l15.formL
  obtain ⟨a16, c16, rfl⟩ := hR.l16.formL
  obtain ⟨a17, c17, rfl⟩ := hR.l17.formL
  clear hR
  obtain ⟨f, hs, st, iv, wk, ct, hu, un, sp, mo, md, yd, wn, dy, ho, mi, se, ea⟩ := r
  unfold ruleVal fitsB
  simp only
  have e : ∀ n : Nat, decide (n ≤ 2147483647) = !decide ((2147483647 : Int) < (n : Int)) := fun n => by
    by_cases h : n ≤ 2147483647
    · rw [decide_eq_true h, decide_eq_false (by omega)]; rfl
    · rw [decide_eq_false h, decide_eq_true (by omega)]; rfl
  simp only [e]
  clear e
  have HB : Hid (∀ cs : Array Value, Below w.heap.size w (w.alloc (.cells cs 26))) := Lib.hid (fun cs => (Below.refl _ _).alloc (Nat.le_refl _) _)
  generalize sp.length = n8
  generalize mo.length = n9
  generalize md.length = n10
  generalize yd.length = n11
  generalize wn.length = n12
  generalize dy.length = n13
  generalize ho.length = n14
  generalize mi.length = n15
  generalize se.length = n16
  generalize ea.length = n17
  go_enter Tryz.func24, Tryz.ntmps24
  go_wp2
  all_goals
    go_ret
    refine ⟨ret_bool ?_, HB.out _⟩
    rw [Bool.eq_iff_iff]
    simp
    omega
end Go.Proofs.YtcfbkkcamiephaaGreatDoor
