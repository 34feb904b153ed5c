import Derived.Test.YtcfbkkcamiephaaGreatDoorW1
import Derived.Test.YtcfbkkcamiephaaGreatDoorR1
import Derived.Test.YtcfbkkcamiephaaGreatDoorF13
namespace Go.Proofs.YtcfbkkcamiephaaGreatDoor
open Go.RowKit

attribute [local go_sem ↓] Go.wp_at_zero Go.wp_at_succ

/-! ### textParsed: a text is read as a rule -/
structure RuleLen (r : RuleD) : Prop where
  out : r.dy.length ≤ 1000000000 ∧ r.sp.length ≤ 1000000000 ∧ r.mo.length ≤ 1000000000 ∧ r.md.length ≤ 1000000000 ∧ r.yd.length ≤ 1000000000 ∧ r.wn.length ≤ 1000000000 ∧ r.ho.length ≤ 1000000000 ∧ r.mi.length ≤ 1000000000 ∧ r.se.length ≤ 1000000000 ∧ r.ea.length ≤ 1000000000
structure K2 (w W : World) (v1 v3 : Value) (r : RuleD) : Prop where
  hb : Below w.heap.size w W
  r1 : RuleIs W v1 r
  r3 : RuleIs W v3 r
structure Two (w W : World) (B1 B3 : Nat) (L1 L3 : Array Value) (r : RuleD) : Prop where
  lt1 : B1 < W.heap.size
  lt3 : B3 < W.heap.size
  k : K2 w W (.agg L1) (.agg L3) r
def TwoS (w W : World) (B1 B3 : Nat) (L1 L3 : Array Value) (r : RuleD) : Prop := (∀ i, W.cell? ⟨B1, i, none⟩ = L1[i]?) ∧ (∀ i, W.cell? ⟨B3, i, none⟩ = L3[i]?) ∧ Two w W B1 B3 L1 L3 r
theorem two_call {w W w1 : World} {B1 B3 : Nat} {L1 L3 : Array Value} {r : RuleD} (h : (∀ i, W.cell? ⟨B1, i, none⟩ = L1[i]?) ∧ (∀ i, W.cell? ⟨B3, i, none⟩ = L3[i]?) ∧ Two w W B1 B3 L1 L3 r) (hb : Below W.heap.size W w1) :
    (∀ i, w1.cell? ⟨B1, i, none⟩ = L1[i]?) ∧ (∀ i, w1.cell? ⟨B3, i, none⟩ = L3[i]?) ∧ Two w w1 B1 B3 L1 L3 r :=
  ⟨fun i => ((bcell hb).1 B1 i h.2.2.lt1).trans (h.1 i), fun i => ((bcell hb).1 B3 i h.2.2.lt3).trans (h.2.1 i), Nat.lt_of_lt_of_le h.2.2.lt1 hb.size, Nat.lt_of_lt_of_le h.2.2.lt3 hb.size, h.2.2.k.hb.trans (hb.mono h.2.2.k.hb.size), h.2.2.k.r1.below hb, h.2.2.k.r3.below hb⟩
theorem two_drew {w W : World} {B1 B3 : Nat} {L1 L3 : Array Value} {r : RuleD} (h : (∀ i, W.cell? ⟨B1, i, none⟩ = L1[i]?) ∧ (∀ i, W.cell? ⟨B3, i, none⟩ = L3[i]?) ∧ Two w W B1 B3 L1 L3 r) :
    (∀ i, W.drew.cell? ⟨B1, i, none⟩ = L1[i]?) ∧ (∀ i, W.drew.cell? ⟨B3, i, none⟩ = L3[i]?) ∧ Two w W.drew B1 B3 L1 L3 r := two_call h (Below.refl _ _).drew
theorem two_r1 {w W : World} {B1 B3 : Nat} {L1 L3 : Array Value} {r : RuleD} (h : (∀ i, W.cell? ⟨B1, i, none⟩ = L1[i]?) ∧ (∀ i, W.cell? ⟨B3, i, none⟩ = L3[i]?) ∧ Two w W B1 B3 L1 L3 r) : RuleIs W (.agg L1) r := h.2.2.k.r1
theorem two_r3 {w W : World} {B1 B3 : Nat} {L1 L3 : Array Value} {r : RuleD} (h : (∀ i, W.cell? ⟨B1, i, none⟩ = L1[i]?) ∧ (∀ i, W.cell? ⟨B3, i, none⟩ = L3[i]?) ∧ Two w W B1 B3 L1 L3 r) : RuleIs W (.agg L3) r := h.2.2.k.r3
theorem lockLoad_arr {W : World} {B : Nat} (cs : Array Value) (n : Nat) (hn : cs.size = n) (h : ∀ i, W.cell? ⟨B, i, none⟩ = cs[i]?) : (lockLoad ⟨B, 0, none⟩ n).run Tryz.prog W = .ok cs W := by
  have := lockLoad_row (W := W) (B := B) cs.toList n (by simpa using hn) (fun i => by rw [h i]; simp)
  rw [Array.toArray_toList] at this; exact this
attribute [local go_sem ↓] lockL_eq
set_option maxRecDepth 100000 in
set_option maxHeartbeats 25600000 in
theorem parsed_yes (hrule : RuleAny) (l : List UInt8) (o : Opt) (v : Value) (w : World) (hG : Good w) (hl : l.length ≤ 1000000) (hR : optT l = some o) (hv : RuleIs w v (ruleOf o)) (hlen : RuleLen (ruleOf o)) :
    Calls Tryz.prog 27 #[.string (mkS l), v] w fun e w' => e = .returned (.bool true) ∧ Below w.heap.size w w' := by
  obtain ⟨cs, rfl, hcs, hc1⟩ := ruleVal_cells hv
  have hal : Below w.heap.size w (w.alloc (.cells cs 26)) := (Below.refl _ _).alloc (Nat.le_refl _) _
  have h21 := parse21_any hrule l (w.alloc (.cells cs 26)) (hG.below hal) hl
  rw [hR] at h21
  have h21' : Calls Tryz.prog 21 #[.string (mkS l)] (w.alloc (.cells cs 26)) fun e w' => Below (w.alloc (.cells cs 26)).heap.size (w.alloc (.cells cs 26)) w' ∧ ∃ v, e = .returned (.tuple #[v, .bool true]) ∧ RuleIs w' v (ruleOf o) := h21
  clear h21
  generalize ruleOf o = r at *
  have H21 := Lib.hid h21'
  have hbox : RowAt (w.alloc (.cells cs 26)) w.heap.size 26 cs.toList := ⟨by rw [heap_alloc_new]⟩
  have HBX := Lib.hid hbox
  have HCS := Lib.hid hcs
  have HV := Lib.hid (hv.below hal)
  have HAL := Lib.hid hal
  have HLN := Lib.hid hlen
  clear hbox hcs hv hal h21' hR hlen hG hl
  go_enter Tryz.func27, Tryz.ntmps27
  go_upto_region 2 with (first
    | (go_at_call 21; go_must (refine H21.out.mono ?_; rintro e w1 ⟨hb1, v3, rfl, hv3⟩; obtain ⟨ds, rfl, hds, hd1⟩ := ruleVal_cells hv3; have HV3 := Lib.hid hv3; have HDS := Lib.hid hds; have HB1 := Lib.hid hb1; clear hv3 hds hb1))
    | (refine Great.wpList_runTo rfl (some 5) rfl _ _ (run_al31 _ _ rfl _) ?_)
    | (refine wpList_store_fresh rfl 31 _ _ rfl ruleZ0 ds rfl rfl (by rw [HDS.out]; as_aux_lemma => kernel_rfl) (by rw [HDS.out]; rfl) hd1 ?_))
  have hal1 : Below w1.heap.size w1 (w1.alloc (.cells ds 31)) := (Below.refl _ _).alloc (Nat.le_refl _) _
  have hA : RowAt (w1.alloc (.cells ds 31)) w.heap.size 26 cs.toList := (HBX.out.below HB1.out).below hal1
  have hB : RowAt (w1.alloc (.cells ds 31)) w1.heap.size 31 ds.toList := ⟨by rw [heap_alloc_new]⟩
  have hBf : Below w.heap.size w (w1.alloc (.cells ds 31)) := (HAL.out.trans (HB1.out.mono HAL.out.size)).trans (hal1.mono (HAL.out.trans (HB1.out.mono HAL.out.size)).size)
  have hK0 : (∀ i, (w1.alloc (.cells ds 31)).cell? ⟨w.heap.size, i, none⟩ = cs[i]?) ∧ (∀ i, (w1.alloc (.cells ds 31)).cell? ⟨w1.heap.size, i, none⟩ = ds[i]?) ∧ Two w (w1.alloc (.cells ds 31)) w.heap.size w1.heap.size cs ds r :=
    ⟨fun i => by rw [hA.cells]; simp, fun i => by rw [hB.cells]; simp, hA.lt, hB.lt, hBf, (HV.out.below HB1.out).below hal1, HV3.out.below hal1⟩
  have hcs := HCS.out
  have hds := HDS.out
  have HL1 : ∀ W : World, (∀ i, W.cell? ⟨w.heap.size, i, none⟩ = cs[i]?) → (lockLoad ⟨w.heap.size, 0, none⟩ 18).run Tryz.prog W = .ok cs W := fun W h => lockLoad_arr cs 18 hcs h
  have HL3 : ∀ W : World, (∀ i, W.cell? ⟨w1.heap.size, i, none⟩ = ds[i]?) → (lockLoad ⟨w1.heap.size, 0, none⟩ 18).run Tryz.prog W = .ok ds W := fun W h => lockLoad_arr ds 18 hds h
  clear hal1 hA hB hBf HBX HV HV3 HB1 HAL H21 hcs hds HCS HDS
  generalize w1.alloc (.cells ds 31) = Wf at *
  generalize w1.heap.size = B3 at *
  generalize hB1 : w.heap.size = B1 at *
  have HB1 := Lib.hid hB1
  clear hB1
  obtain ⟨hc1, hc3, hkw⟩ := hK0
  as_aux_lemma =>
    go_region_held3 (fun w' => (∀ i, w'.cell? ⟨B1, i, none⟩ = cs[i]?) ∧ (∀ i, w'.cell? ⟨B3, i, none⟩ = ds[i]?) ∧ Two w w' B1 B3 cs ds r) (first
      | (with_reducible assumption)
      | (with_reducible exact two_drew ⟨hc1, hc3, hkw⟩))
      (first
      | (go_at_call 23; refine (conv23 r _ _ (two_r3 (B1 := B1) (B3 := B3) (L1 := cs) (L3 := ds) (w := w) (by with_reducible first | assumption | exact two_drew ⟨hc1, hc3, hkw⟩)) HLN.out.out.1).mono ?_; rintro e w7 ⟨v7, rfl, hv7, hb7⟩; have hKc := two_call (by with_reducible first | assumption | exact two_drew ⟨hc1, hc3, hkw⟩) hb7)
      | (go_at_call 22; refine (same_any r _ _ _ hv7 (two_r1 (B1 := B1) (B3 := B3) (L1 := cs) (L3 := ds) (w := w) (by with_reducible assumption)) HLN.out.out).mono ?_; rintro e w8 ⟨rfl, hb8⟩; have hKd := two_call (by with_reducible assumption) hb8))
    all_goals
      go_wp2
      go_ret
      exact ⟨rfl, hKd.2.2.k.hb⟩
end Go.Proofs.YtcfbkkcamiephaaGreatDoor
namespace Go.Proofs.YtcfbkkcamiephaaGreatDoor
open Go.RowKit

/-! ### impl.RuleString -/
set_option maxRecDepth 100000 in
set_option maxHeartbeats 6400000 in
theorem ruleString_any (hopt : OptionAny) (r : RuleD) (v : Value) (w : World) (hG : Good w) (hv : RuleIs w v r) (hf : 0 ≤ r.fq ∧ r.fq ≤ 255) (hk : OptOk (optOf r)) (hlen : r.dy.length ≤ 1000000000) :
    Calls Tryz.prog 41 #[v] w fun e w' => e = .returned (.string (mkS (rrL (optOf r)))) ∧ Below w.heap.size w w' := by
  obtain ⟨cs, rfl, hcs, hc1⟩ := ruleVal_cells hv
  have hal : Below w.heap.size w (w.alloc (.cells cs 31)) := (Below.refl _ _).alloc (Nat.le_refl _) _
  have H66 := Lib.hid (hopt r (.agg cs) (w.alloc (.cells cs 31)) (hv.below hal) hf hlen)
  have hbox : (w.alloc (.cells cs 31)).heap[w.heap.size]? = some (.cells cs 31 (0, 0)) := heap_alloc_new w _
  have HBX := Lib.hid hbox
  have HCS := Lib.hid hcs
  have H75 := Lib.hid (fun (N : Nat) (w : World) (hG : Good w) (ho : OptIsQ w N (optOf r)) => rr_any (optOf r) N w hG ho hk)
  have HAL := Lib.hid hal
  clear hbox hcs hv hk hal
  go_enter Tryz.func41, Tryz.ntmps41
  go_wp2_with (first
    | (refine wpList_load_row rfl 31 _ rfl w.heap.size rfl 31 cs (0, 0) _ HBX.out Tryz.underlying31 rfl (by rw [HCS.out]; as_aux_lemma => kernel_rfl) ?_)
    | (go_at_call 66; go_must (refine H66.out.mono ?_; rintro e w1 ⟨v', rfl, hv', hb1⟩; obtain ⟨ds, rfl, hds, hd1, hoi⟩ := optVal_cells hv'; have HOI := Lib.hid hoi; have HDS := Lib.hid hds; have hB1 := HAL.out.trans (hb1.mono HAL.out.size); clear hoi hds hv'))
    | (refine Great.wpList_runTo rfl (some 3) rfl _ _ (run_alloc106 _ _ rfl _) ?_)
    | (refine wpList_store_fresh rfl 106 _ _ rfl optZ ds rfl rfl (by rw [HDS.out]; as_aux_lemma => kernel_rfl) (by rw [HDS.out]; rfl) hd1 ?_)
    | (go_at_call 75; go_must (refine (H75.out _ _ (hG.below (hB1.alloc hB1.size _)) HOI.out).mono ?_; rintro e w2 ⟨rfl, hb2⟩)))
  go_ret
  have hB2 := hB1.alloc hB1.size (.cells ds 106)
  exact ⟨rfl, hB2.trans (hb2.mono hB2.size)⟩

/-! ### zzFits1 -/
/-- The sizes of a rule's lists. -/
def fitsB (r : RuleD) : Bool := decide (r.sp.length ≤ 2147483647) && decide (r.mo.length ≤ 2147483647) && decide (r.md.length ≤ 2147483647) && decide (r.yd.length ≤ 2147483647) && decide (r.wn.length ≤ 2147483647) && decide (r.dy.length ≤ 2147483647) && decide (r.ho.length ≤ 2147483647) && decide (r.mi.length ≤ 2147483647) && decide (r.se.length ≤ 2147483647) && decide (r.ea.length ≤ 2147483647)
theorem IntsV.formL {w : World} {v : Value} {xs : List Int} (h : IntsV w v xs) : ∃ a c, v = .slice a xs.length c := by
  rcases h with ⟨h0, h⟩ | ⟨g, gq, c, h, _, _⟩
  · subst h0; exact ⟨_, _, h⟩
  · exact ⟨_, _, h⟩
theorem DaysV.formL {w : World} {v : Value} {xs : List (Int × Int)} (h : DaysV w v xs) : ∃ a c, v = .slice a xs.length c := by
  rcases h with ⟨h0, h⟩ | ⟨g, gq, c, h, _, _⟩
  · subst h0; exact ⟨_, _, h⟩
  · exact ⟨_, _, h⟩
set_option maxRecDepth 100000 in
set_option maxHeartbeats 6400000 in
theorem fits_any (r : RuleD) (v : Value) (w : World) (hv : RuleIs w v r) : Calls Tryz.prog 24 #[v] w fun e w' => e = .returned (.bool (fitsB r)) ∧ Below w.heap.size w w' := by
  obtain ⟨v8, v9, v10, v11, v12, v13, v14, v15, v16, v17, rfl, hR⟩ := hv
  obtain ⟨a8, c8, rfl⟩ := hR.l8.formL
  obtain ⟨a9, c9, rfl⟩ := hR.l9.formL
  obtain ⟨a10, c10, rfl⟩ := hR.l10.formL
  obtain ⟨a11, c11, rfl⟩ := hR.l11.formL
  obtain ⟨a12, c12, rfl⟩ := hR.l12.formL
  obtain ⟨a13, c13, rfl⟩ := hR.l13.formL
  obtain ⟨a14, c14, rfl⟩ := hR.l14.formL
  obtain ⟨a15, c15, rfl⟩ := hR.l15.formL
  obtain ⟨a16, c16, rfl⟩ := hR.l16.formL
  obtain ⟨a17, c17, rfl⟩ := hR.l17.formL
  clear hR
  obtain ⟨f, hs, st, iv, wk, ct, hu, un, sp, mo, md, yd, wn, dy, ho, mi, se, ea⟩ := r
  unfold ruleVal fitsB
  simp only
  have e : ∀ n : Nat, decide (n ≤ 2147483647) = !decide ((2147483647 : Int) < (n : Int)) := fun n => by
    by_cases h : n ≤ 2147483647
    · rw [decide_eq_true h, decide_eq_false (by omega)]; rfl
    · rw [decide_eq_false h, decide_eq_true (by omega)]; rfl
  simp only [e]
  clear e
  have HB : Hid (∀ cs : Array Value, Below w.heap.size w (w.alloc (.cells cs 26))) := Lib.hid (fun cs => (Below.refl _ _).alloc (Nat.le_refl _) _)
  generalize sp.length = n8
  generalize mo.length = n9
  generalize md.length = n10
  generalize yd.length = n11
  generalize wn.length = n12
  generalize dy.length = n13
  generalize ho.length = n14
  generalize mi.length = n15
  generalize se.length = n16
  generalize ea.length = n17
  go_enter Tryz.func24, Tryz.ntmps24
  go_wp2
  all_goals
    go_ret
    refine ⟨ret_bool ?_, HB.out _⟩
    rw [Bool.eq_iff_iff]
    simp
    omega
end Go.Proofs.YtcfbkkcamiephaaGreatDoor
namespace Go.Proofs.YtcfbkkcamiephaaGreatDoor
open Go.RowKit


/-! ### TextRule -/
/-- What TextRule asks of a rule. -/
structure TextR (r : RuleD) : Prop where
  fq : r.fq ≤ 6
  wk : 0 ≤ r.wk ∧ r.wk ≤ 6
  st : InTime r.st
  un : InTime r.un
  hu : r.hu = (r.un != 0)
  hs : r.hs = (r.st != 0)
  dl : r.dy.length ≤ 40
  dy : ∀ p ∈ r.dy, 0 ≤ p.1 ∧ p.1 ≤ 6
  l : r.sp.length ≤ 40 ∧ r.mo.length ≤ 40 ∧ r.md.length ≤ 40 ∧ r.yd.length ≤ 40 ∧ r.wn.length ≤ 40 ∧ r.ho.length ≤ 40 ∧ r.mi.length ≤ 40 ∧ r.se.length ≤ 40 ∧ r.ea.length ≤ 40
def TRPost (r : RuleD) (w : World) (e : Ending) (w' : World) : Prop := ∃ b : Bool, e = .returned (.bool b) ∧ (b = true → TextR r) ∧ Below w.heap.size w w'
theorem tr_no {r : RuleD} {w w' : World} {e : Ending} (he : e = .returned (.bool false)) (hb : Below w.heap.size w w') : TRPost r w e w' := ⟨false, he, (fun h => by cases h), hb⟩
theorem inTime_yes (n : Int) (h : InTime n) (w : World) : Calls Tryz.prog 62 #[.int .i64 n] w fun e w' => e = .returned (.bool true) ∧ w = w' := by
  have h1 : decide ((-31622400 : Int) ≤ n) = true := decide_eq_true h.1
  have h2 : decide (n ≤ 315537897599) = true := decide_eq_true h.2
  clear h
  go_enter Tryz.func62, Tryz.ntmps62
  go_wp2
  go_ret
  exact ⟨rfl, rfl⟩
theorem inTime_no (n : Int) (h : ¬ InTime n) (w : World) : Calls Tryz.prog 62 #[.int .i64 n] w fun e w' => e = .returned (.bool false) ∧ w = w' := by
  by_cases hlo : -31622400 ≤ n
  · have h1 : decide ((-31622400 : Int) ≤ n) = true := decide_eq_true hlo
    have h2 : decide (n ≤ 315537897599) = false := decide_eq_false (fun h3 => h ⟨hlo, h3⟩)
    clear h hlo
    go_enter Tryz.func62, Tryz.ntmps62
    go_wp2
    go_ret
    exact ⟨rfl, rfl⟩
  · have h1 : decide ((-31622400 : Int) ≤ n) = false := decide_eq_false hlo
    clear h hlo
    go_enter Tryz.func62, Tryz.ntmps62
    go_wp2
    go_ret
    exact ⟨rfl, rfl⟩
set_option maxRecDepth 100000 in
set_option maxHeartbeats 6400000 in
theorem textRule_any (r : RuleD) (v : Value) (w : World) (hv : RuleIs w v r) (hf : 0 ≤ r.fq ∧ r.fq ≤ 255) (hdl : r.dy.length ≤ 2147483647) : Calls Tryz.prog 25 #[v] w (TRPost r w) := by
  obtain ⟨v8, v9, v10, v11, v12, v13, v14, v15, v16, v17, rfl, hR⟩ := hv
  obtain ⟨a8, c8, rfl⟩ := hR.l8.formL
  obtain ⟨a9, c9, rfl⟩ := hR.l9.formL
  obtain ⟨a10, c10, rfl⟩ := hR.l10.formL
  obtain ⟨a11, c11, rfl⟩ := hR.l11.formL
  obtain ⟨a12, c12, rfl⟩ := hR.l12.formL
  obtain ⟨a13, c13, rfl, hdy⟩ := hR.l13.form
  obtain ⟨a14, c14, rfl⟩ := hR.l14.formL
  obtain ⟨a15, c15, rfl⟩ := hR.l15.formL
  obtain ⟨a16, c16, rfl⟩ := hR.l16.formL
  obtain ⟨a17, c17, rfl⟩ := hR.l17.formL
  clear hR
  have HDY := Lib.hid hdy
  clear hdy
  obtain ⟨f, hs, st, iv, wk, ct, hu, un, sp, mo, md, yd, wn, dy, ho, mi, se, ea⟩ := r
  simp only at hf hdl
  have HDZ : Hid (dy = [] ∨ ∃ g gq, a13 = some ⟨g, gq, none⟩ ∧ DayRowQ w g gq dy) := HDY
  clear HDY
  unfold ruleVal
  simp only
  have HT : Hid (f ≤ 6 → 0 ≤ wk → wk ≤ 6 → InTime st → InTime un → hu = (un != 0) → hs = (st != 0) → dy.length ≤ 40 → (∀ p ∈ dy, 0 ≤ p.1 ∧ p.1 ≤ 6) → (sp.length ≤ 40 ∧ mo.length ≤ 40 ∧ md.length ≤ 40 ∧ yd.length ≤ 40 ∧ wn.length ≤ 40 ∧ ho.length ≤ 40 ∧ mi.length ≤ 40 ∧ se.length ≤ 40 ∧ ea.length ≤ 40) → TextR ⟨f, hs, st, iv, wk, ct, hu, un, sp, mo, md, yd, wn, dy, ho, mi, se, ea⟩) :=
    Lib.hid (fun h1 h2 h3 h4 h5 h6 h7 h8 h9 h10 => ⟨h1, ⟨h2, h3⟩, h4, h5, h6, h7, h8, h9, h10⟩)
  generalize (⟨f, hs, st, iv, wk, ct, hu, un, sp, mo, md, yd, wn, dy, ho, mi, se, ea⟩ : RuleD) = RR at *
  have HB : Hid (∀ cs : Array Value, Below w.heap.size w (w.alloc (.cells cs 26))) := Lib.hid (fun cs => (Below.refl _ _).alloc (Nat.le_refl _) _)
  generalize sp.length = n8 at *
  generalize mo.length = n9 at *
  generalize md.length = n10 at *
  generalize yd.length = n11 at *
  generalize wn.length = n12 at *
  generalize ho.length = n14 at *
  generalize mi.length = n15 at *
  generalize se.length = n16 at *
  generalize ea.length = n17 at *
  rcases Int.lt_or_le 6 f with h1 | h1
  · have b1 : decide ((6 : Int) < f) = true := decide_eq_true h1
    go_enter Tryz.func25, Tryz.ntmps25
    go_wp2_with (first
      | (fail))
    go_ret
    exact tr_no rfl (HB.out _)
  have b1 : decide ((6 : Int) < f) = false := decide_eq_false (by omega)
  rcases Int.lt_or_le wk 0 with h2 | h2
  · have b2 : decide (wk < 0) = true := decide_eq_true h2
    go_enter Tryz.func25, Tryz.ntmps25
    go_wp2_with (first
      | (fail))
    go_ret
    exact tr_no rfl (HB.out _)
  have b2 : decide (wk < 0) = false := decide_eq_false (by omega)
  rcases Int.lt_or_le 6 wk with h3 | h3
  · have b3 : decide ((6 : Int) < wk) = true := decide_eq_true h3
    go_enter Tryz.func25, Tryz.ntmps25
    go_wp2_with (first
      | (fail))
    go_ret
    exact tr_no rfl (HB.out _)
  have b3 : decide ((6 : Int) < wk) = false := decide_eq_false (by omega)
  by_cases h4 : ¬ (InTime st)
  · have H62 := Lib.hid (inTime_no st h4)
    clear h4
    go_enter Tryz.func25, Tryz.ntmps25
    go_wp2_with (first
      | (go_at_call 62; go_must (refine (H62.out _).mono ?_; rintro e w1 ⟨rfl, rfl⟩))
      | (fail))
    go_ret
    exact tr_no rfl (HB.out _)
  have h4 := Classical.not_not.1 h4
  have H62 := Lib.hid (inTime_yes st h4)
  have H4 := Lib.hid h4
  clear h4
  by_cases h5 : ¬ (InTime un)
  · have H62b := Lib.hid (inTime_no un h5)
    clear h5
    go_enter Tryz.func25, Tryz.ntmps25
    go_wp2_with (first
      | (go_at_call_of 62 (Value.int .i64 st); go_must (refine (H62.out _).mono ?_; rintro e w1 ⟨rfl, rfl⟩))
      | (go_at_call_of 62 (Value.int .i64 un); go_must (refine (H62b.out _).mono ?_; rintro e w1 ⟨rfl, rfl⟩))
      | (fail))
    go_ret
    exact tr_no rfl (HB.out _)
  have h5 := Classical.not_not.1 h5
  have H62b := Lib.hid (inTime_yes un h5)
  have H5 := Lib.hid h5
  clear h5
  generalize hzu : (un == 0) = zu
  have hzu' : (un != 0) = !zu := by rw [← hzu]; rfl
  generalize hzs : (st == 0) = zs
  have hzs' : (st != 0) = !zs := by rw [← hzs]; rfl
  by_cases h6 : ¬ (hu = !zu)
  · have hcc : (hu = true ∧ zu = true) ∨ (hu = false ∧ zu = false) := by revert h6; cases hu <;> cases zu <;> simp
    clear h6
    rcases hcc with ⟨rfl, rfl⟩ | ⟨rfl, rfl⟩
    all_goals
      go_enter Tryz.func25, Tryz.ntmps25
      go_wp2_with (first
        | (go_at_call_of 62 (Value.int .i64 st); go_must (refine (H62.out _).mono ?_; rintro e w1 ⟨rfl, rfl⟩))
        | (go_at_call_of 62 (Value.int .i64 un); go_must (refine (H62b.out _).mono ?_; rintro e w1 ⟨rfl, rfl⟩))
        | (fail))
      go_ret
      exact tr_no rfl (HB.out _)
  have h6 := Classical.not_not.1 h6
  have H6 := Lib.hid (h6.trans hzu'.symm)
  subst h6
  by_cases h7 : ¬ (hs = !zs)
  · have hcc : (hs = true ∧ zs = true) ∨ (hs = false ∧ zs = false) := by revert h7; cases hs <;> cases zs <;> simp
    clear h7
    rcases hcc with ⟨rfl, rfl⟩ | ⟨rfl, rfl⟩
    all_goals
      go_enter Tryz.func25, Tryz.ntmps25
      go_wp2_with (first
        | (go_at_call_of 62 (Value.int .i64 st); go_must (refine (H62.out _).mono ?_; rintro e w1 ⟨rfl, rfl⟩))
        | (go_at_call_of 62 (Value.int .i64 un); go_must (refine (H62b.out _).mono ?_; rintro e w1 ⟨rfl, rfl⟩))
        | (fail))
      go_ret
      exact tr_no rfl (HB.out _)
  have h7 := Classical.not_not.1 h7
  have H7 := Lib.hid (h7.trans hzs'.symm)
  subst h7
  rcases Nat.lt_or_ge 40 dy.length with h8 | h8
  · have b8 : decide ((40 : Int) < (dy.length : Int)) = true := decide_eq_true (by omega)
    go_enter Tryz.func25, Tryz.ntmps25
    go_wp2_with (first
      | (go_at_call_of 62 (Value.int .i64 st); go_must (refine (H62.out _).mono ?_; rintro e w1 ⟨rfl, rfl⟩))
      | (go_at_call_of 62 (Value.int .i64 un); go_must (refine (H62b.out _).mono ?_; rintro e w1 ⟨rfl, rfl⟩))
      | (fail))
    go_ret
    exact tr_no rfl (HB.out _)
  have b8 : decide ((40 : Int) < (dy.length : Int)) = false := decide_eq_false (by omega)
  go_enter Tryz.func25, Tryz.ntmps25
  go_wp2_with (first
    | (go_at_call_of 62 (Value.int .i64 st); go_must (refine (H62.out _).mono ?_; rintro e w1 ⟨rfl, rfl⟩))
    | (go_at_call_of 62 (Value.int .i64 un); go_must (refine (H62b.out _).mono ?_; rintro e w1 ⟨rfl, rfl⟩))
    | (fail))
  have H8 := Lib.hid h8
  clear b1 b2 b3 b8 h8
  have hbx : Below w.heap.size w (w.alloc (.cells #[.int .u8 f, .bool !zs, .int .i64 st, .int .i64 iv, .int .i64 wk, .int .i64 ct, .bool !zu, .int .i64 un, .slice a8 n8 c8, .slice a9 n9 c9, .slice a10 n10 c10, .slice a11 n11 c11, .slice a12 n12 c12, .slice a13 dy.length c13, .slice a14 n14 c14, .slice a15 n15 c15, .slice a16 n16 c16, .slice a17 n17 c17] 26)) := HB.out _
  have hrow : RowAt (w.alloc (.cells #[.int .u8 f, .bool !zs, .int .i64 st, .int .i64 iv, .int .i64 wk, .int .i64 ct, .bool !zu, .int .i64 un, .slice a8 n8 c8, .slice a9 n9 c9, .slice a10 n10 c10, .slice a11 n11 c11, .slice a12 n12 c12, .slice a13 dy.length c13, .slice a14 n14 c14, .slice a15 n15 c15, .slice a16 n16 c16, .slice a17 n17 c17] 26)) w.heap.size 26 [.int .u8 f, .bool !zs, .int .i64 st, .int .i64 iv, .int .i64 wk, .int .i64 ct, .bool !zu, .int .i64 un, .slice a8 n8 c8, .slice a9 n9 c9, .slice a10 n10 c10, .slice a11 n11 c11, .slice a12 n12 c12, .slice a13 dy.length c13, .slice a14 n14 c14, .slice a15 n15 c15, .slice a16 n16 c16, .slice a17 n17 c17] := ⟨heap_alloc_new w _⟩
  generalize w.alloc (.cells #[.int .u8 f, .bool !zs, .int .i64 st, .int .i64 iv, .int .i64 wk, .int .i64 ct, .bool !zu, .int .i64 un, .slice a8 n8 c8, .slice a9 n9 c9, .slice a10 n10 c10, .slice a11 n11 c11, .slice a12 n12 c12, .slice a13 dy.length c13, .slice a14 n14 c14, .slice a15 n15 c15, .slice a16 n16 c16, .slice a17 n17 c17] 26) = W1 at *
  clear H62 H62b HB hzu hzs
  go_loopw [60] (fun i wr => ∃ k : Nat, k ≤ dy.length ∧ i = .int .i64 k ∧ RowAt wr w.heap.size 26 [.int .u8 f, .bool !zs, .int .i64 st, .int .i64 iv, .int .i64 wk, .int .i64 ct, .bool !zu, .int .i64 un, .slice a8 n8 c8, .slice a9 n9 c9, .slice a10 n10 c10, .slice a11 n11 c11, .slice a12 n12 c12, .slice a13 dy.length c13, .slice a14 n14 c14, .slice a15 n15 c15, .slice a16 n16 c16, .slice a17 n17 c17] ∧ Below w.heap.size w wr ∧ Hid (∀ p ∈ dy.take k, 0 ≤ p.1 ∧ p.1 ≤ 6)) (fun i _ => dy.length - (intOf i).toNat)
  case atStart => exact ⟨0, by omega, rfl, hrow, hbx, Lib.hid (fun p hp => by simp at hp)⟩
  case round =>
    clear hrow hbx
    obtain ⟨k, hk, rfl, hrow, hb, hA⟩ := hrel
    by_cases hlt : k < dy.length
    · obtain ⟨g, gq, rfl, hdr⟩ : ∃ g gq, a13 = some ⟨g, gq, none⟩ ∧ DayRowQ wr g gq dy := by
        rcases HDZ.out with h | ⟨g, gq, h, hd⟩
        · have h : dy = [] := h
          rw [h] at hlt; simp at hlt
        · exact ⟨g, gq, h, hd.below hb⟩
      have hgl := hdr.lt
      obtain ⟨hcd, hcn⟩ := hdr.cell k dy[k] (by simp [hlt])
      have hA2 : Hid (0 ≤ dy[k].1 → dy[k].1 ≤ 6 → ∀ p ∈ dy.take (k + 1), 0 ≤ p.1 ∧ p.1 ≤ 6) := Lib.hid (fun h1 h2 p hp => by
        rw [List.take_succ_eq_append_getElem hlt] at hp
        rcases List.mem_append.1 hp with hp | hp
        · exact hA.out p hp
        · rw [List.mem_singleton] at hp; subst hp; exact ⟨h1, h2⟩)
      generalize dy[k] = p at hcd hcn hA2
      obtain ⟨d, n⟩ := p
      simp only at hcd hcn hA2
      have HRW := Lib.hid hrow
      have HBW := Lib.hid hb
      have hbW : w.heap.size ≤ wr.heap.size := hb.size
      clear hrow hb hdr hA
      rcases Int.lt_or_le d 0 with hd | hd
      · have e1 : decide (d < 0) = true := decide_eq_true hd
        go_wp2
        go_ret
        exact tr_no rfl (HBW.out.alloc hbW _)
      · have e1 : decide (d < 0) = false := decide_eq_false (by omega)
        rcases Int.lt_or_le 6 d with hd2 | hd2
        · have e2 : decide (6 < d) = true := decide_eq_true hd2
          go_wp2
          go_ret
          exact tr_no rfl (HBW.out.alloc hbW _)
        · have e2 : decide (6 < d) = false := decide_eq_false (by omega)
          have hN := Lib.hid (hA2.out hd hd2)
          clear hA2
          go_wp2
          go_roundw
          case rel => exact ⟨k + 1, by omega, by go_num, HRW.out.below ((Below.refl _ _).alloc (Nat.le_refl _) _), HBW.out.alloc hbW _, hN⟩
          case measure => simp [intOf]; omega
    · obtain rfl : k = dy.length := by omega
      rw [List.take_length] at hA
      have q8 := hrow.cell 8 (v := .slice a8 n8 c8) rfl
      have q9 := hrow.cell 9 (v := .slice a9 n9 c9) rfl
      have q10 := hrow.cell 10 (v := .slice a10 n10 c10) rfl
      have q11 := hrow.cell 11 (v := .slice a11 n11 c11) rfl
      have q12 := hrow.cell 12 (v := .slice a12 n12 c12) rfl
      have q14 := hrow.cell 14 (v := .slice a14 n14 c14) rfl
      have q15 := hrow.cell 15 (v := .slice a15 n15 c15) rfl
      have q16 := hrow.cell 16 (v := .slice a16 n16 c16) rfl
      have q17 := hrow.cell 17 (v := .slice a17 n17 c17) rfl
      have HBW := Lib.hid hb
      have hbW : w.heap.size ≤ wr.heap.size := hb.size
      clear hrow hb
      go_wp2_with (fail)
      go_loop [93] (fun i => ∃ k : Nat, k ≤ 9 ∧ i = .int .i64 k ∧ Hid ((1 ≤ k → n8 ≤ 40) ∧ (2 ≤ k → n9 ≤ 40) ∧ (3 ≤ k → n10 ≤ 40) ∧ (4 ≤ k → n11 ≤ 40) ∧ (5 ≤ k → n12 ≤ 40) ∧ (6 ≤ k → n14 ≤ 40) ∧ (7 ≤ k → n15 ≤ 40) ∧ (8 ≤ k → n16 ≤ 40) ∧ (9 ≤ k → n17 ≤ 40))) (fun i => 9 - (intOf i).toNat)
      case atStart => exact ⟨0, by omega, rfl, Lib.hid (by refine ⟨?_, ?_, ?_, ?_, ?_, ?_, ?_, ?_, ?_⟩ <;> (intro h; omega))⟩
      case round =>
        obtain ⟨k, hk, rfl, HK⟩ := hrel
        rcases (show k = 0 ∨ k = 1 ∨ k = 2 ∨ k = 3 ∨ k = 4 ∨ k = 5 ∨ k = 6 ∨ k = 7 ∨ k = 8 ∨ k = 9 by omega) with rfl | rfl | rfl | rfl | rfl | rfl | rfl | rfl | rfl | rfl
        · rcases Nat.lt_or_ge 40 n8 with h | h
          · have e1 : decide ((40 : Int) < (n8 : Int)) = true := decide_eq_true (by omega)
            go_wp2
            go_ret
            exact tr_no rfl (HBW.out.alloc hbW _)
          · have e1 : decide ((40 : Int) < (n8 : Int)) = false := decide_eq_false (by omega)
            have HN : Hid ((1 ≤ 1 → n8 ≤ 40) ∧ (2 ≤ 1 → n9 ≤ 40) ∧ (3 ≤ 1 → n10 ≤ 40) ∧ (4 ≤ 1 → n11 ≤ 40) ∧ (5 ≤ 1 → n12 ≤ 40) ∧ (6 ≤ 1 → n14 ≤ 40) ∧ (7 ≤ 1 → n15 ≤ 40) ∧ (8 ≤ 1 → n16 ≤ 40) ∧ (9 ≤ 1 → n17 ≤ 40)) := Lib.hid (by obtain ⟨k1, k2, k3, k4, k5, k6, k7, k8, k9⟩ := HK.out; exact ⟨fun _ => by omega, fun _ => by omega, fun _ => by omega, fun _ => by omega, fun _ => by omega, fun _ => by omega, fun _ => by omega, fun _ => by omega, fun _ => by omega⟩)
            go_wp2
            go_round
            case rel => exact ⟨1, by omega, rfl, HN⟩
            case measure => simp [intOf]
        · rcases Nat.lt_or_ge 40 n9 with h | h
          · have e1 : decide ((40 : Int) < (n9 : Int)) = true := decide_eq_true (by omega)
            go_wp2
            go_ret
            exact tr_no rfl (HBW.out.alloc hbW _)
          · have e1 : decide ((40 : Int) < (n9 : Int)) = false := decide_eq_false (by omega)
            have HN : Hid ((1 ≤ 2 → n8 ≤ 40) ∧ (2 ≤ 2 → n9 ≤ 40) ∧ (3 ≤ 2 → n10 ≤ 40) ∧ (4 ≤ 2 → n11 ≤ 40) ∧ (5 ≤ 2 → n12 ≤ 40) ∧ (6 ≤ 2 → n14 ≤ 40) ∧ (7 ≤ 2 → n15 ≤ 40) ∧ (8 ≤ 2 → n16 ≤ 40) ∧ (9 ≤ 2 → n17 ≤ 40)) := Lib.hid (by obtain ⟨k1, k2, k3, k4, k5, k6, k7, k8, k9⟩ := HK.out; exact ⟨fun _ => by omega, fun _ => by omega, fun _ => by omega, fun _ => by omega, fun _ => by omega, fun _ => by omega, fun _ => by omega, fun _ => by omega, fun _ => by omega⟩)
            go_wp2
            go_round
            case rel => exact ⟨2, by omega, rfl, HN⟩
            case measure => simp [intOf]
        · rcases Nat.lt_or_ge 40 n10 with h | h
          · have e1 : decide ((40 : Int) < (n10 : Int)) = true := decide_eq_true (by omega)
            go_wp2
            go_ret
            exact tr_no rfl (HBW.out.alloc hbW _)
          · have e1 : decide ((40 : Int) < (n10 : Int)) = false := decide_eq_false (by omega)
            have HN : Hid ((1 ≤ 3 → n8 ≤ 40) ∧ (2 ≤ 3 → n9 ≤ 40) ∧ (3 ≤ 3 → n10 ≤ 40) ∧ (4 ≤ 3 → n11 ≤ 40) ∧ (5 ≤ 3 → n12 ≤ 40) ∧ (6 ≤ 3 → n14 ≤ 40) ∧ (7 ≤ 3 → n15 ≤ 40) ∧ (8 ≤ 3 → n16 ≤ 40) ∧ (9 ≤ 3 → n17 ≤ 40)) := Lib.hid (by obtain ⟨k1, k2, k3, k4, k5, k6, k7, k8, k9⟩ := HK.out; exact ⟨fun _ => by omega, fun _ => by omega, fun _ => by omega, fun _ => by omega, fun _ => by omega, fun _ => by omega, fun _ => by omega, fun _ => by omega, fun _ => by omega⟩)
            go_wp2
            go_round
            case rel => exact ⟨3, by omega, rfl, HN⟩
            case measure => simp [intOf]
        · rcases Nat.lt_or_ge 40 n11 with h | h
          · have e1 : decide ((40 : Int) < (n11 : Int)) = true := decide_eq_true (by omega)
            go_wp2
            go_ret
            exact tr_no rfl (HBW.out.alloc hbW _)
          · have e1 : decide ((40 : Int) < (n11 : Int)) = false := decide_eq_false (by omega)
            have HN : Hid ((1 ≤ 4 → n8 ≤ 40) ∧ (2 ≤ 4 → n9 ≤ 40) ∧ (3 ≤ 4 → n10 ≤ 40) ∧ (4 ≤ 4 → n11 ≤ 40) ∧ (5 ≤ 4 → n12 ≤ 40) ∧ (6 ≤ 4 → n14 ≤ 40) ∧ (7 ≤ 4 → n15 ≤ 40) ∧ (8 ≤ 4 → n16 ≤ 40) ∧ (9 ≤ 4 → n17 ≤ 40)) := Lib.hid (by obtain ⟨k1, k2, k3, k4, k5, k6, k7, k8, k9⟩ := HK.out; exact ⟨fun _ => by omega, fun _ => by omega, fun _ => by omega, fun _ => by omega, fun _ => by omega, fun _ => by omega, fun _ => by omega, fun _ => by omega, fun _ => by omega⟩)
            go_wp2
            go_round
            case rel => exact ⟨4, by omega, rfl, HN⟩
            case measure => simp [intOf]
        · rcases Nat.lt_or_ge 40 n12 with h | h
          · have e1 : decide ((40 : Int) < (n12 : Int)) = true := decide_eq_true (by omega)
            go_wp2
            go_ret
            exact tr_no rfl (HBW.out.alloc hbW _)
          · have e1 : decide ((40 : Int) < (n12 : Int)) = false := decide_eq_false (by omega)
            have HN : Hid ((1 ≤ 5 → n8 ≤ 40) ∧ (2 ≤ 5 → n9 ≤ 40) ∧ (3 ≤ 5 → n10 ≤ 40) ∧ (4 ≤ 5 → n11 ≤ 40) ∧ (5 ≤ 5 → n12 ≤ 40) ∧ (6 ≤ 5 → n14 ≤ 40) ∧ (7 ≤ 5 → n15 ≤ 40) ∧ (8 ≤ 5 → n16 ≤ 40) ∧ (9 ≤ 5 → n17 ≤ 40)) := Lib.hid (by obtain ⟨k1, k2, k3, k4, k5, k6, k7, k8, k9⟩ := HK.out; exact ⟨fun _ => by omega, fun _ => by omega, fun _ => by omega, fun _ => by omega, fun _ => by omega, fun _ => by omega, fun _ => by omega, fun _ => by omega, fun _ => by omega⟩)
            go_wp2
            go_round
            case rel => exact ⟨5, by omega, rfl, HN⟩
            case measure => simp [intOf]
        · rcases Nat.lt_or_ge 40 n14 with h | h
          · have e1 : decide ((40 : Int) < (n14 : Int)) = true := decide_eq_true (by omega)
            go_wp2
            go_ret
            exact tr_no rfl (HBW.out.alloc hbW _)
          · have e1 : decide ((40 : Int) < (n14 : Int)) = false := decide_eq_false (by omega)
            have HN : Hid ((1 ≤ 6 → n8 ≤ 40) ∧ (2 ≤ 6 → n9 ≤ 40) ∧ (3 ≤ 6 → n10 ≤ 40) ∧ (4 ≤ 6 → n11 ≤ 40) ∧ (5 ≤ 6 → n12 ≤ 40) ∧ (6 ≤ 6 → n14 ≤ 40) ∧ (7 ≤ 6 → n15 ≤ 40) ∧ (8 ≤ 6 → n16 ≤ 40) ∧ (9 ≤ 6 → n17 ≤ 40)) := Lib.hid (by obtain ⟨k1, k2, k3, k4, k5, k6, k7, k8, k9⟩ := HK.out; exact ⟨fun _ => by omega, fun _ => by omega, fun _ => by omega, fun _ => by omega, fun _ => by omega, fun _ => by omega, fun _ => by omega, fun _ => by omega, fun _ => by omega⟩)
            go_wp2
            go_round
            case rel => exact ⟨6, by omega, rfl, HN⟩
            case measure => simp [intOf]
        · rcases Nat.lt_or_ge 40 n15 with h | h
          · have e1 : decide ((40 : Int) < (n15 : Int)) = true := decide_eq_true (by omega)
            go_wp2
            go_ret
            exact tr_no rfl (HBW.out.alloc hbW _)
          · have e1 : decide ((40 : Int) < (n15 : Int)) = false := decide_eq_false (by omega)
            have HN : Hid ((1 ≤ 7 → n8 ≤ 40) ∧ (2 ≤ 7 → n9 ≤ 40) ∧ (3 ≤ 7 → n10 ≤ 40) ∧ (4 ≤ 7 → n11 ≤ 40) ∧ (5 ≤ 7 → n12 ≤ 40) ∧ (6 ≤ 7 → n14 ≤ 40) ∧ (7 ≤ 7 → n15 ≤ 40) ∧ (8 ≤ 7 → n16 ≤ 40) ∧ (9 ≤ 7 → n17 ≤ 40)) := Lib.hid (by obtain ⟨k1, k2, k3, k4, k5, k6, k7, k8, k9⟩ := HK.out; exact ⟨fun _ => by omega, fun _ => by omega, fun _ => by omega, fun _ => by omega, fun _ => by omega, fun _ => by omega, fun _ => by omega, fun _ => by omega, fun _ => by omega⟩)
            go_wp2
            go_round
            case rel => exact ⟨7, by omega, rfl, HN⟩
            case measure => simp [intOf]
        · rcases Nat.lt_or_ge 40 n16 with h | h
          · have e1 : decide ((40 : Int) < (n16 : Int)) = true := decide_eq_true (by omega)
            go_wp2
            go_ret
            exact tr_no rfl (HBW.out.alloc hbW _)
          · have e1 : decide ((40 : Int) < (n16 : Int)) = false := decide_eq_false (by omega)
            have HN : Hid ((1 ≤ 8 → n8 ≤ 40) ∧ (2 ≤ 8 → n9 ≤ 40) ∧ (3 ≤ 8 → n10 ≤ 40) ∧ (4 ≤ 8 → n11 ≤ 40) ∧ (5 ≤ 8 → n12 ≤ 40) ∧ (6 ≤ 8 → n14 ≤ 40) ∧ (7 ≤ 8 → n15 ≤ 40) ∧ (8 ≤ 8 → n16 ≤ 40) ∧ (9 ≤ 8 → n17 ≤ 40)) := Lib.hid (by obtain ⟨k1, k2, k3, k4, k5, k6, k7, k8, k9⟩ := HK.out; exact ⟨fun _ => by omega, fun _ => by omega, fun _ => by omega, fun _ => by omega, fun _ => by omega, fun _ => by omega, fun _ => by omega, fun _ => by omega, fun _ => by omega⟩)
            go_wp2
            go_round
            case rel => exact ⟨8, by omega, rfl, HN⟩
            case measure => simp [intOf]
        · rcases Nat.lt_or_ge 40 n17 with h | h
          · have e1 : decide ((40 : Int) < (n17 : Int)) = true := decide_eq_true (by omega)
            go_wp2
            go_ret
            exact tr_no rfl (HBW.out.alloc hbW _)
          · have e1 : decide ((40 : Int) < (n17 : Int)) = false := decide_eq_false (by omega)
            have HN : Hid ((1 ≤ 9 → n8 ≤ 40) ∧ (2 ≤ 9 → n9 ≤ 40) ∧ (3 ≤ 9 → n10 ≤ 40) ∧ (4 ≤ 9 → n11 ≤ 40) ∧ (5 ≤ 9 → n12 ≤ 40) ∧ (6 ≤ 9 → n14 ≤ 40) ∧ (7 ≤ 9 → n15 ≤ 40) ∧ (8 ≤ 9 → n16 ≤ 40) ∧ (9 ≤ 9 → n17 ≤ 40)) := Lib.hid (by obtain ⟨k1, k2, k3, k4, k5, k6, k7, k8, k9⟩ := HK.out; exact ⟨fun _ => by omega, fun _ => by omega, fun _ => by omega, fun _ => by omega, fun _ => by omega, fun _ => by omega, fun _ => by omega, fun _ => by omega, fun _ => by omega⟩)
            go_wp2
            go_round
            case rel => exact ⟨9, by omega, rfl, HN⟩
            case measure => simp [intOf]
        · have HFIN := HT.out (by omega) (by omega) (by omega) H4.out H5.out H6.out H7.out (by have := H8.out; omega) hA.out (by obtain ⟨k1, k2, k3, k4, k5, k6, k7, k8, k9⟩ := HK.out; exact ⟨by omega, by omega, by omega, by omega, by omega, by omega, by omega, by omega, by omega⟩)
          have HF2 := Lib.hid HFIN
          clear HFIN
          go_wp2
          go_ret
          exact ⟨true, rfl, fun _ => HF2.out, HBW.out.alloc hbW _⟩
end Go.Proofs.YtcfbkkcamiephaaGreatDoor
namespace Go.Proofs.YtcfbkkcamiephaaGreatDoor
open Go.RowKit

attribute [local go_sem ↓] Go.wp_at_zero Go.wp_at_succ lockL_eq

/-! ### a rule that can be asked as a text: its option -/
/-- The ranges that a rule's numbers have by their kinds. -/
structure RuleIn (r : RuleD) : Prop where
  fq : 0 ≤ r.fq ∧ r.fq ≤ 255
  iv : In64 r.iv
  ct : In64 r.ct
  sp : ∀ z ∈ r.sp, In64 z
  mo : ∀ z ∈ r.mo, In64 z
  md : ∀ z ∈ r.md, In64 z
  yd : ∀ z ∈ r.yd, In64 z
  wn : ∀ z ∈ r.wn, In64 z
  dy : ∀ p ∈ r.dy, In64 p.2
  ho : ∀ z ∈ r.ho, In64 z
  mi : ∀ z ∈ r.mi, In64 z
  se : ∀ z ∈ r.se, In64 z
  ea : ∀ z ∈ r.ea, In64 z
theorem in0 : InTime 0 := ⟨by decide, by decide⟩
theorem in64_0 : In64 0 := ⟨by decide, by decide⟩
theorem optN_of {r : RuleD} (h : TextR r) (k : RuleIn r) : OptN (optOf r) := by
  refine ⟨⟨⟨k.fq.1, h.fq⟩, ?_, k.iv, ⟨h.wk.1, h.wk.2, in64_0⟩, k.ct, ?_, ⟨by have := h.l.1; show r.sp.length ≤ _; omega, k.sp⟩, ⟨by have := h.l.2.1; show r.mo.length ≤ _; omega, k.mo⟩, ⟨by have := h.l.2.2.1; show r.md.length ≤ _; omega, k.md⟩, ⟨by have := h.l.2.2.2.1; show r.yd.length ≤ _; omega, k.yd⟩, ⟨by have := h.l.2.2.2.2.1; show r.wn.length ≤ _; omega, k.wn⟩,
    ⟨by have := h.dl; show r.dy.length ≤ _; omega, fun p hp => ⟨(h.dy p hp).1, (h.dy p hp).2, k.dy p hp⟩⟩, ⟨by have := h.l.2.2.2.2.2.1; show r.ho.length ≤ _; omega, k.ho⟩, ⟨by have := h.l.2.2.2.2.2.2.1; show r.mi.length ≤ _; omega, k.mi⟩, ⟨by have := h.l.2.2.2.2.2.2.2.1; show r.se.length ≤ _; omega, k.se⟩, ⟨by have := h.l.2.2.2.2.2.2.2.2; show r.ea.length ≤ _; omega, k.ea⟩⟩, rfl, rfl⟩
  · show InTime (if r.hs = true then r.st else 0)
    split
    · exact h.st
    · exact in0
  · show InTime (if r.hu = true then r.un else 0)
    split
    · exact h.un
    · exact in0
theorem ruleOf_optOf {r : RuleD} (h : TextR r) : ruleOf (optOf r) = r := by
  have e : ∀ (b : Bool) (n : Int), b = (n != 0) → (if b = true then n else 0) = n := fun b n hb => by
    by_cases hn : n = 0
    · subst hn; split <;> rfl
    · rw [if_pos (by rw [hb]; simpa using hn)]
  have hs := e r.hs r.st h.hs
  have hu := e r.hu r.un h.hu
  obtain ⟨f, hs', st, iv, wk, ct, hu', un, sp, mo, md, yd, wn, dy, ho, mi, se, ea⟩ := r
  unfold ruleOf optOf
  simp only at hs hu ⊢
  rw [hs, hu, isZ_zero, isZ_zero, ← h.hs, ← h.hu]
/-- The rule without its start. -/
def bareOf (r : RuleD) : RuleD := { r with hs := false, st := 0 }
theorem ruleOf_bare {r : RuleD} (h : TextR r) : ruleOf { optOf r with st := (0, 0) } = bareOf r := by
  have := ruleOf_optOf h
  unfold bareOf
  conv => rhs; rw [← this]
  rfl
theorem ruleLen {r : RuleD} (h : TextR r) : RuleLen r := ⟨by obtain ⟨h1, h2, h3, h4, h5, h6, h7, h8, h9⟩ := h.l; have := h.dl; exact ⟨by omega, by omega, by omega, by omega, by omega, by omega, by omega, by omega, by omega, by omega⟩⟩
theorem optL_len (o : Opt) (h : OptOk o) : (optL o).length ≤ 1000000 := by
  have h1 := rrL_len o h
  have h2 := stampS_len _ h.st
  unfold optL
  split
  · omega
  · simp only [List.length_append, rfcL, List.length_cons, dtL, nlL, List.length_nil]; omega


/-! ### FnTextBack -/
structure Bk (w W : World) (B1 B3 : Nat) (L1 L3 : Array Value) (r r3 : RuleD) : Prop where
  lt1 : B1 < W.heap.size
  lt3 : B3 < W.heap.size
  hb : Below w.heap.size w W
  good : Good W
  r1 : RuleIs W (.agg L1) r
  r3 : RuleIs W (.agg L3) r3
theorem bk_call {w W w1 : World} {B1 B3 : Nat} {L1 L3 : Array Value} {r r3 : RuleD} (h : (∀ i, W.cell? ⟨B1, i, none⟩ = L1[i]?) ∧ (∀ i, W.cell? ⟨B3, i, none⟩ = L3[i]?) ∧ Bk w W B1 B3 L1 L3 r r3) (hb : Below W.heap.size W w1) :
    (∀ i, w1.cell? ⟨B1, i, none⟩ = L1[i]?) ∧ (∀ i, w1.cell? ⟨B3, i, none⟩ = L3[i]?) ∧ Bk w w1 B1 B3 L1 L3 r r3 :=
  ⟨fun i => ((bcell hb).1 B1 i h.2.2.lt1).trans (h.1 i), fun i => ((bcell hb).1 B3 i h.2.2.lt3).trans (h.2.1 i), Nat.lt_of_lt_of_le h.2.2.lt1 hb.size, Nat.lt_of_lt_of_le h.2.2.lt3 hb.size, h.2.2.hb.trans (hb.mono h.2.2.hb.size), h.2.2.good.below hb, h.2.2.r1.below hb, h.2.2.r3.below hb⟩
theorem bk_drew {w W : World} {B1 B3 : Nat} {L1 L3 : Array Value} {r r3 : RuleD} (h : (∀ i, W.cell? ⟨B1, i, none⟩ = L1[i]?) ∧ (∀ i, W.cell? ⟨B3, i, none⟩ = L3[i]?) ∧ Bk w W B1 B3 L1 L3 r r3) :
    (∀ i, W.drew.cell? ⟨B1, i, none⟩ = L1[i]?) ∧ (∀ i, W.drew.cell? ⟨B3, i, none⟩ = L3[i]?) ∧ Bk w W.drew B1 B3 L1 L3 r r3 := bk_call h (Below.refl _ _).drew
theorem bk_good {w W : World} {B1 B3 : Nat} {L1 L3 : Array Value} {r r3 : RuleD} (h : (∀ i, W.cell? ⟨B1, i, none⟩ = L1[i]?) ∧ (∀ i, W.cell? ⟨B3, i, none⟩ = L3[i]?) ∧ Bk w W B1 B3 L1 L3 r r3) : Good W := h.2.2.good
theorem bk_r1 {w W : World} {B1 B3 : Nat} {L1 L3 : Array Value} {r r3 : RuleD} (h : (∀ i, W.cell? ⟨B1, i, none⟩ = L1[i]?) ∧ (∀ i, W.cell? ⟨B3, i, none⟩ = L3[i]?) ∧ Bk w W B1 B3 L1 L3 r r3) : RuleIs W (.agg L1) r := h.2.2.r1
theorem bk_r3 {w W : World} {B1 B3 : Nat} {L1 L3 : Array Value} {r r3 : RuleD} (h : (∀ i, W.cell? ⟨B1, i, none⟩ = L1[i]?) ∧ (∀ i, W.cell? ⟨B3, i, none⟩ = L3[i]?) ∧ Bk w W B1 B3 L1 L3 r r3) : RuleIs W (.agg L3) r3 := h.2.2.r3
def BkS (w : World) (B1 B3 : Nat) (L1 L3 : Array Value) (r r3 : RuleD) (W : World) : Prop := (∀ i, W.cell? ⟨B1, i, none⟩ = L1[i]?) ∧ (∀ i, W.cell? ⟨B3, i, none⟩ = L3[i]?) ∧ Bk w W B1 B3 L1 L3 r r3
theorem bare_cells {w : World} {cs : Array Value} {r : RuleD} (h : RuleIs w (.agg cs) r) : RuleIs w (.agg ((cs.setIfInBounds 1 (.bool false)).setIfInBounds 2 (.int .i64 0))) (bareOf r) := by
  obtain ⟨v8, v9, v10, v11, v12, v13, v14, v15, v16, v17, he, hR⟩ := h
  injection he with he
  subst he
  exact ⟨v8, v9, v10, v11, v12, v13, v14, v15, v16, v17, rfl, hR.l8, hR.l9, hR.l10, hR.l11, hR.l12, hR.l13, hR.l14, hR.l15, hR.l16, hR.l17⟩
set_option maxRecDepth 100000 in
set_option maxHeartbeats 25600000 in
theorem law_back (hrule : RuleAny) (r : RuleD) (v : Value) (w : World) (hG : Good w) (hv : RuleIs w v r) (hin : RuleIn r) :
    Calls Tryz.prog 13 #[v] w fun e w' => e = .returned (.bool true) ∧ Below w.heap.size w w' := by
  obtain ⟨cs, rfl, hcs, hc1⟩ := ruleVal_cells hv
  have hal : Below w.heap.size w (w.alloc (.cells cs 26)) := (Below.refl _ _).alloc (Nat.le_refl _) _
  have hbox : RowAt (w.alloc (.cells cs 26)) w.heap.size 26 cs.toList := ⟨by rw [heap_alloc_new]⟩
  have HBX := Lib.hid hbox
  have HCS := Lib.hid hcs
  have HV := Lib.hid (hv.below hal)
  have HAL := Lib.hid hal
  have HG := Lib.hid hG
  have H19 := Lib.hid (fun w hG => awake_any hrule option_any w hG)
  have H24 := Lib.hid (fun w hv => fits_any r (.agg cs) w hv)
  clear hbox hcs hv hal hG
  cases hfit : fitsB r with
  | false =>
    rw [hfit] at H24
    clear hfit H19 hrule hin HG
    go_enter Tryz.func13, Tryz.ntmps13
    go_wp2_with (first
      | (refine wpList_load_row rfl 26 _ rfl w.heap.size rfl 26 cs (0, 0) _ HBX.out.blk Tryz.underlying26 rfl (by rw [HCS.out]; as_aux_lemma => kernel_rfl) ?_)
      | (go_at_call 24; go_must (refine (H24.out _ HV.out).mono ?_; rintro e w1 ⟨rfl, hb1⟩))
      | (fail))
    go_ret
    exact ⟨rfl, HAL.out.trans (hb1.mono HAL.out.size)⟩
  | true =>
    have hdl : r.dy.length ≤ 2147483647 := by
      simp only [fitsB, Bool.and_eq_true, decide_eq_true_eq] at hfit
      exact hfit.1.1.1.1.2
    rw [hfit] at H24
    have H25 := Lib.hid (fun w hv => textRule_any r (.agg cs) w hv hin.fq hdl)
    clear hfit hdl
    have HIN := Lib.hid hin
    have HRL := Lib.hid hrule
    clear hin hrule
    go_enter Tryz.func13, Tryz.ntmps13
    go_upto_region 3 with (first
      | (refine wpList_load_row rfl 26 _ rfl w.heap.size rfl 26 cs (0, 0) _ HBX.out.blk Tryz.underlying26 rfl (by rw [HCS.out]; as_aux_lemma => kernel_rfl) ?_)
      | (go_at_call 24; go_must (refine (H24.out _ HV.out).mono ?_; rintro e w1 ⟨rfl, hb1⟩; have HB1 := Lib.hid hb1; clear hb1))
      | (fail))
    have hr1 := Lib.hid (HBX.out.below HB1.out)
    go_upto_if 9 with (first
      | (refine wpList_load_row rfl 26 _ rfl w.heap.size rfl 26 cs (0, 0) _ hr1.out.blk Tryz.underlying26 rfl (by rw [HCS.out]; as_aux_lemma => kernel_rfl) ?_)
      | (go_at_call 25; go_must (refine (H25.out _ (HV.out.below HB1.out)).mono ?_; rintro e w2 ⟨b, rfl, hT, hb2⟩; have HB2 := Lib.hid hb2; have HT := Lib.hid hT; clear hb2 hT))
      | (fail))
    have hB2 : Hid (Below w.heap.size w w2) := Lib.hid ((HAL.out.trans (HB1.out.mono HAL.out.size)).trans (HB2.out.mono (HAL.out.trans (HB1.out.mono HAL.out.size)).size))
    cases b with
    | false =>
      go_wp2_with (first
        | (go_at_call 19; go_must (refine (H19.out _ (HG.out.below hB2.out)).mono ?_; rintro e w3 ⟨rfl, hb3⟩))
        | (fail))
      go_ret
      exact ⟨rfl, hB2.out.trans (hb3.mono hB2.out.size)⟩
    | true =>
      have hT := HT.out rfl
      have hN := optN_of hT HIN.out
      have hRO := ruleOf_optOf hT
      have hRB := ruleOf_bare hT
      have hLn := ruleLen hT
      have hLb : RuleLen (bareOf r) := ⟨hLn.out⟩
      have hol := optL_len _ hN.ok
      have hrl : (rrL (optOf r)).length ≤ 1000000 := by have := rrL_len _ hN.ok; omega
      have h31 : Hid (∀ v w, Good w → RuleIs w v r → Calls Tryz.prog 31 #[v] w fun e w' => e = .returned (.string (mkS (optL (optOf r)))) ∧ Below w.heap.size w w') := fun v w hG hv => optionText_any option_any r v w hG hv HIN.out.fq hN.ok hLn.out.1
      have h41 : Hid (∀ v w, Good w → RuleIs w v r → Calls Tryz.prog 41 #[v] w fun e w' => e = .returned (.string (mkS (rrL (optOf r)))) ∧ Below w.heap.size w w') := fun v w hG hv => ruleString_any option_any r v w hG hv HIN.out.fq hN.ok hLn.out.1
      have h32 : Hid (∀ v w, RuleIs w v r → Calls Tryz.prog 32 #[v] w fun e w' => ∃ v', e = .returned v' ∧ RuleIs w' v' r ∧ Below w.heap.size w w') := fun v w hv => conv32 r v w hv hLn.out.1
      have h27a : Hid (∀ v w, Good w → RuleIs w v r → Calls Tryz.prog 27 #[.string (mkS (optL (optOf r))), v] w fun e w' => e = .returned (.bool true) ∧ Below w.heap.size w w') := fun v w hG hv => parsed_yes HRL.out _ (optOf r) v w hG hol (opt_back _ hN) (by rw [hRO]; exact hv) (by rw [hRO]; exact hLn)
      have h27b : Hid (∀ v w, Good w → RuleIs w v (bareOf r) → Calls Tryz.prog 27 #[.string (mkS (rrL (optOf r))), v] w fun e w' => e = .returned (.bool true) ∧ Below w.heap.size w w') := fun v w hG hv => parsed_yes HRL.out _ { optOf r with st := (0, 0) } v w hG hrl (rr_back _ hN) (by rw [hRB]; exact hv) (by rw [hRB]; exact hLb)
      have hr2 := Lib.hid (hr1.out.below HB2.out)
      have HVb := Lib.hid (bare_cells HV.out)
      have hV2 := Lib.hid ((HV.out.below HB1.out).below HB2.out)
      clear hT hN hRO hRB hLn hLb hol hrl HT HRL HIN H24 H25
      generalize optL (optOf r) = t1 at *
      generalize rrL (optOf r) = t2 at *
      generalize bareOf r = r3 at *
      have hq1 : cs[1]? = some (cs[1]'(by rw [HCS.out]; omega)) := by simp
      have hq2 : cs[2]? = some (cs[2]'(by rw [HCS.out]; omega)) := by simp
      generalize cs[1]'(by rw [HCS.out]; omega) = x1 at hq1
      generalize cs[2]'(by rw [HCS.out]; omega) = x2 at hq2
      go_upto_region 7 with (first
        | (refine wpList_load_row rfl 26 _ rfl w.heap.size rfl 26 cs (0, 0) _ hr2.out.blk Tryz.underlying26 rfl (by rw [HCS.out]; as_aux_lemma => kernel_rfl) ?_)
        | (refine Great.wpList_runTo rfl (some 3) rfl _ _ (run_al26 _ _ rfl _) ?_)
        | (refine wpList_store_fresh rfl 26 _ _ rfl ruleZ0 cs rfl rfl (by rw [HCS.out]; as_aux_lemma => kernel_rfl) (by rw [HCS.out]; rfl) hc1 ?_)
        | (fail))
      have hds : ((cs.setIfInBounds 1 (.bool false)).setIfInBounds 2 (.int .i64 0)).size = 18 := by simp [HCS.out]
      generalize (cs.setIfInBounds 1 (.bool false)).setIfInBounds 2 (.int .i64 0) = ds at *
      have hal2 : Below w2.heap.size w2 (w2.alloc (.cells ds 26)) := (Below.refl _ _).alloc (Nat.le_refl _) _
      have hA : RowAt (w2.alloc (.cells ds 26)) w.heap.size 26 cs.toList := hr2.out.below hal2
      have hB : RowAt (w2.alloc (.cells ds 26)) w2.heap.size 26 ds.toList := ⟨by rw [heap_alloc_new]⟩
      have hBf : Below w.heap.size w (w2.alloc (.cells ds 26)) := hB2.out.trans (hal2.mono hB2.out.size)
      have hK0 : (∀ i, (w2.alloc (.cells ds 26)).cell? ⟨w.heap.size, i, none⟩ = cs[i]?) ∧ (∀ i, (w2.alloc (.cells ds 26)).cell? ⟨w2.heap.size, i, none⟩ = ds[i]?) ∧ Bk w (w2.alloc (.cells ds 26)) w.heap.size w2.heap.size cs ds r r3 :=
        ⟨fun i => by rw [hA.cells]; simp, fun i => by rw [hB.cells]; simp, hA.lt, hB.lt, hBf, (HG.out.below hB2.out).below hal2, hV2.out.below hal2, ((HVb.out.below HB1.out).below HB2.out).below hal2⟩
      have hcs := HCS.out
      have HL1 : ∀ W : World, (∀ i, W.cell? ⟨w.heap.size, i, none⟩ = cs[i]?) → (lockLoad ⟨w.heap.size, 0, none⟩ 18).run Tryz.prog W = .ok cs W := fun W h => lockLoad_arr cs 18 hcs h
      have HL3 : ∀ W : World, (∀ i, W.cell? ⟨w2.heap.size, i, none⟩ = ds[i]?) → (lockLoad ⟨w2.heap.size, 0, none⟩ 18).run Tryz.prog W = .ok ds W := fun W h => lockLoad_arr ds 18 hds h
      clear hal2 hA hB hBf HBX HV HB1 HAL hcs hds HCS HB2 hr2 HVb hV2 hB2 HG hr1 hq1 hq2
      generalize w2.alloc (.cells ds 26) = Wf at *
      generalize w2.heap.size = B3 at *
      generalize hB1 : w.heap.size = B1 at *
      have HB1 := Lib.hid hB1
      clear hB1
      obtain ⟨hc1, hc3, hkw⟩ := hK0
      as_aux_lemma =>
        go_region_held3 (fun w' => (∀ i, w'.cell? ⟨B1, i, none⟩ = cs[i]?) ∧ (∀ i, w'.cell? ⟨B3, i, none⟩ = ds[i]?) ∧ Bk w w' B1 B3 cs ds r r3) (first
          | (with_reducible assumption)
          | (with_reducible exact bk_drew ⟨hc1, hc3, hkw⟩)
          | (with_reducible exact bk_drew (by assumption)))
          (first
          | (go_at_call 19; refine (H19.out _ (bk_good (B1 := B1) (B3 := B3) (L1 := cs) (L3 := ds) (r := r) (r3 := r3) (w := w) (by with_reducible first | assumption | exact bk_drew ⟨hc1, hc3, hkw⟩))).mono ?_; rintro e w7 ⟨rfl, hb7⟩; have hKc := bk_call (by with_reducible first | assumption | exact bk_drew ⟨hc1, hc3, hkw⟩) hb7)
          | (go_at_call 32; refine (h32.out _ _ (bk_r1 (B1 := B1) (B3 := B3) (L1 := cs) (L3 := ds) (r := r) (r3 := r3) (w := w) (by with_reducible first | assumption | exact bk_drew ⟨hc1, hc3, hkw⟩))).mono ?_; rintro e w8 ⟨v8, rfl, hv8, hb8⟩; have hKd := bk_call (by with_reducible first | assumption | exact bk_drew ⟨hc1, hc3, hkw⟩) hb8)
          | (go_at_call 31; refine (h31.out _ _ (bk_good (B1 := B1) (B3 := B3) (L1 := cs) (L3 := ds) (r := r) (r3 := r3) (w := w) (by with_reducible first | assumption | exact bk_drew ⟨hc1, hc3, hkw⟩)) (by with_reducible assumption)).mono ?_; rintro e w9 ⟨rfl, hb9⟩; have hKe := bk_call (by with_reducible first | assumption | exact bk_drew ⟨hc1, hc3, hkw⟩) hb9)
          | (go_at_call 41; refine (h41.out _ _ (bk_good (B1 := B1) (B3 := B3) (L1 := cs) (L3 := ds) (r := r) (r3 := r3) (w := w) (by with_reducible first | assumption | exact bk_drew ⟨hc1, hc3, hkw⟩)) (by with_reducible assumption)).mono ?_; rintro e w10 ⟨rfl, hb10⟩; have hKf := bk_call (by with_reducible first | assumption | exact bk_drew ⟨hc1, hc3, hkw⟩) hb10)
          | (go_at_call_of 27 (Value.string (mkS t1)); refine (h27a.out _ _ (bk_good (B1 := B1) (B3 := B3) (L1 := cs) (L3 := ds) (r := r) (r3 := r3) (w := w) (by with_reducible first | assumption | exact bk_drew ⟨hc1, hc3, hkw⟩)) (bk_r1 (B1 := B1) (B3 := B3) (L1 := cs) (L3 := ds) (r := r) (r3 := r3) (w := w) (by with_reducible first | assumption | exact bk_drew ⟨hc1, hc3, hkw⟩))).mono ?_; rintro e w11 ⟨rfl, hb11⟩; have hKg := bk_call (by with_reducible first | assumption | exact bk_drew ⟨hc1, hc3, hkw⟩) hb11)
          | (go_at_call_of 27 (Value.string (mkS t2)); refine (h27b.out _ _ (bk_good (B1 := B1) (B3 := B3) (L1 := cs) (L3 := ds) (r := r) (r3 := r3) (w := w) (by with_reducible first | assumption | exact bk_drew ⟨hc1, hc3, hkw⟩)) (bk_r3 (B1 := B1) (B3 := B3) (L1 := cs) (L3 := ds) (r := r) (r3 := r3) (w := w) (by with_reducible first | assumption | exact bk_drew ⟨hc1, hc3, hkw⟩))).mono ?_; rintro e w12 ⟨rfl, hb12⟩; have hKh := bk_call (by with_reducible first | assumption | exact bk_drew ⟨hc1, hc3, hkw⟩) hb12))
        all_goals
          go_wp2
          go_ret
          exact ⟨rfl, hKh.2.2.hb⟩
end Go.Proofs.YtcfbkkcamiephaaGreatDoor
