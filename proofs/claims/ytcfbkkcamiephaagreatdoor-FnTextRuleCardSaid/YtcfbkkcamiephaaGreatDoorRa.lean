import Derived.Test.YtcfbkkcamiephaaGreatDoorV1
namespace Go.Proofs.YtcfbkkcamiephaaGreatDoor
open Go.RowKit

/-! ### FnTextRule: the reference's bounds -/
def winB (lo hi : Int) (pm : Bool) (x : Int) : Bool := !((decide (x < lo) || decide (hi < x)) && !(pm && (decide (x ≤ -lo) && decide (-hi ≤ x))))
theorem all_snoc (f : Int → Bool) (xs : List Int) (k : Nat) (h : k < xs.length) (ha : (xs.take k).all f = true) (hx : f xs[k] = true) : (xs.take (k + 1)).all f = true := by
  rw [List.take_succ_eq_append_getElem h, List.all_append, ha]; simp [hx]
theorem all_not (f : Int → Bool) (xs : List Int) (k : Nat) (h : k < xs.length) (hx : f xs[k] = false) : xs.all f = false := by
  rw [Bool.eq_false_iff]
  intro h2
  rw [List.all_eq_true.1 h2 _ (List.getElem_mem h)] at hx
  cases hx
set_option maxRecDepth 100000 in
set_option maxHeartbeats 1600000 in
theorem within_any (xs : List Int) (lo hi : Int) (pm : Bool) (v : Value) (w : World) (hv : IntsV w v xs) (hl : xs.length ≤ 1000000000) (h1 : IntKind.i64.wrap (-lo) = -lo) (h2 : IntKind.i64.wrap (-hi) = -hi) :
    Calls Tryz.prog 74 #[v, .int .i64 lo, .int .i64 hi, .bool pm] w fun e w' => e = .returned (.bool (xs.all (winB lo hi pm))) ∧ w' = w := by
  obtain ⟨a, c, rfl, hr⟩ := hv.form2
  have HR := Lib.hid hr
  clear hr hv
  go_enter Tryz.func74, Tryz.ntmps74
  go_wp2
  go_loopw [13] (fun i wr => ∃ k : Nat, k ≤ xs.length ∧ i = .int .i64 k ∧ wr = w ∧ Hid ((xs.take k).all (winB lo hi pm) = true)) (fun i _ => xs.length - (intOf i).toNat)
  case atStart => exact ⟨0, by omega, rfl, rfl, Lib.hid rfl⟩
  case round =>
  obtain ⟨k, hk, rfl, rfl, HA⟩ := hrel
  by_cases hlt : k < xs.length
  case neg =>
    obtain rfl : k = xs.length := by omega
    rw [List.take_length] at HA
    go_wp2
    go_ret
    exact ⟨by rw [HA.out]; rfl, rfl⟩
  obtain ⟨g, gq, rfl, hg⟩ : ∃ g gq, a = some ⟨g, gq, none⟩ ∧ IntRowQ wr g gq xs := by
    rcases HR.out with h | h
    · rw [h] at hlt; simp at hlt
    · exact h
  have hc := hg.cell k xs[k] (by simp [hlt])
  have HY : Hid (winB lo hi pm xs[k] = true → (xs.take (k + 1)).all (winB lo hi pm) = true) := Lib.hid (fun h => all_snoc _ xs k hlt HA.out h)
  have HN : Hid (winB lo hi pm xs[k] = false → xs.all (winB lo hi pm) = false) := Lib.hid (fun h => all_not _ xs k hlt h)
  clear hg HA
  generalize xs[k] = x at hc HY HN
  have e : winB lo hi pm x = !((decide (x < lo) || decide (hi < x)) && !(pm && (decide (x ≤ -lo) && decide (-hi ≤ x)))) := rfl
  rw [e] at HY HN
  clear e
  obtain ⟨b1, hb1⟩ : ∃ q, decide (x < lo) = q := ⟨_, rfl⟩
  obtain ⟨b2, hb2⟩ : ∃ q, decide (hi < x) = q := ⟨_, rfl⟩
  obtain ⟨b3, hb3⟩ : ∃ q, decide (x ≤ -lo) = q := ⟨_, rfl⟩
  obtain ⟨b4, hb4⟩ : ∃ q, decide (-hi ≤ x) = q := ⟨_, rfl⟩
  rw [hb1, hb2, hb3, hb4] at HY HN
  have hcase : (b1 = false ∧ b2 = false) ∨ ((b1 = true ∨ (b1 = false ∧ b2 = true)) ∧ (pm = false ∨ (pm = true ∧ (b3 = false ∨ (b3 = true ∧ (b4 = false ∨ b4 = true)))))) := by
    cases b1 <;> cases b2 <;> cases pm <;> cases b3 <;> cases b4 <;> simp
  rcases hcase with ⟨rfl, rfl⟩ | ⟨rfl | ⟨rfl, rfl⟩, rfl | ⟨rfl, rfl | ⟨rfl, rfl | rfl⟩⟩⟩
  all_goals
    first
      | (have HX := Lib.hid (HY.out (by simp)); clear HY HN
         go_wp2
         go_roundw
         case rel => exact ⟨k + 1, by omega, by go_num, trivial, HX⟩
         case measure => simp [intOf]; omega)
      | (have HX := Lib.hid (HN.out (by simp)); clear HY HN
         go_wp2
         go_ret
         exact ⟨by rw [HX.out]; rfl, rfl⟩)
/-- the rule's parts are in their ranges -/
def rightB (r : RuleD) : Bool := r.dy.all (fun d => decide (-53 ≤ d.2) && decide (d.2 ≤ 53)) && (decide (0 ≤ r.iv) && (r.se.all (winB 0 59 false) && (r.mi.all (winB 0 59 false) && (r.ho.all (winB 0 23 false) && (r.mo.all (winB 1 12 false) && (r.md.all (winB 1 31 true) && (r.yd.all (winB 1 366 true) && (r.wn.all (winB 1 53 true) && r.sp.all (winB 1 366 true)))))))))
def eaB (z : Int) : Bool := decide (-366 ≤ z) && decide (z ≤ 366)
def easterB (r : RuleD) : Bool := r.ea.all eaB
set_option maxRecDepth 100000 in
set_option maxHeartbeats 1600000 in
theorem easter_any (r : RuleD) (v : Value) (w : World) (hv : RuleIs w v r) (hl : r.ea.length ≤ 1000000000) : Calls Tryz.prog 38 #[v] w fun e w' => e = .returned (.bool (easterB r)) ∧ Below w.heap.size w w' := by
  obtain ⟨v8, v9, v10, v11, v12, v13, v14, v15, v16, v17, rfl, hR⟩ := hv
  obtain ⟨a, c, rfl, hr⟩ := hR.l17.form2
  rw [ruleVal_eq]
  have hal : Below w.heap.size w (w.alloc (.cells (ruleCells r v8 v9 v10 v11 v12 v13 v14 v15 v16 (.slice a r.ea.length c)).toArray 26)) := (Below.refl _ _).alloc (Nat.le_refl _) _
  have hbox : RowAt (w.alloc (.cells (ruleCells r v8 v9 v10 v11 v12 v13 v14 v15 v16 (.slice a r.ea.length c)).toArray 26)) w.heap.size 26 (ruleCells r v8 v9 v10 v11 v12 v13 v14 v15 v16 (.slice a r.ea.length c)) := ⟨heap_alloc_new w _⟩
  have hc17 := hbox.cell 17 (v := .slice a r.ea.length c) rfl
  have HR := Lib.hid hr
  have HAL := Lib.hid hal
  clear hr hR hbox hal
  unfold easterB
  generalize r.ea = xs at *
  go_enter Tryz.func38, Tryz.ntmps38
  go_upto_region 1 with fail
  change Code.wp _ _ _ _ (w.alloc (.cells (ruleCells r v8 v9 v10 v11 v12 v13 v14 v15 v16 (.slice a xs.length c)).toArray 26))
  generalize w.alloc (.cells (ruleCells r v8 v9 v10 v11 v12 v13 v14 v15 v16 (.slice a xs.length c)).toArray 26) = W1 at *
  have HR := Lib.hid (show xs = [] ∨ ∃ g gq, a = some ⟨g, gq, none⟩ ∧ IntRowQ W1 g gq xs from by
    rcases HR.out with h | ⟨g, gq, h1, h2⟩
    · exact .inl h
    · exact .inr ⟨g, gq, h1, h2.below HAL.out⟩)
  go_wp2
  go_loopw [8] (fun i wr => ∃ k : Nat, k ≤ xs.length ∧ i = .int .i64 k ∧ wr = W1 ∧ Hid ((xs.take k).all eaB = true)) (fun i _ => xs.length - (intOf i).toNat)
  case atStart => exact ⟨0, by omega, rfl, rfl, Lib.hid rfl⟩
  case round =>
  obtain ⟨k, hk, rfl, rfl, HA⟩ := hrel
  by_cases hlt : k < xs.length
  case neg =>
    obtain rfl : k = xs.length := by omega
    rw [List.take_length] at HA
    go_wp2
    go_ret
    exact ⟨by rw [HA.out]; rfl, HAL.out⟩
  obtain ⟨g, gq, rfl, hg⟩ : ∃ g gq, a = some ⟨g, gq, none⟩ ∧ IntRowQ wr g gq xs := by
    rcases HR.out with h | h
    · rw [h] at hlt; simp at hlt
    · exact h
  have hc := hg.cell k xs[k] (by simp [hlt])
  have HY : Hid (eaB xs[k] = true → (xs.take (k + 1)).all eaB = true) := Lib.hid (fun h => all_snoc _ xs k hlt HA.out h)
  have HN : Hid (eaB xs[k] = false → xs.all eaB = false) := Lib.hid (fun h => all_not _ xs k hlt h)
  clear hg HA
  generalize xs[k] = x at hc HY HN
  have HF : Hid (eaB x = (decide (-366 ≤ x) && decide (x ≤ 366))) := Lib.hid rfl
  rcases Int.lt_or_le x (-366) with h1 | h1
  · have b1 : decide (x < -366) = true := decide_eq_true h1
    have HX := Lib.hid (HN.out (by rw [HF.out, decide_eq_false (by omega)]; rfl))
    clear HY HN HF h1
    go_wp2
    go_ret
    exact ⟨by rw [HX.out]; rfl, HAL.out⟩
  have b1 : decide (x < -366) = false := decide_eq_false (by omega)
  rcases Int.lt_or_le 366 x with h2 | h2
  · have b2 : decide (366 < x) = true := decide_eq_true h2
    have HX := Lib.hid (HN.out (by rw [HF.out, decide_eq_false (show ¬ x ≤ 366 by omega)]; simp))
    clear HY HN HF h1 h2
    go_wp2
    go_ret
    exact ⟨by rw [HX.out]; rfl, HAL.out⟩
  have b2 : decide (366 < x) = false := decide_eq_false (by omega)
  have HX := Lib.hid (HY.out (by rw [HF.out, decide_eq_true h1, decide_eq_true h2]; rfl))
  clear HY HN HF h1 h2
  go_wp2
  go_roundw
  case rel => exact ⟨k + 1, by omega, by go_num, trivial, HX⟩
  case measure => simp [intOf]; omega
end Go.Proofs.YtcfbkkcamiephaaGreatDoor
namespace Go.Proofs.YtcfbkkcamiephaaGreatDoor
open Go.RowKit

/-! ### RuleRight -/
def dayB (d : Int × Int) : Bool := decide (-53 ≤ d.2) && decide (d.2 ≤ 53)
theorem allD_snoc (xs : List (Int × Int)) (k : Nat) (h : k < xs.length) (ha : (xs.take k).all dayB = true) (hx : dayB xs[k] = true) : (xs.take (k + 1)).all dayB = true := by
  rw [List.take_succ_eq_append_getElem h, List.all_append, ha]; simp [hx]
theorem allD_not (xs : List (Int × Int)) (k : Nat) (h : k < xs.length) (hx : dayB xs[k] = false) : xs.all dayB = false := by
  rw [Bool.eq_false_iff]
  intro h2
  rw [List.all_eq_true.1 h2 _ (List.getElem_mem h)] at hx
  cases hx
theorem rightB_eq (r : RuleD) : rightB r = (r.dy.all dayB && (decide (0 ≤ r.iv) && (r.se.all (winB 0 59 false) && (r.mi.all (winB 0 59 false) && (r.ho.all (winB 0 23 false) && (r.mo.all (winB 1 12 false) && (r.md.all (winB 1 31 true) && (r.yd.all (winB 1 366 true) && (r.wn.all (winB 1 53 true) && r.sp.all (winB 1 366 true)))))))))) := rfl
set_option maxRecDepth 100000 in
set_option maxHeartbeats 6400000 in
theorem right_any (r : RuleD) (v : Value) (w : World) (hv : RuleIs w v r) (hT : TextR r) : Calls Tryz.prog 40 #[v] w fun e w' => e = .returned (.bool (rightB r)) ∧ Below w.heap.size w w' := by
  obtain ⟨v8, v9, v10, v11, v12, v13, v14, v15, v16, v17, rfl, hR⟩ := hv
  obtain ⟨a, c, rfl, hdy⟩ := hR.l13.form
  rw [ruleVal_eq]
  have hal : Below w.heap.size w (w.alloc (.cells (ruleCells r v8 v9 v10 v11 v12 (.slice a r.dy.length c) v14 v15 v16 v17).toArray 26)) := (Below.refl _ _).alloc (Nat.le_refl _) _
  have hbox : RowAt (w.alloc (.cells (ruleCells r v8 v9 v10 v11 v12 (.slice a r.dy.length c) v14 v15 v16 v17).toArray 26)) w.heap.size 26 (ruleCells r v8 v9 v10 v11 v12 (.slice a r.dy.length c) v14 v15 v16 v17) := ⟨heap_alloc_new w _⟩
  have H8 := Lib.hid (hR.l8)
  have H9 := Lib.hid (hR.l9)
  have H10 := Lib.hid (hR.l10)
  have H11 := Lib.hid (hR.l11)
  have H12 := Lib.hid (hR.l12)
  have H14 := Lib.hid (hR.l14)
  have H15 := Lib.hid (hR.l15)
  have H16 := Lib.hid (hR.l16)
  have HDY := Lib.hid hdy
  have HBX := Lib.hid hbox
  have HAL := Lib.hid hal
  have HL := Lib.hid hT.l
  have hdl := hT.dl
  clear hdy hR hbox hal hT
  obtain ⟨R, hR⟩ : ∃ R, R = rightB r := ⟨_, rfl⟩
  rw [← hR]
  rw [rightB_eq] at hR
  have HR := Lib.hid hR
  clear hR
  go_enter Tryz.func40, Tryz.ntmps40
  go_upto_region 1 with fail
  change Code.wp _ _ _ _ (w.alloc (.cells (ruleCells r v8 v9 v10 v11 v12 (.slice a r.dy.length c) v14 v15 v16 v17).toArray 26))
  generalize w.alloc (.cells (ruleCells r v8 v9 v10 v11 v12 (.slice a r.dy.length c) v14 v15 v16 v17).toArray 26) = W1 at *
  have hc13 := HBX.out.cell 13 (v := .slice a r.dy.length c) rfl
  go_wp2
  go_loopw [8] (fun i wr => ∃ k : Nat, k ≤ r.dy.length ∧ i = .int .i64 k ∧ Hid (Below W1.heap.size W1 wr) ∧ Hid ((r.dy.take k).all dayB = true)) (fun i _ => r.dy.length - (intOf i).toNat)
  case atStart => exact ⟨0, by omega, rfl, Lib.hid (Below.refl _ _), Lib.hid rfl⟩
  case round =>
  obtain ⟨k, hk, rfl, HB, HA⟩ := hrel
  by_cases hlt : k < r.dy.length
  case pos =>
    obtain ⟨g, gq, rfl, hg⟩ : ∃ g gq, a = some ⟨g, gq, none⟩ ∧ DayRowQ w g gq r.dy := by
      rcases HDY.out with h | h
      · rw [h] at hlt; simp at hlt
      · exact h
    obtain ⟨hc0, hc1⟩ := ((hg.below HAL.out).below HB.out).cell k r.dy[k] (by simp [hlt])
    have HY : Hid (dayB r.dy[k] = true → (r.dy.take (k + 1)).all dayB = true) := Lib.hid (fun h => allD_snoc _ k hlt HA.out h)
    have HN : Hid (dayB r.dy[k] = false → r.dy.all dayB = false) := Lib.hid (fun h => allD_not _ k hlt h)
    clear hg HA hc13
    generalize r.dy[k] = p at hc0 hc1 HY HN
    obtain ⟨d, n⟩ := p
    simp only at hc0 hc1
    have hbz := HB.out.size
    have HAL2 : Hid (Below W1.heap.size W1 (wr.alloc (.cells #[.int .i64 d, .int .i64 n] 59))) := Lib.hid (HB.out.alloc hbz _)
    rcases Int.lt_or_le n (-53) with h1 | h1
    · have b1 : decide (n < -53) = true := decide_eq_true h1
      have HX := Lib.hid (HN.out (by show (decide (-53 ≤ n) && decide (n ≤ 53)) = false; rw [decide_eq_false (by omega)]; rfl))
      clear HY HN h1
      go_wp2
      go_ret
      exact ⟨by rw [HR.out, HX.out]; rfl, HAL.out.trans (HAL2.out.mono HAL.out.size)⟩
    have b1 : decide (n < -53) = false := decide_eq_false (by omega)
    rcases Int.lt_or_le 53 n with h2 | h2
    · have b2 : decide (53 < n) = true := decide_eq_true h2
      have HX := Lib.hid (HN.out (by show (decide (-53 ≤ n) && decide (n ≤ 53)) = false; rw [decide_eq_false (show ¬ n ≤ 53 by omega)]; simp))
      clear HY HN h1 h2
      go_wp2
      go_ret
      exact ⟨by rw [HR.out, HX.out]; rfl, HAL.out.trans (HAL2.out.mono HAL.out.size)⟩
    have b2 : decide (53 < n) = false := decide_eq_false (by omega)
    have HX := Lib.hid (HY.out (by show (decide (-53 ≤ n) && decide (n ≤ 53)) = true; rw [decide_eq_true h1, decide_eq_true h2]; rfl))
    clear HY HN h1 h2
    go_wp2
    go_roundw
    case rel => exact ⟨k + 1, by omega, by go_num, HAL2, HX⟩
    case measure => simp [intOf]; omega
  case neg =>
  obtain rfl : k = r.dy.length := by omega
  rw [List.take_length] at HA
  have hh := HR.out
  rw [HA.out, Bool.true_and] at hh
  have HR := Lib.hid hh
  clear hh
  have HBW : Hid (Below w.heap.size w wr) := Lib.hid (HAL.out.trans (HB.out.mono HAL.out.size))
  have hbx := HBX.out.below HB.out
  have q3 := hbx.cell 3 (v := .int .i64 r.iv) rfl
  have q8 := hbx.cell 8 (v := v8) rfl
  have q9 := hbx.cell 9 (v := v9) rfl
  have q10 := hbx.cell 10 (v := v10) rfl
  have q11 := hbx.cell 11 (v := v11) rfl
  have q12 := hbx.cell 12 (v := v12) rfl
  have q14 := hbx.cell 14 (v := v14) rfl
  have q15 := hbx.cell 15 (v := v15) rfl
  have q16 := hbx.cell 16 (v := v16) rfl
  have K16 := Lib.hid (within_any r.se 0 59 false v16 wr (H16.out.below HBW.out) (by have := HL.out; omega) (by decide) (by decide))
  have K15 := Lib.hid (within_any r.mi 0 59 false v15 wr (H15.out.below HBW.out) (by have := HL.out; omega) (by decide) (by decide))
  have K14 := Lib.hid (within_any r.ho 0 23 false v14 wr (H14.out.below HBW.out) (by have := HL.out; omega) (by decide) (by decide))
  have K9 := Lib.hid (within_any r.mo 1 12 false v9 wr (H9.out.below HBW.out) (by have := HL.out; omega) (by decide) (by decide))
  have K10 := Lib.hid (within_any r.md 1 31 true v10 wr (H10.out.below HBW.out) (by have := HL.out; omega) (by decide) (by decide))
  have K11 := Lib.hid (within_any r.yd 1 366 true v11 wr (H11.out.below HBW.out) (by have := HL.out; omega) (by decide) (by decide))
  have K12 := Lib.hid (within_any r.wn 1 53 true v12 wr (H12.out.below HBW.out) (by have := HL.out; omega) (by decide) (by decide))
  have K8 := Lib.hid (within_any r.sp 1 366 true v8 wr (H8.out.below HBW.out) (by have := HL.out; omega) (by decide) (by decide))
  clear hbx HB HA hk hlt HBX H8 H9 H10 H11 H12 H14 H15 H16 HL HAL HDY hc13 hdl
  generalize r.iv = iv at *
  generalize r.se.all (winB 0 59 false) = b1 at *
  generalize r.mi.all (winB 0 59 false) = b2 at *
  generalize r.ho.all (winB 0 23 false) = b3 at *
  generalize r.mo.all (winB 1 12 false) = b4 at *
  generalize r.md.all (winB 1 31 true) = b5 at *
  generalize r.yd.all (winB 1 366 true) = b6 at *
  generalize r.wn.all (winB 1 53 true) = b7 at *
  generalize r.sp.all (winB 1 366 true) = b8 at *
  obtain ⟨b0, hb0⟩ : ∃ q, decide (0 ≤ iv) = q := ⟨_, rfl⟩
  rw [hb0] at HR
  have hcase : b0 = false ∨ (b0 = true ∧ (b1 = false ∨ (b1 = true ∧ (b2 = false ∨ (b2 = true ∧ (b3 = false ∨ (b3 = true ∧ (b4 = false ∨ (b4 = true ∧ (b5 = false ∨ (b5 = true ∧ (b6 = false ∨ (b6 = true ∧ (b7 = false ∨ (b7 = true ∧ (b8 = false ∨ b8 = true)))))))))))))))) := by
    cases b0 <;> cases b1 <;> cases b2 <;> cases b3 <;> cases b4 <;> cases b5 <;> cases b6 <;> cases b7 <;> cases b8 <;> simp
  rcases hcase with rfl | ⟨rfl, rfl | ⟨rfl, rfl | ⟨rfl, rfl | ⟨rfl, rfl | ⟨rfl, rfl | ⟨rfl, rfl | ⟨rfl, rfl | ⟨rfl, rfl | rfl⟩⟩⟩⟩⟩⟩⟩⟩
  all_goals
    go_wp2_with (first
      | (go_at_call_of 74 v16; go_must (refine K16.out.mono ?_; rintro e w1 ⟨rfl, rfl⟩))
      | (go_at_call_of 74 v15; go_must (refine K15.out.mono ?_; rintro e w1 ⟨rfl, rfl⟩))
      | (go_at_call_of 74 v14; go_must (refine K14.out.mono ?_; rintro e w1 ⟨rfl, rfl⟩))
      | (go_at_call_of 74 v9; go_must (refine K9.out.mono ?_; rintro e w1 ⟨rfl, rfl⟩))
      | (go_at_call_of 74 v10; go_must (refine K10.out.mono ?_; rintro e w1 ⟨rfl, rfl⟩))
      | (go_at_call_of 74 v11; go_must (refine K11.out.mono ?_; rintro e w1 ⟨rfl, rfl⟩))
      | (go_at_call_of 74 v12; go_must (refine K12.out.mono ?_; rintro e w1 ⟨rfl, rfl⟩))
      | (go_at_call_of 74 v8; go_must (refine K8.out.mono ?_; rintro e w1 ⟨rfl, rfl⟩))
      | (fail))
    go_ret
    exact ⟨by rw [HR.out]; rfl, HBW.out⟩
end Go.Proofs.YtcfbkkcamiephaaGreatDoor
namespace Go.Proofs.YtcfbkkcamiephaaGreatDoor
open Go.RowKit

/-! ### validateBounds -/
def ErrIf (b : Bool) (w : World) (e : Ending) (w' : World) : Prop := Below w.heap.size w w' ∧ ∃ ev, e = .returned ev ∧ match b with
  | true => ev = .nilIface
  | false => ∃ T p, ev = .iface T (.pointer (some p))
set_option maxRecDepth 100000 in
set_option maxHeartbeats 1600000 in
theorem chk_any (s : ByteArray) (x lo hi : Int) (pm : Bool) (gb : Nat) (w : World) (hc0 : w.cell? ⟨gb, 0, none⟩ = some (.int .i64 lo)) (hc1 : w.cell? ⟨gb, 1, none⟩ = some (.int .i64 hi)) (h1 : IntKind.i64.wrap (-lo) = -lo) (h2 : IntKind.i64.wrap (-hi) = -hi) :
    Calls Tryz.prog 123 #[.string s, .int .i64 x, .slice (some ⟨gb, 0, none⟩) 2 2, .bool pm] w (ErrIf (winB lo hi pm x) w) := by
  have e : winB lo hi pm x = !((decide (x < lo) || decide (hi < x)) && !(pm && (decide (x ≤ -lo) && decide (-hi ≤ x)))) := rfl
  rw [e]
  clear e
  obtain ⟨b1, hb1⟩ : ∃ q, decide (lo ≤ x) = q := ⟨_, rfl⟩
  obtain ⟨b2, hb2⟩ : ∃ q, decide (x ≤ hi) = q := ⟨_, rfl⟩
  obtain ⟨b3, hb3⟩ : ∃ q, decide (x ≤ -lo) = q := ⟨_, rfl⟩
  obtain ⟨b4, hb4⟩ : ∃ q, decide (-hi ≤ x) = q := ⟨_, rfl⟩
  have e1 : decide (x < lo) = !b1 := by rw [← hb1]; by_cases h : lo ≤ x <;> simp [h] <;> omega
  have e2 : decide (hi < x) = !b2 := by rw [← hb2]; by_cases h : x ≤ hi <;> simp [h] <;> omega
  rw [hb3, hb4, e1, e2]
  clear e1 e2
  have hcase : (b1 = true ∧ b2 = true) ∨ ((b1 = false ∨ (b1 = true ∧ b2 = false)) ∧ (pm = false ∨ (pm = true ∧ (b3 = false ∨ (b3 = true ∧ (b4 = false ∨ b4 = true)))))) := by
    cases b1 <;> cases b2 <;> cases pm <;> cases b3 <;> cases b4 <;> simp
  rcases hcase with ⟨rfl, rfl⟩ | ⟨rfl | ⟨rfl, rfl⟩, rfl | ⟨rfl, rfl | ⟨rfl, rfl | rfl⟩⟩⟩
  all_goals
    go_enter Tryz.func123, Tryz.ntmps123
    go_wp2_with (first
      | (go_at_call 108; go_must (refine (errNew_any _ _).mono ?_; rintro e w5 ⟨T2, p2, rfl, hb5⟩))
      | (fail))
    go_ret
    first
      | exact ⟨Below.refl _ _, _, rfl, rfl⟩
      | exact ⟨hb5, _, rfl, _, _, rfl⟩
end Go.Proofs.YtcfbkkcamiephaaGreatDoor
namespace Go.Proofs.YtcfbkkcamiephaaGreatDoor
open Go.RowKit

def bndXs (o : Opt) (k : Nat) : List Int := match k with
  | 0 => o.se
  | 1 => o.mi
  | 2 => o.ho
  | 3 => o.md
  | 4 => o.yd
  | 5 => o.wn
  | 6 => o.mo
  | _ => o.sp
def bndLo (k : Nat) : Int := if k < 3 then 0 else 1
def bndHi (k : Nat) : Int := match k with
  | 0 => 59
  | 1 => 59
  | 2 => 23
  | 3 => 31
  | 4 => 366
  | 5 => 53
  | 6 => 12
  | _ => 366
def bndPm (k : Nat) : Bool := match k with
  | 3 => true
  | 4 => true
  | 5 => true
  | 7 => true
  | _ => false
def bndNm (k : Nat) : ByteArray := match k with
  | 0 => ⟨#[98, 121, 115, 101, 99, 111, 110, 100]⟩
  | 1 => ⟨#[98, 121, 109, 105, 110, 117, 116, 101]⟩
  | 2 => ⟨#[98, 121, 104, 111, 117, 114]⟩
  | 3 => ⟨#[98, 121, 109, 111, 110, 116, 104, 100, 97, 121]⟩
  | 4 => ⟨#[98, 121, 121, 101, 97, 114, 100, 97, 121]⟩
  | 5 => ⟨#[98, 121, 119, 101, 101, 107, 110, 111]⟩
  | 6 => ⟨#[98, 121, 109, 111, 110, 116, 104]⟩
  | _ => ⟨#[98, 121, 115, 101, 116, 112, 111, 115]⟩
def bndB (o : Opt) (k : Nat) : Bool := (bndXs o k).all (winB (bndLo k) (bndHi k) (bndPm k))
/-- the option's parts are in their ranges -/
def boundsB (o : Opt) : Bool := (List.range 8).all (bndB o) && (o.dy.all dayB && decide (0 ≤ o.iv))
theorem bounds_right (r : RuleD) : boundsB (optOf r) = rightB r := by
  unfold boundsB rightB
  have e : (List.range 8).all (bndB (optOf r)) = (r.se.all (winB 0 59 false) && (r.mi.all (winB 0 59 false) && (r.ho.all (winB 0 23 false) && (r.md.all (winB 1 31 true) && (r.yd.all (winB 1 366 true) && (r.wn.all (winB 1 53 true) && (r.mo.all (winB 1 12 false) && r.sp.all (winB 1 366 true)))))))) := by
    show (List.all [0, 1, 2, 3, 4, 5, 6, 7] (bndB (optOf r))) = _
    simp only [List.all_cons, List.all_nil, Bool.and_true]
    rfl
  rw [e]
  have e2 : (optOf r).dy.all dayB = r.dy.all (fun d => decide (-53 ≤ d.2) && decide (d.2 ≤ 53)) := rfl
  rw [e2]
  show (_ && (_ && decide (0 ≤ r.iv))) = _
  generalize r.se.all (winB 0 59 false) = b1
  generalize r.mi.all (winB 0 59 false) = b2
  generalize r.ho.all (winB 0 23 false) = b3
  generalize r.mo.all (winB 1 12 false) = b4
  generalize r.md.all (winB 1 31 true) = b5
  generalize r.yd.all (winB 1 366 true) = b6
  generalize r.wn.all (winB 1 53 true) = b7
  generalize r.sp.all (winB 1 366 true) = b8
  generalize decide (0 ≤ r.iv) = b9
  generalize r.dy.all _ = b10
  revert b1 b2 b3 b4 b5 b6 b7 b8 b9 b10
  decide
end Go.Proofs.YtcfbkkcamiephaaGreatDoor
namespace Go.Proofs.YtcfbkkcamiephaaGreatDoor
open Go.RowKit

/-- the table of bounds, as it lies in memory -/
structure BndW (W : World) (Bb B0 : Nat) (fv : Nat → Value) : Prop where
  lt : Bb < W.heap.size ∧ B0 + 8 ≤ W.heap.size
  ent : ∀ k, k < 8 → W.cell? ⟨Bb, k * 4, none⟩ = some (fv k) ∧ W.cell? ⟨Bb, k * 4 + 1, none⟩ = some (.string (bndNm k)) ∧ W.cell? ⟨Bb, k * 4 + 2, none⟩ = some (.slice (some ⟨B0 + k, 0, none⟩) 2 2) ∧ W.cell? ⟨Bb, k * 4 + 3, none⟩ = some (.bool (bndPm k))
  bnd : ∀ k, k < 8 → W.cell? ⟨B0 + k, 0, none⟩ = some (.int .i64 (bndLo k)) ∧ W.cell? ⟨B0 + k, 1, none⟩ = some (.int .i64 (bndHi k))
theorem BndW.below {W w1 : World} {Bb B0 : Nat} {fv : Nat → Value} (h : BndW W Bb B0 fv) (hb : Below W.heap.size W w1) : BndW w1 Bb B0 fv :=
  ⟨⟨Nat.lt_of_lt_of_le h.lt.1 hb.size, Nat.le_trans h.lt.2 hb.size⟩, fun k hk => by
    obtain ⟨a, b, c, d⟩ := h.ent k hk
    exact ⟨cell_below hb a, cell_below hb b, cell_below hb c, cell_below hb d⟩, fun k hk => ⟨cell_below hb (h.bnd k hk).1, cell_below hb (h.bnd k hk).2⟩⟩
def fvOf (v6 v7 v8 v9 v10 v12 v13 v14 : Value) (k : Nat) : Value := match k with
  | 0 => v14
  | 1 => v13
  | 2 => v12
  | 3 => v8
  | 4 => v9
  | 5 => v10
  | 6 => v7
  | _ => v6
theorem bnd_wrap (k : Nat) : IntKind.i64.wrap (-(bndLo k)) = -(bndLo k) ∧ IntKind.i64.wrap (-(bndHi k)) = -(bndHi k) := by
  constructor
  · unfold bndLo; split <;> decide
  · unfold bndHi; split <;> decide
def smallC (lo hi : Int) : Obj := .cells #[.int .i64 lo, .int .i64 hi] 3
def bigC (N : Nat) (v6 v7 v8 v9 v10 v12 v13 v14 : Value) : Array Value := #[v14, .string (bndNm 0), .slice (some ⟨N + 1, 0, none⟩) 2 2, .bool false, v13, .string (bndNm 1), .slice (some ⟨N + 2, 0, none⟩) 2 2, .bool false, v12, .string (bndNm 2), .slice (some ⟨N + 3, 0, none⟩) 2 2, .bool false, v8, .string (bndNm 3), .slice (some ⟨N + 4, 0, none⟩) 2 2, .bool true, v9, .string (bndNm 4), .slice (some ⟨N + 5, 0, none⟩) 2 2, .bool true, v10, .string (bndNm 5), .slice (some ⟨N + 6, 0, none⟩) 2 2, .bool true, v7, .string (bndNm 6), .slice (some ⟨N + 7, 0, none⟩) 2 2, .bool false, v6, .string (bndNm 7), .slice (some ⟨N + 8, 0, none⟩) 2 2, .bool true]
def bndWorld (w : World) (box : Obj) (v6 v7 v8 v9 v10 v12 v13 v14 : Value) : World :=
  (((((((((w.alloc box).alloc (smallC 0 59)).alloc (smallC 0 59)).alloc (smallC 0 23)).alloc (smallC 1 31)).alloc (smallC 1 366)).alloc (smallC 1 53)).alloc (smallC 1 12)).alloc (smallC 1 366)).alloc (.cells (bigC w.heap.size v6 v7 v8 v9 v10 v12 v13 v14) 175)
theorem bndWorld_below (w : World) (box : Obj) (v6 v7 v8 v9 v10 v12 v13 v14 : Value) : Below w.heap.size w (bndWorld w box v6 v7 v8 v9 v10 v12 v13 v14) := by
  unfold bndWorld
  repeat (first | exact Below.refl _ _ | refine Below.alloc ?_ (by simp <;> omega) _)
theorem small_row (X W : World) (lo hi : Int) (N : Nat) (hN : X.heap.size = N) (hb : Below (X.alloc (smallC lo hi)).heap.size (X.alloc (smallC lo hi)) W) : W.cell? ⟨N, 0, none⟩ = some (.int .i64 lo) ∧ W.cell? ⟨N, 1, none⟩ = some (.int .i64 hi) := by
  subst hN
  have h : RowAt (X.alloc (smallC lo hi)) X.heap.size 3 [.int .i64 lo, .int .i64 hi] := ⟨heap_alloc_new X _⟩
  exact ⟨(h.below hb).cell 0 rfl, (h.below hb).cell 1 rfl⟩
theorem bndWorld_ok (w : World) (box : Obj) (v6 v7 v8 v9 v10 v12 v13 v14 : Value) : BndW (bndWorld w box v6 v7 v8 v9 v10 v12 v13 v14) (w.heap.size + 9) (w.heap.size + 1) (fvOf v6 v7 v8 v9 v10 v12 v13 v14) := by
  have hbig : RowAt (bndWorld w box v6 v7 v8 v9 v10 v12 v13 v14) (w.heap.size + 9) 175 (bigC w.heap.size v6 v7 v8 v9 v10 v12 v13 v14).toList := ⟨by
    unfold bndWorld
    have := heap_alloc_new ((((((((((w.alloc box).alloc (smallC 0 59)).alloc (smallC 0 59)).alloc (smallC 0 23)).alloc (smallC 1 31)).alloc (smallC 1 366)).alloc (smallC 1 53)).alloc (smallC 1 12)).alloc (smallC 1 366))) (.cells (bigC w.heap.size v6 v7 v8 v9 v10 v12 v13 v14) 175)
    simpa using this⟩
  refine ⟨⟨hbig.lt, by have := hbig.lt; omega⟩, fun k hk => ?_, fun k hk => ?_⟩
  · match k, hk with
    | 0, _ => exact ⟨hbig.cell 0 rfl, hbig.cell 1 rfl, hbig.cell 2 rfl, hbig.cell 3 rfl⟩
    | 1, _ => exact ⟨hbig.cell 4 rfl, hbig.cell 5 rfl, hbig.cell 6 rfl, hbig.cell 7 rfl⟩
    | 2, _ => exact ⟨hbig.cell 8 rfl, hbig.cell 9 rfl, hbig.cell 10 rfl, hbig.cell 11 rfl⟩
    | 3, _ => exact ⟨hbig.cell 12 rfl, hbig.cell 13 rfl, hbig.cell 14 rfl, hbig.cell 15 rfl⟩
    | 4, _ => exact ⟨hbig.cell 16 rfl, hbig.cell 17 rfl, hbig.cell 18 rfl, hbig.cell 19 rfl⟩
    | 5, _ => exact ⟨hbig.cell 20 rfl, hbig.cell 21 rfl, hbig.cell 22 rfl, hbig.cell 23 rfl⟩
    | 6, _ => exact ⟨hbig.cell 24 rfl, hbig.cell 25 rfl, hbig.cell 26 rfl, hbig.cell 27 rfl⟩
    | 7, _ => exact ⟨hbig.cell 28 rfl, hbig.cell 29 rfl, hbig.cell 30 rfl, hbig.cell 31 rfl⟩
    | k + 8, h => omega
  · match k, hk with
    | 0, _ => exact small_row (w.alloc box) _ 0 59 (w.heap.size + 1 + 0) (by simp <;> omega) (by
        unfold bndWorld
        repeat (first | exact Below.refl _ _ | refine Below.alloc ?_ (by simp <;> omega) _))
    | 1, _ => exact small_row ((w.alloc box).alloc (smallC 0 59)) _ 0 59 (w.heap.size + 1 + 1) (by simp <;> omega) (by
        unfold bndWorld
        repeat (first | exact Below.refl _ _ | refine Below.alloc ?_ (by simp <;> omega) _))
    | 2, _ => exact small_row (((w.alloc box).alloc (smallC 0 59)).alloc (smallC 0 59)) _ 0 23 (w.heap.size + 1 + 2) (by simp <;> omega) (by
        unfold bndWorld
        repeat (first | exact Below.refl _ _ | refine Below.alloc ?_ (by simp <;> omega) _))
    | 3, _ => exact small_row ((((w.alloc box).alloc (smallC 0 59)).alloc (smallC 0 59)).alloc (smallC 0 23)) _ 1 31 (w.heap.size + 1 + 3) (by simp <;> omega) (by
        unfold bndWorld
        repeat (first | exact Below.refl _ _ | refine Below.alloc ?_ (by simp <;> omega) _))
    | 4, _ => exact small_row (((((w.alloc box).alloc (smallC 0 59)).alloc (smallC 0 59)).alloc (smallC 0 23)).alloc (smallC 1 31)) _ 1 366 (w.heap.size + 1 + 4) (by simp <;> omega) (by
        unfold bndWorld
        repeat (first | exact Below.refl _ _ | refine Below.alloc ?_ (by simp <;> omega) _))
    | 5, _ => exact small_row ((((((w.alloc box).alloc (smallC 0 59)).alloc (smallC 0 59)).alloc (smallC 0 23)).alloc (smallC 1 31)).alloc (smallC 1 366)) _ 1 53 (w.heap.size + 1 + 5) (by simp <;> omega) (by
        unfold bndWorld
        repeat (first | exact Below.refl _ _ | refine Below.alloc ?_ (by simp <;> omega) _))
    | 6, _ => exact small_row (((((((w.alloc box).alloc (smallC 0 59)).alloc (smallC 0 59)).alloc (smallC 0 23)).alloc (smallC 1 31)).alloc (smallC 1 366)).alloc (smallC 1 53)) _ 1 12 (w.heap.size + 1 + 6) (by simp <;> omega) (by
        unfold bndWorld
        repeat (first | exact Below.refl _ _ | refine Below.alloc ?_ (by simp <;> omega) _))
    | 7, _ => exact small_row ((((((((w.alloc box).alloc (smallC 0 59)).alloc (smallC 0 59)).alloc (smallC 0 23)).alloc (smallC 1 31)).alloc (smallC 1 366)).alloc (smallC 1 53)).alloc (smallC 1 12)) _ 1 366 (w.heap.size + 1 + 7) (by simp <;> omega) (by
        unfold bndWorld
        repeat (first | exact Below.refl _ _ | refine Below.alloc ?_ (by simp <;> omega) _))
    | k + 8, h => omega
end Go.Proofs.YtcfbkkcamiephaaGreatDoor
namespace Go.Proofs.YtcfbkkcamiephaaGreatDoor
open Go.RowKit

set_option maxRecDepth 100000 in
set_option maxHeartbeats 6400000 in
/-- validateBounds: no error just if the parts are in their ranges. -/
theorem bounds_any (o : Opt) (v : Value) (w : World) (hv : OptVal w v o) (hl : ∀ k, k < 8 → (bndXs o k).length ≤ 1000000000) (hdl : o.dy.length ≤ 1000000000) :
    Calls Tryz.prog 99 #[v] w (ErrIf (boundsB o) w) := by
  obtain ⟨v6, v7, v8, v9, v10, v11, v12, v13, v14, v15, rfl, hR⟩ := hv
  obtain ⟨a6, n6, c6, rfl⟩ := hR.l6.form
  obtain ⟨a7, n7, c7, rfl⟩ := hR.l7.form
  obtain ⟨a8, n8, c8, rfl⟩ := hR.l8.form
  obtain ⟨a9, n9, c9, rfl⟩ := hR.l9.form
  obtain ⟨a10, n10, c10, rfl⟩ := hR.l10.form
  obtain ⟨a12, n12, c12, rfl⟩ := hR.l12.form
  obtain ⟨a13, n13, c13, rfl⟩ := hR.l13.form
  obtain ⟨a14, n14, c14, rfl⟩ := hR.l14.form
  obtain ⟨a15, n15, c15, rfl⟩ := hR.l15.form
  obtain ⟨a11, c11, rfl, hdy⟩ := hR.l11.form
  have HX : Hid (∀ k, k < 8 → IntsV w (fvOf (.slice a6 n6 c6) (.slice a7 n7 c7) (.slice a8 n8 c8) (.slice a9 n9 c9) (.slice a10 n10 c10) (.slice a12 n12 c12) (.slice a13 n13 c13) (.slice a14 n14 c14) k) (bndXs o k)) := Lib.hid (fun k hk => by
    match k, hk with
    | 0, _ => exact hR.l14
    | 1, _ => exact hR.l13
    | 2, _ => exact hR.l12
    | 3, _ => exact hR.l8
    | 4, _ => exact hR.l9
    | 5, _ => exact hR.l10
    | 6, _ => exact hR.l7
    | 7, _ => exact hR.l6
    | k + 8, h => omega)
  have HDY := Lib.hid hdy
  have HLX := Lib.hid hl
  have hbw := bndWorld_below w (.cells #[.int .i64 o.fq, .int .i64 o.st.1, .int .i64 o.st.2, .int .i64 o.iv, .int .i64 o.wk.1, .int .i64 o.wk.2, .int .i64 o.ct, .int .i64 o.un.1, .int .i64 o.un.2, (.slice a6 n6 c6), (.slice a7 n7 c7), (.slice a8 n8 c8), (.slice a9 n9 c9), (.slice a10 n10 c10), .slice a11 o.dy.length c11, (.slice a12 n12 c12), (.slice a13 n13 c13), (.slice a14 n14 c14), (.slice a15 n15 c15)] 106) (.slice a6 n6 c6) (.slice a7 n7 c7) (.slice a8 n8 c8) (.slice a9 n9 c9) (.slice a10 n10 c10) (.slice a12 n12 c12) (.slice a13 n13 c13) (.slice a14 n14 c14)
  have hbo : BndW (bndWorld w (.cells #[.int .i64 o.fq, .int .i64 o.st.1, .int .i64 o.st.2, .int .i64 o.iv, .int .i64 o.wk.1, .int .i64 o.wk.2, .int .i64 o.ct, .int .i64 o.un.1, .int .i64 o.un.2, (.slice a6 n6 c6), (.slice a7 n7 c7), (.slice a8 n8 c8), (.slice a9 n9 c9), (.slice a10 n10 c10), .slice a11 o.dy.length c11, (.slice a12 n12 c12), (.slice a13 n13 c13), (.slice a14 n14 c14), (.slice a15 n15 c15)] 106) (.slice a6 n6 c6) (.slice a7 n7 c7) (.slice a8 n8 c8) (.slice a9 n9 c9) (.slice a10 n10 c10) (.slice a12 n12 c12) (.slice a13 n13 c13) (.slice a14 n14 c14)) (w.heap.size + 1 + 1 + 1 + 1 + 1 + 1 + 1 + 1 + 1) (w.heap.size + 1) (fvOf (.slice a6 n6 c6) (.slice a7 n7 c7) (.slice a8 n8 c8) (.slice a9 n9 c9) (.slice a10 n10 c10) (.slice a12 n12 c12) (.slice a13 n13 c13) (.slice a14 n14 c14)) := bndWorld_ok w (.cells #[.int .i64 o.fq, .int .i64 o.st.1, .int .i64 o.st.2, .int .i64 o.iv, .int .i64 o.wk.1, .int .i64 o.wk.2, .int .i64 o.ct, .int .i64 o.un.1, .int .i64 o.un.2, (.slice a6 n6 c6), (.slice a7 n7 c7), (.slice a8 n8 c8), (.slice a9 n9 c9), (.slice a10 n10 c10), .slice a11 o.dy.length c11, (.slice a12 n12 c12), (.slice a13 n13 c13), (.slice a14 n14 c14), (.slice a15 n15 c15)] 106) (.slice a6 n6 c6) (.slice a7 n7 c7) (.slice a8 n8 c8) (.slice a9 n9 c9) (.slice a10 n10 c10) (.slice a12 n12 c12) (.slice a13 n13 c13) (.slice a14 n14 c14)
  have hbx : RowAt (bndWorld w (.cells #[.int .i64 o.fq, .int .i64 o.st.1, .int .i64 o.st.2, .int .i64 o.iv, .int .i64 o.wk.1, .int .i64 o.wk.2, .int .i64 o.ct, .int .i64 o.un.1, .int .i64 o.un.2, (.slice a6 n6 c6), (.slice a7 n7 c7), (.slice a8 n8 c8), (.slice a9 n9 c9), (.slice a10 n10 c10), .slice a11 o.dy.length c11, (.slice a12 n12 c12), (.slice a13 n13 c13), (.slice a14 n14 c14), (.slice a15 n15 c15)] 106) (.slice a6 n6 c6) (.slice a7 n7 c7) (.slice a8 n8 c8) (.slice a9 n9 c9) (.slice a10 n10 c10) (.slice a12 n12 c12) (.slice a13 n13 c13) (.slice a14 n14 c14)) w.heap.size 106 [.int .i64 o.fq, .int .i64 o.st.1, .int .i64 o.st.2, .int .i64 o.iv, .int .i64 o.wk.1, .int .i64 o.wk.2, .int .i64 o.ct, .int .i64 o.un.1, .int .i64 o.un.2, (.slice a6 n6 c6), (.slice a7 n7 c7), (.slice a8 n8 c8), (.slice a9 n9 c9), (.slice a10 n10 c10), .slice a11 o.dy.length c11, (.slice a12 n12 c12), (.slice a13 n13 c13), (.slice a14 n14 c14), (.slice a15 n15 c15)] := by
    have h0 : RowAt (w.alloc (.cells #[.int .i64 o.fq, .int .i64 o.st.1, .int .i64 o.st.2, .int .i64 o.iv, .int .i64 o.wk.1, .int .i64 o.wk.2, .int .i64 o.ct, .int .i64 o.un.1, .int .i64 o.un.2, (.slice a6 n6 c6), (.slice a7 n7 c7), (.slice a8 n8 c8), (.slice a9 n9 c9), (.slice a10 n10 c10), .slice a11 o.dy.length c11, (.slice a12 n12 c12), (.slice a13 n13 c13), (.slice a14 n14 c14), (.slice a15 n15 c15)] 106)) w.heap.size 106 [.int .i64 o.fq, .int .i64 o.st.1, .int .i64 o.st.2, .int .i64 o.iv, .int .i64 o.wk.1, .int .i64 o.wk.2, .int .i64 o.ct, .int .i64 o.un.1, .int .i64 o.un.2, (.slice a6 n6 c6), (.slice a7 n7 c7), (.slice a8 n8 c8), (.slice a9 n9 c9), (.slice a10 n10 c10), .slice a11 o.dy.length c11, (.slice a12 n12 c12), (.slice a13 n13 c13), (.slice a14 n14 c14), (.slice a15 n15 c15)] := ⟨heap_alloc_new w _⟩
    refine h0.below ?_
    unfold bndWorld
    repeat (first | exact Below.refl _ _ | refine Below.alloc ?_ (by simp <;> omega) _)
  have HBW := Lib.hid hbw
  have HBO := Lib.hid hbo
  have HBX := Lib.hid hbx
  clear hR hdy hl hbw hbo hbx
  unfold optVal
  go_enter Tryz.func99, Tryz.ntmps99
  go_upto_region 2 with fail
  change Code.wp _ _ _ _ (bndWorld w (.cells #[.int .i64 o.fq, .int .i64 o.st.1, .int .i64 o.st.2, .int .i64 o.iv, .int .i64 o.wk.1, .int .i64 o.wk.2, .int .i64 o.ct, .int .i64 o.un.1, .int .i64 o.un.2, (.slice a6 n6 c6), (.slice a7 n7 c7), (.slice a8 n8 c8), (.slice a9 n9 c9), (.slice a10 n10 c10), .slice a11 o.dy.length c11, (.slice a12 n12 c12), (.slice a13 n13 c13), (.slice a14 n14 c14), (.slice a15 n15 c15)] 106) (.slice a6 n6 c6) (.slice a7 n7 c7) (.slice a8 n8 c8) (.slice a9 n9 c9) (.slice a10 n10 c10) (.slice a12 n12 c12) (.slice a13 n13 c13) (.slice a14 n14 c14))
  generalize w.heap.size + 1 + 1 + 1 + 1 + 1 + 1 + 1 + 1 + 1 = Bb at *
  generalize bndWorld w (.cells #[.int .i64 o.fq, .int .i64 o.st.1, .int .i64 o.st.2, .int .i64 o.iv, .int .i64 o.wk.1, .int .i64 o.wk.2, .int .i64 o.ct, .int .i64 o.un.1, .int .i64 o.un.2, (.slice a6 n6 c6), (.slice a7 n7 c7), (.slice a8 n8 c8), (.slice a9 n9 c9), (.slice a10 n10 c10), .slice a11 o.dy.length c11, (.slice a12 n12 c12), (.slice a13 n13 c13), (.slice a14 n14 c14), (.slice a15 n15 c15)] 106) (.slice a6 n6 c6) (.slice a7 n7 c7) (.slice a8 n8 c8) (.slice a9 n9 c9) (.slice a10 n10 c10) (.slice a12 n12 c12) (.slice a13 n13 c13) (.slice a14 n14 c14) = W1 at *
  generalize fvOf (.slice a6 n6 c6) (.slice a7 n7 c7) (.slice a8 n8 c8) (.slice a9 n9 c9) (.slice a10 n10 c10) (.slice a12 n12 c12) (.slice a13 n13 c13) (.slice a14 n14 c14) = fv at *
  go_wp2
  go_loopw [47] (fun i wr => ∃ k : Nat, k ≤ 8 ∧ i = .int .i64 k ∧ Hid (Below W1.heap.size W1 wr) ∧ Hid ((List.range k).all (bndB o) = true)) (fun i _ => 8 - (intOf i).toNat)
  case atStart => exact ⟨0, by omega, rfl, Lib.hid (Below.refl _ _), Lib.hid rfl⟩
  case round =>
  obtain ⟨k, hk, rfl, HB, HA⟩ := hrel
  have HBr : Hid (Below w.heap.size w wr) := Lib.hid (HBW.out.trans (HB.out.mono HBW.out.size))
  by_cases hlt : k < 8
  case pos =>
    obtain ⟨e0, e1, e2, e3⟩ := (HBO.out.below HB.out).ent k hlt
    obtain ⟨lb0, lb1⟩ := (HBO.out.below HB.out).bnd k hlt
    obtain ⟨a, c, hfv, hrow⟩ := ((HX.out k hlt).below HBr.out).form2
    rw [hfv] at e0
    have hxl := HLX.out k hlt
    have HY : Hid ((bndXs o k).all (winB (bndLo k) (bndHi k) (bndPm k)) = true → (List.range (k + 1)).all (bndB o) = true) := Lib.hid (fun h => by
      rw [List.range_succ, List.all_append, HA.out]
      simp only [List.all_cons, List.all_nil, Bool.and_true, Bool.true_and]
      exact h)
    have HN : Hid ((bndXs o k).all (winB (bndLo k) (bndHi k) (bndPm k)) = false → boundsB o = false) := Lib.hid (fun h => by
      have h8 : (List.range 8).all (bndB o) = false := by
        rw [Bool.eq_false_iff]
        intro h2
        have := List.all_eq_true.1 h2 k (List.mem_range.2 hlt)
        rw [show bndB o k = _ from h] at this
        cases this
      unfold boundsB
      rw [h8]; rfl)
    have HROW := Lib.hid hrow
    obtain ⟨w1', w2'⟩ := bnd_wrap k
    have HW1 := Lib.hid w1'
    have HW2 := Lib.hid w2'
    have k0 : (0 : Int) ≤ (k : Int) := Int.natCast_nonneg _
    have k1 : (k : Int) < 8 := by omega
    have k2 : ((k : Int)).toNat = k := by omega
    clear hrow hfv w1' w2' HA
    generalize bndXs o k = xs at *
    generalize bndNm k = nm at *
    generalize bndLo k = lo at *
    generalize bndHi k = hi at *
    generalize bndPm k = pm at *
    generalize hbk : w.heap.size + 1 + k = bk at *
    have HBK := Lib.hid hbk
    clear hbk
    go_upto_region 6 with fail
    change Code.wp _ _ _ _ (wr.alloc (.cells #[.slice a xs.length c, .string nm, .slice (some ⟨bk, 0, none⟩) 2 2, .bool pm] 175))
    have hal : Below wr.heap.size wr (wr.alloc (.cells #[.slice a xs.length c, .string nm, .slice (some ⟨bk, 0, none⟩) 2 2, .bool pm] 175)) := (Below.refl _ _).alloc (Nat.le_refl _) _
    have hrb : RowAt (wr.alloc (.cells #[.slice a xs.length c, .string nm, .slice (some ⟨bk, 0, none⟩) 2 2, .bool pm] 175)) wr.heap.size 175 [.slice a xs.length c, .string nm, .slice (some ⟨bk, 0, none⟩) 2 2, .bool pm] := ⟨by rw [heap_alloc_new]⟩
    have HRB := Lib.hid hrb
    have f0 := hrb.cell 0 (v := .slice a xs.length c) rfl
    have HROW6 := Lib.hid (show xs = [] ∨ ∃ g gq, a = some ⟨g, gq, none⟩ ∧ IntRowQ (wr.alloc (.cells #[.slice a xs.length c, .string nm, .slice (some ⟨bk, 0, none⟩) 2 2, .bool pm] 175)) g gq xs from by
      rcases HROW.out with h | ⟨g, gq, h1, h2⟩
      · exact .inl h
      · exact .inr ⟨g, gq, h1, h2.below hal⟩)
    have HL0 := Lib.hid (cell_below hal lb0)
    have HL1 := Lib.hid (cell_below hal lb1)
    have HBA : Hid (Below W1.heap.size W1 (wr.alloc (.cells #[.slice a xs.length c, .string nm, .slice (some ⟨bk, 0, none⟩) 2 2, .bool pm] 175))) := Lib.hid (HB.out.trans (hal.mono HB.out.size))
    clear hal hrb e0 e1 e2 e3 lb0 lb1 HB HBr
    generalize wr.alloc (.cells #[.slice a xs.length c, .string nm, .slice (some ⟨bk, 0, none⟩) 2 2, .bool pm] 175) = W6 at *
    generalize wr.heap.size = nb at *
    obtain ⟨wo, rfl⟩ : ∃ wo : World, wo = wr := ⟨_, rfl⟩
    go_wp2
    go_loopw [54] (fun i wr => ∃ j : Nat, j ≤ xs.length ∧ i = .int .i64 j ∧ Hid (Below W6.heap.size W6 wr) ∧ Hid ((xs.take j).all (winB lo hi pm) = true)) (fun i _ => xs.length - (intOf i).toNat)
    case atStart => exact ⟨0, by omega, rfl, Lib.hid (Below.refl _ _), Lib.hid rfl⟩
    case round =>
    obtain ⟨j, hj, rfl, HC, HA⟩ := hrel
    have HCw : Hid (Below W1.heap.size W1 wr) := Lib.hid (HBA.out.trans (HC.out.mono HBA.out.size))
    by_cases hjt : j < xs.length
    case neg =>
      obtain rfl : j = xs.length := by omega
      rw [List.take_length] at HA
      have HX := Lib.hid (HY.out HA.out)
      clear HY HN HA
      go_wp2
      go_roundw
      case rel => exact ⟨k + 1, by omega, by go_num, HCw, HX⟩
      case measure => simp [intOf]; omega
    obtain ⟨g, gq, rfl, hg⟩ : ∃ g gq, a = some ⟨g, gq, none⟩ ∧ IntRowQ W6 g gq xs := by
      rcases HROW6.out with h | h
      · rw [h] at hjt; simp at hjt
      · exact h
    have hc := (hg.below HC.out).cell j xs[j] (by simp [hjt])
    have HJY : Hid (winB lo hi pm xs[j] = true → (xs.take (j + 1)).all (winB lo hi pm) = true) := Lib.hid (fun h => all_snoc _ xs j hjt HA.out h)
    have HJN : Hid (winB lo hi pm xs[j] = false → boundsB o = false) := Lib.hid (fun h => HN.out (all_not _ xs j hjt h))
    have hrb := HRB.out.below HC.out
    have q1 := hrb.cell 1 (v := .string nm) rfl
    have q2 := hrb.cell 2 (v := .slice (some ⟨bk, 0, none⟩) 2 2) rfl
    have q3 := hrb.cell 3 (v := .bool pm) rfl
    have H123 := Lib.hid (chk_any nm xs[j] lo hi pm bk wr (cell_below HC.out HL0.out) (cell_below HC.out HL1.out) HW1.out HW2.out)
    clear hg HA hrb f0
    generalize xs[j] = x at hc HJY HJN H123
    cases hwb : winB lo hi pm x with
    | true =>
      rw [hwb] at H123
      have HX := Lib.hid (HJY.out hwb)
      clear hwb HJY HJN
      go_wp2_with (first
        | (go_at_call 123; go_must (refine H123.out.mono ?_; rintro e w4 ⟨hb4, ev, rfl, rfl⟩; have HB4 := Lib.hid (HC.out.trans (hb4.mono HC.out.size)); clear hb4))
        | (fail))
      go_roundw
      case rel => exact ⟨j + 1, by omega, by go_num, HB4, HX⟩
      case measure => simp [intOf]; omega
    | false =>
      rw [hwb] at H123
      have HX := Lib.hid (HJN.out hwb)
      clear hwb HJY HJN
      go_wp2_with (first
        | (go_at_call 123; go_must (refine H123.out.mono ?_; rintro e w4 ⟨hb4, ev, rfl, T, p, rfl⟩; have HB4 := Lib.hid (HCw.out.trans (hb4.mono HCw.out.size)); clear hb4))
        | (fail))
      go_ret
      exact ⟨HBW.out.trans (HB4.out.mono HBW.out.size), _, rfl, by rw [HX.out]; exact ⟨_, _, rfl⟩⟩
  case neg =>
  obtain rfl : k = 8 := by omega
  have q14 := (HBX.out.below HB.out).cell 14 (v := .slice a11 o.dy.length c11) rfl
  have HA8 := HA
  clear HA hlt hk
  go_wp2
  have HBB := HB
  clear HB
  obtain ⟨wo, rfl⟩ : ∃ wo : World, wo = wr := ⟨_, rfl⟩
  go_loopw [75] (fun i wr => ∃ j : Nat, j ≤ o.dy.length ∧ i = .int .i64 j ∧ Hid (Below W1.heap.size W1 wr) ∧ Hid ((o.dy.take j).all dayB = true)) (fun i _ => o.dy.length - (intOf i).toNat)
  case atStart => exact ⟨0, by omega, rfl, HBB, Lib.hid rfl⟩
  case round =>
  obtain ⟨j, hj, rfl, HB, HA⟩ := hrel
  have HBr2 : Hid (Below w.heap.size w wr) := Lib.hid (HBW.out.trans (HB.out.mono HBW.out.size))
  by_cases hlt : j < o.dy.length
  case pos =>
    obtain ⟨g, gq, rfl, hg⟩ : ∃ g gq, a11 = some ⟨g, gq, none⟩ ∧ DayRowQ w g gq o.dy := by
      rcases HDY.out with h | h
      · rw [h] at hlt; simp at hlt
      · exact h
    obtain ⟨hc0, hc1⟩ := (hg.below HBr2.out).cell j o.dy[j] (by simp [hlt])
    have HY : Hid (dayB o.dy[j] = true → (o.dy.take (j + 1)).all dayB = true) := Lib.hid (fun h => allD_snoc _ j hlt HA.out h)
    have HN : Hid (dayB o.dy[j] = false → boundsB o = false) := Lib.hid (fun h => by
      unfold boundsB
      rw [allD_not _ j hlt h]; simp)
    clear hg HA
    generalize o.dy[j] = p at hc0 hc1 HY HN
    obtain ⟨d, n⟩ := p
    simp only at hc0 hc1
    have hbz := HB.out.size
    have HAL2 : Hid (Below W1.heap.size W1 (wr.alloc (.cells #[.int .i64 d, .int .i64 n] 103))) := Lib.hid (HB.out.alloc hbz _)
    rcases Int.lt_or_le 53 n with h2 | h2
    · have b2 : decide (53 < n) = true := decide_eq_true h2
      have HX := Lib.hid (HN.out (by show (decide (-53 ≤ n) && decide (n ≤ 53)) = false; rw [decide_eq_false (show ¬ n ≤ 53 by omega)]; simp))
      clear HY HN h2
      go_wp2_with (first
        | (go_at_call 108; go_must (refine (errNew_any _ _).mono ?_; rintro e w5 ⟨T2, p2, rfl, hb5⟩))
        | (fail))
      go_ret
      have h3 := HAL2.out.trans (hb5.mono HAL2.out.size)
      exact ⟨HBW.out.trans (h3.mono HBW.out.size), _, rfl, by rw [HX.out]; exact ⟨_, _, rfl⟩⟩
    have b2 : decide (53 < n) = false := decide_eq_false (by omega)
    rcases Int.lt_or_le n (-53) with h1 | h1
    · have b1 : decide (n < -53) = true := decide_eq_true h1
      have HX := Lib.hid (HN.out (by show (decide (-53 ≤ n) && decide (n ≤ 53)) = false; rw [decide_eq_false (by omega)]; rfl))
      clear HY HN h1 h2
      go_wp2_with (first
        | (go_at_call 108; go_must (refine (errNew_any _ _).mono ?_; rintro e w5 ⟨T2, p2, rfl, hb5⟩))
        | (fail))
      go_ret
      have h3 := HAL2.out.trans (hb5.mono HAL2.out.size)
      exact ⟨HBW.out.trans (h3.mono HBW.out.size), _, rfl, by rw [HX.out]; exact ⟨_, _, rfl⟩⟩
    have b1 : decide (n < -53) = false := decide_eq_false (by omega)
    have HX := Lib.hid (HY.out (by show (decide (-53 ≤ n) && decide (n ≤ 53)) = true; rw [decide_eq_true h1, decide_eq_true h2]; rfl))
    clear HY HN h1 h2
    go_wp2
    go_roundw
    case rel => exact ⟨j + 1, by omega, by go_num, HAL2, HX⟩
    case measure => simp [intOf]; omega
  case neg =>
  obtain rfl : j = o.dy.length := by omega
  rw [List.take_length] at HA
  have q3 := (HBX.out.below HB.out).cell 3 (v := .int .i64 o.iv) rfl
  rcases Int.lt_or_le o.iv 0 with h1 | h1
  · have b1 : decide (o.iv < 0) = true := decide_eq_true h1
    have HX : Hid (boundsB o = false) := Lib.hid (by
      unfold boundsB
      rw [decide_eq_false (show ¬ (0 : Int) ≤ o.iv by omega)]; simp)
    go_wp2_with (first
      | (go_at_call 108; go_must (refine (errNew_any _ _).mono ?_; rintro e w5 ⟨T2, p2, rfl, hb5⟩))
      | (fail))
    go_ret
    exact ⟨HBr2.out.trans (hb5.mono HBr2.out.size), _, rfl, by rw [HX.out]; exact ⟨_, _, rfl⟩⟩
  · have b1 : decide (o.iv < 0) = false := decide_eq_false (by omega)
    have HX : Hid (boundsB o = true) := Lib.hid (by
      unfold boundsB
      rw [HA8.out, HA.out, decide_eq_true h1]; rfl)
    go_wp2
    go_ret
    exact ⟨HBr2.out, _, rfl, by rw [HX.out]; rfl⟩
end Go.Proofs.YtcfbkkcamiephaaGreatDoor
