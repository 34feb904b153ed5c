import Derived.Test.YtcfbkkcamiephaaGreatDoorV1
namespace Go.Proofs.YtcfbkkcamiephaaGreatDoor
open Go.RowKit


/-! ### TextRule -/
/-- What TextRule asks of a rule. -/
structure TextR (r : RuleD) : Prop where
  fq : r.fq ≤ 6
  wk : 0 ≤ r.wk ∧ r.wk ≤ 6
  st : InTime r.st
  un : InTime r.un
  hu : r.hu = (r.un != 0)
  hs : r.hs = (r.st != 0)
  dl : r.dy.length ≤ 40
  dy : ∀ p ∈ r.dy, 0 ≤ p.1 ∧ p.1 ≤ 6
  l : r.sp.length ≤ 40 ∧ r.mo.length ≤ 40 ∧ r.md.length ≤ 40 ∧ r.yd.length ≤ 40 ∧ r.wn.length ≤ 40 ∧ r.ho.length ≤ 40 ∧ r.mi.length ≤ 40 ∧ r.se.length ≤ 40 ∧ r.ea.length ≤ 40
def TRPost (r : RuleD) (w : World) (e : Ending) (w' : World) : Prop := ∃ b : Bool, e = .returned (.bool b) ∧ (b = true → TextR r) ∧ Below w.heap.size w w'
theorem tr_no {r : RuleD} {w w' : World} {e : Ending} (he : e = .returned (.bool false)) (hb : Below w.heap.size w w') : TRPost r w e w' := ⟨false, he, (fun h => by cases h), hb⟩
theorem inTime_yes (n : Int) (h : InTime n) (w : World) : Calls Tryz.prog 62 #[.int .i64 n] w fun e w' => e = .returned (.bool true) ∧ w = w' := by
  have h1 : decide ((-31622400 : Int) ≤ n) = true := decide_eq_true h.1
  have h2 : decide (n ≤ 315537897599) = true := decide_eq_true h.2
  clear h
  go_enter Tryz.func62, Tryz.ntmps62
  go_wp2
  go_ret
  exact ⟨rfl, rfl⟩
theorem inTime_no (n : Int) (h : ¬ InTime n) (w : World) : Calls Tryz.prog 62 #[.int .i64 n] w fun e w' => e = .returned (.bool false) ∧ w = w' := by
  by_cases hlo : -31622400 ≤ n
  · have h1 : decide ((-31622400 : Int) ≤ n) = true := decide_eq_true hlo
    have h2 : decide (n ≤ 315537897599) = false := decide_eq_false (fun h3 => h ⟨hlo, h3⟩)
    clear h hlo
    go_enter Tryz.func62, Tryz.ntmps62
    go_wp2
    go_ret
    exact ⟨rfl, rfl⟩
  · have h1 : decide ((-31622400 : Int) ≤ n) = false := decide_eq_false hlo
    clear h hlo
    go_enter Tryz.func62, Tryz.ntmps62
    go_wp2
    go_ret
    exact ⟨rfl, rfl⟩
set_option maxRecDepth 100000 in
set_option maxHeartbeats 6400000 in
theorem textRule_any (r : RuleD) (v : Value) (w : World) (hv : RuleIs w v r) (hf : 0 ≤ r.fq ∧ r.fq ≤ 255) (hdl : r.dy.length ≤ 2147483647) : Calls Tryz.prog 25 #[v] w (TRPost r w) := by
  obtain ⟨v8, v9, v10, v11, v12, v13, v14, v15, v16, v17, rfl, hR⟩ := hv
  obtain ⟨a8, c8, rfl⟩ := hR.l8.formL
  obtain ⟨a9, c9, rfl⟩ := hR.l9.formL
  obtain ⟨a10, c10, rfl⟩ := hR.l10.formL
  obtain ⟨a11, c11, rfl⟩ := hR.l11.formL
  obtain ⟨a12, c12, rfl⟩ := hR.l12.formL
  obtain ⟨a13, c13, rfl, hdy⟩ := hR.l13.form
  obtain ⟨a14, c14, rfl⟩ := hR.l14.formL
  obtain ⟨a15, c15, rfl⟩ := hR.l15.formL
  obtain ⟨a16, c16, rfl⟩ := hR.l16.formL
  obtain ⟨a17, c17, rfl⟩ := hR.l17.formL
  clear hR
  have HDY := Lib.hid hdy
  clear hdy
  obtain ⟨f, hs, st, iv, wk, ct, hu, un, sp, mo, md, yd, wn, dy, ho, mi, se, ea⟩ := r
  simp only at hf hdl
  have HDZ : Hid (dy = [] ∨ ∃ g gq, a13 = some ⟨g, gq, none⟩ ∧ DayRowQ w g gq dy) := HDY
  clear HDY
  unfold ruleVal
  simp only
  have HT : Hid (f ≤ 6 → 0 ≤ wk → wk ≤ 6 → InTime st → InTime un → hu = (un != 0) → hs = (st != 0) → dy.length ≤ 40 → (∀ p ∈ dy, 0 ≤ p.1 ∧ p.1 ≤ 6) → (sp.length ≤ 40 ∧ mo.length ≤ 40 ∧ md.length ≤ 40 ∧ yd.length ≤ 40 ∧ wn.length ≤ 40 ∧ ho.length ≤ 40 ∧ mi.length ≤ 40 ∧ se.length ≤ 40 ∧ ea.length ≤ 40) → TextR ⟨f, hs, st, iv, wk, ct, hu, un, sp, mo, md, yd, wn, dy, ho, mi, se, ea⟩) :=
    Lib.hid (fun h1 h2 h3 h4 h5 h6 h7 h8 h9 h10 => ⟨h1, ⟨h2, h3⟩, h4, h5, h6, h7, h8, h9, h10⟩)
  generalize (⟨f, hs, st, iv, wk, ct, hu, un, sp, mo, md, yd, wn, dy, ho, mi, se, ea⟩ : RuleD) = RR at *
  have HB : Hid (∀ cs : Array Value, Below w.heap.size w (w.alloc (.cells cs 26))) := Lib.hid (fun cs => (Below.refl _ _).alloc (Nat.le_refl _) _)
  generalize sp.length = n8 at *
  generalize mo.length = n9 at *
  generalize md.length = n10 at *
  generalize yd.length = n11 at *
  generalize wn.length = n12 at *
  generalize ho.length = n14 at *
  generalize mi.length = n15 at *
  generalize se.length = n16 at *
  generalize ea.length = n17 at *
  rcases Int.lt_or_le 6 f with h1 | h1
  · have b1 : decide ((6 : Int) < f) = true := decide_eq_true h1
    go_enter Tryz.func25, Tryz.ntmps25
    go_wp2_with (first
      | (fail))
    go_ret
    exact tr_no rfl (HB.out _)
  have b1 : decide ((6 : Int) < f) = false := decide_eq_false (by omega)
  rcases Int.lt_or_le wk 0 with h2 | h2
  · have b2 : decide (wk < 0) = true := decide_eq_true h2
    go_enter Tryz.func25, Tryz.ntmps25
    go_wp2_with (first
      | (fail))
    go_ret
    exact tr_no rfl (HB.out _)
  have b2 : decide (wk < 0) = false := decide_eq_false (by omega)
  rcases Int.lt_or_le 6 wk with h3 | h3
  · have b3 : decide ((6 : Int) < wk) = true := decide_eq_true h3
    go_enter Tryz.func25, Tryz.ntmps25
    go_wp2_with (first
      | (fail))
    go_ret
    exact tr_no rfl (HB.out _)
  have b3 : decide ((6 : Int) < wk) = false := decide_eq_false (by omega)
  by_cases h4 : ¬ (InTime st)
  · have H62 := Lib.hid (inTime_no st h4)
    clear h4
    go_enter Tryz.func25, Tryz.ntmps25
    go_wp2_with (first
      | (go_at_call 62; go_must (refine (H62.out _).mono ?_; rintro e w1 ⟨rfl, rfl⟩))
      | (fail))
    go_ret
    exact tr_no rfl (HB.out _)
  have h4 := Classical.not_not.1 h4
  have H62 := Lib.hid (inTime_yes st h4)
  have H4 := Lib.hid h4
  clear h4
  by_cases h5 : ¬ (InTime un)
  · have H62b := Lib.hid (inTime_no un h5)
    clear h5
    go_enter Tryz.func25, Tryz.ntmps25
    go_wp2_with (first
      | (go_at_call_of 62 (Value.int .i64 st); go_must (refine (H62.out _).mono ?_; rintro e w1 ⟨rfl, rfl⟩))
      | (go_at_call_of 62 (Value.int .i64 un); go_must (refine (H62b.out _).mono ?_; rintro e w1 ⟨rfl, rfl⟩))
      | (fail))
    go_ret
    exact tr_no rfl (HB.out _)
  have h5 := Classical.not_not.1 h5
  have H62b := Lib.hid (inTime_yes un h5)
  have H5 := Lib.hid h5
  clear h5
  generalize hzu : (un == 0) = zu
  have hzu' : (un != 0) = !zu := by rw [← hzu]; rfl
  generalize hzs : (st == 0) = zs
  have hzs' : (st != 0) = !zs := by rw [← hzs]; rfl
  by_cases h6 : ¬ (hu = !zu)
  · have hcc : (hu = true ∧ zu = true) ∨ (hu = false ∧ zu = false) := by revert h6; cases hu <;> cases zu <;> simp
    clear h6
    rcases hcc with ⟨rfl, rfl⟩ | ⟨rfl, rfl⟩
    all_goals
      go_enter Tryz.func25, Tryz.ntmps25
      go_wp2_with (first
        | (go_at_call_of 62 (Value.int .i64 st); go_must (refine (H62.out _).mono ?_; rintro e w1 ⟨rfl, rfl⟩))
        | (go_at_call_of 62 (Value.int .i64 un); go_must (refine (H62b.out _).mono ?_; rintro e w1 ⟨rfl, rfl⟩))
        | (fail))
      go_ret
      exact tr_no rfl (HB.out _)
  have h6 := Classical.not_not.1 h6
  have H6 := Lib.hid (h6.trans hzu'.symm)
  subst h6
  by_cases h7 : ¬ (hs = !zs)
  · have hcc : (hs = true ∧ zs = true) ∨ (hs = false ∧ zs = false) := by revert h7; cases hs <;> cases zs <;> simp
    clear h7
    rcases hcc with ⟨rfl, rfl⟩ | ⟨rfl, rfl⟩
    all_goals
      go_enter Tryz.func25, Tryz.ntmps25
      go_wp2_with (first
        | (go_at_call_of 62 (Value.int .i64 st); go_must (refine (H62.out _).mono ?_; rintro e w1 ⟨rfl, rfl⟩))
        | (go_at_call_of 62 (Value.int .i64 un); go_must (refine (H62b.out _).mono ?_; rintro e w1 ⟨rfl, rfl⟩))
        | (fail))
      go_ret
      exact tr_no rfl (HB.out _)
  have h7 := Classical.not_not.1 h7
  have H7 := Lib.hid (h7.trans hzs'.symm)
  subst h7
  rcases Nat.lt_or_ge 40 dy.length with h8 | h8
  · have b8 : decide ((40 : Int) < (dy.length : Int)) = true := decide_eq_true (by omega)
    go_enter Tryz.func25, Tryz.ntmps25
    go_wp2_with (first
      | (go_at_call_of 62 (Value.int .i64 st); go_must (refine (H62.out _).mono ?_; rintro e w1 ⟨rfl, rfl⟩))
      | (go_at_call_of 62 (Value.int .i64 un); go_must (refine (H62b.out _).mono ?_; rintro e w1 ⟨rfl, rfl⟩))
      | (fail))
    go_ret
    exact tr_no rfl (HB.out _)
  have b8 : decide ((40 : Int) < (dy.length : Int)) = false := decide_eq_false (by omega)
  go_enter Tryz.func25, Tryz.ntmps25
  go_wp2_with (first
    | (go_at_call_of 62 (Value.int .i64 st); go_must (refine (H62.out _).mono ?_; rintro e w1 ⟨rfl, rfl⟩))
    | (go_at_call_of 62 (Value.int .i64 un); go_must (refine (H62b.out _).mono ?_; rintro e w1 ⟨rfl, rfl⟩))
    | (fail))
  have H8 := Lib.hid h8
  clear b1 b2 b3 b8 h8
  have hbx : Below w.heap.size w (w.alloc (.cells #[.int .u8 f, .bool !zs, .int .i64 st, .int .i64 iv, .int .i64 wk, .int .i64 ct, .bool !zu, .int .i64 un, .slice a8 n8 c8, .slice a9 n9 c9, .slice a10 n10 c10, .slice a11 n11 c11, .slice a12 n12 c12, .slice a13 dy.length c13, .slice a14 n14 c14, .slice a15 n15 c15, .slice a16 n16 c16, .slice a17 n17 c17] 26)) := HB.out _
  have hrow : RowAt (w.alloc (.cells #[.int .u8 f, .bool !zs, .int .i64 st, .int .i64 iv, .int .i64 wk, .int .i64 ct, .bool !zu, .int .i64 un, .slice a8 n8 c8, .slice a9 n9 c9, .slice a10 n10 c10, .slice a11 n11 c11, .slice a12 n12 c12, .slice a13 dy.length c13, .slice a14 n14 c14, .slice a15 n15 c15, .slice a16 n16 c16, .slice a17 n17 c17] 26)) w.heap.size 26 [.int .u8 f, .bool !zs, .int .i64 st, .int .i64 iv, .int .i64 wk, .int .i64 ct, .bool !zu, .int .i64 un, .slice a8 n8 c8, .slice a9 n9 c9, .slice a10 n10 c10, .slice a11 n11 c11, .slice a12 n12 c12, .slice a13 dy.length c13, .slice a14 n14 c14, .slice a15 n15 c15, .slice a16 n16 c16, .slice a17 n17 c17] := ⟨heap_alloc_new w _⟩
  generalize w.alloc (.cells #[.int .u8 f, .bool !zs, .int .i64 st, .int .i64 iv, .int .i64 wk, .int .i64 ct, .bool !zu, .int .i64 un, .slice a8 n8 c8, .slice a9 n9 c9, .slice a10 n10 c10, .slice a11 n11 c11, .slice a12 n12 c12, .slice a13 dy.length c13, .slice a14 n14 c14, .slice a15 n15 c15, .slice a16 n16 c16, .slice a17 n17 c17] 26) = W1 at *
  clear H62 H62b HB hzu hzs
  go_loopw [60] (fun i wr => ∃ k : Nat, k ≤ dy.length ∧ i = .int .i64 k ∧ RowAt wr w.heap.size 26 [.int .u8 f, .bool !zs, .int .i64 st, .int .i64 iv, .int .i64 wk, .int .i64 ct, .bool !zu, .int .i64 un, .slice a8 n8 c8, .slice a9 n9 c9, .slice a10 n10 c10, .slice a11 n11 c11, .slice a12 n12 c12, .slice a13 dy.length c13, .slice a14 n14 c14, .slice a15 n15 c15, .slice a16 n16 c16, .slice a17 n17 c17] ∧ Below w.heap.size w wr ∧ Hid (∀ p ∈ dy.take k, 0 ≤ p.1 ∧ p.1 ≤ 6)) (fun i _ => dy.length - (intOf i).toNat)
  case atStart => exact ⟨0, by omega, rfl, hrow, hbx, Lib.hid (fun p hp => by simp at hp)⟩
  case round =>
    clear hrow hbx
    obtain ⟨k, hk, rfl, hrow, hb, hA⟩ := hrel
    by_cases hlt : k < dy.length
    · obtain ⟨g, gq, rfl, hdr⟩ : ∃ g gq, a13 = some ⟨g, gq, none⟩ ∧ DayRowQ wr g gq dy := by
        rcases HDZ.out with h | ⟨g, gq, h, hd⟩
        · have h : dy = [] := h
          rw [h] at hlt; simp at hlt
        · exact ⟨g, gq, h, hd.below hb⟩
      have hgl := hdr.lt
      obtain ⟨hcd, hcn⟩ := hdr.cell k dy[k] (by simp [hlt])
      have hA2 : Hid (0 ≤ dy[k].1 → dy[k].1 ≤ 6 → ∀ p ∈ dy.take (k + 1), 0 ≤ p.1 ∧ p.1 ≤ 6) := Lib.hid (fun h1 h2 p hp => by
        rw [List.take_succ_eq_append_getElem hlt] at hp
        rcases List.mem_append.1 hp with hp | hp
        · exact hA.out p hp
        · rw [List.mem_singleton] at hp; subst hp; exact ⟨h1, h2⟩)
      generalize dy[k] = p at hcd hcn hA2
      obtain ⟨d, n⟩ := p
      simp only at hcd hcn hA2
      have HRW := Lib.hid hrow
      have HBW := Lib.hid hb
      have hbW : w.heap.size ≤ wr.heap.size := hb.size
      clear hrow hb hdr hA
      rcases Int.lt_or_le d 0 with hd | hd
      · have e1 : decide (d < 0) = true := decide_eq_true hd
        go_wp2
        go_ret
        exact tr_no rfl (HBW.out.alloc hbW _)
      · have e1 : decide (d < 0) = false := decide_eq_false (by omega)
        rcases Int.lt_or_le 6 d with hd2 | hd2
        · have e2 : decide (6 < d) = true := decide_eq_true hd2
          go_wp2
          go_ret
          exact tr_no rfl (HBW.out.alloc hbW _)
        · have e2 : decide (6 < d) = false := decide_eq_false (by omega)
          have hN := Lib.hid (hA2.out hd hd2)
          clear hA2
          go_wp2
          go_roundw
          case rel => exact ⟨k + 1, by omega, by go_num, HRW.out.below ((Below.refl _ _).alloc (Nat.le_refl _) _), HBW.out.alloc hbW _, hN⟩
          case measure => simp [intOf]; omega
    · obtain rfl : k = dy.length := by omega
      rw [List.take_length] at hA
      have q8 := hrow.cell 8 (v := .slice a8 n8 c8) rfl
      have q9 := hrow.cell 9 (v := .slice a9 n9 c9) rfl
      have q10 := hrow.cell 10 (v := .slice a10 n10 c10) rfl
      have q11 := hrow.cell 11 (v := .slice a11 n11 c11) rfl
      have q12 := hrow.cell 12 (v := .slice a12 n12 c12) rfl
      have q14 := hrow.cell 14 (v := .slice a14 n14 c14) rfl
      have q15 := hrow.cell 15 (v := .slice a15 n15 c15) rfl
      have q16 := hrow.cell 16 (v := .slice a16 n16 c16) rfl
      have q17 := hrow.cell 17 (v := .slice a17 n17 c17) rfl
      have HBW := Lib.hid hb
      have hbW : w.heap.size ≤ wr.heap.size := hb.size
      clear hrow hb
      go_wp2_with (fail)
      go_loop [93] (fun i => ∃ k : Nat, k ≤ 9 ∧ i = .int .i64 k ∧ Hid ((1 ≤ k → n8 ≤ 40) ∧ (2 ≤ k → n9 ≤ 40) ∧ (3 ≤ k → n10 ≤ 40) ∧ (4 ≤ k → n11 ≤ 40) ∧ (5 ≤ k → n12 ≤ 40) ∧ (6 ≤ k → n14 ≤ 40) ∧ (7 ≤ k → n15 ≤ 40) ∧ (8 ≤ k → n16 ≤ 40) ∧ (9 ≤ k → n17 ≤ 40))) (fun i => 9 - (intOf i).toNat)
      case atStart => exact ⟨0, by omega, rfl, Lib.hid (by refine ⟨?_, ?_, ?_, ?_, ?_, ?_, ?_, ?_, ?_⟩ <;> (intro h; omega))⟩
      case round =>
        obtain ⟨k, hk, rfl, HK⟩ := hrel
        rcases (show k = 0 ∨ k = 1 ∨ k = 2 ∨ k = 3 ∨ k = 4 ∨ k = 5 ∨ k = 6 ∨ k = 7 ∨ k = 8 ∨ k = 9 by omega) with rfl | rfl | rfl | rfl | rfl | rfl | rfl | rfl | rfl | rfl
        · rcases Nat.lt_or_ge 40 n8 with h | h
          · have e1 : decide ((40 : Int) < (n8 : Int)) = true := decide_eq_true (by omega)
            go_wp2
            go_ret
            exact tr_no rfl (HBW.out.alloc hbW _)
          · have e1 : decide ((40 : Int) < (n8 : Int)) = false := decide_eq_false (by omega)
            have HN : Hid ((1 ≤ 1 → n8 ≤ 40) ∧ (2 ≤ 1 → n9 ≤ 40) ∧ (3 ≤ 1 → n10 ≤ 40) ∧ (4 ≤ 1 → n11 ≤ 40) ∧ (5 ≤ 1 → n12 ≤ 40) ∧ (6 ≤ 1 → n14 ≤ 40) ∧ (7 ≤ 1 → n15 ≤ 40) ∧ (8 ≤ 1 → n16 ≤ 40) ∧ (9 ≤ 1 → n17 ≤ 40)) := Lib.hid (by obtain ⟨k1, k2, k3, k4, k5, k6, k7, k8, k9⟩ := HK.out; exact ⟨fun _ => by omega, fun _ => by omega, fun _ => by omega, fun _ => by omega, fun _ => by omega, fun _ => by omega, fun _ => by omega, fun _ => by omega, fun _ => by omega⟩)
            go_wp2
            go_round
            case rel => exact ⟨1, by omega, rfl, HN⟩
            case measure => simp [intOf]
        · rcases Nat.lt_or_ge 40 n9 with h | h
          · have e1 : decide ((40 : Int) < (n9 : Int)) = true := decide_eq_true (by omega)
            go_wp2
            go_ret
            exact tr_no rfl (HBW.out.alloc hbW _)
          · have e1 : decide ((40 : Int) < (n9 : Int)) = false := decide_eq_false (by omega)
            have HN : Hid ((1 ≤ 2 → n8 ≤ 40) ∧ (2 ≤ 2 → n9 ≤ 40) ∧ (3 ≤ 2 → n10 ≤ 40) ∧ (4 ≤ 2 → n11 ≤ 40) ∧ (5 ≤ 2 → n12 ≤ 40) ∧ (6 ≤ 2 → n14 ≤ 40) ∧ (7 ≤ 2 → n15 ≤ 40) ∧ (8 ≤ 2 → n16 ≤ 40) ∧ (9 ≤ 2 → n17 ≤ 40)) := Lib.hid (by obtain ⟨k1, k2, k3, k4, k5, k6, k7, k8, k9⟩ := HK.out; exact ⟨fun _ => by omega, fun _ => by omega, fun _ => by omega, fun _ => by omega, fun _ => by omega, fun _ => by omega, fun _ => by omega, fun _ => by omega, fun _ => by omega⟩)
            go_wp2
            go_round
            case rel => exact ⟨2, by omega, rfl, HN⟩
            case measure => simp [intOf]
        · rcases Nat.lt_or_ge 40 n10 with h | h
          · have e1 : decide ((40 : Int) < (n10 : Int)) = true := decide_eq_true (by omega)
            go_wp2
            go_ret
            exact tr_no rfl (HBW.out.alloc hbW _)
          · have e1 : decide ((40 : Int) < (n10 : Int)) = false := decide_eq_false (by omega)
            have HN : Hid ((1 ≤ 3 → n8 ≤ 40) ∧ (2 ≤ 3 → n9 ≤ 40) ∧ (3 ≤ 3 → n10 ≤ 40) ∧ (4 ≤ 3 → n11 ≤ 40) ∧ (5 ≤ 3 → n12 ≤ 40) ∧ (6 ≤ 3 → n14 ≤ 40) ∧ (7 ≤ 3 → n15 ≤ 40) ∧ (8 ≤ 3 → n16 ≤ 40) ∧ (9 ≤ 3 → n17 ≤ 40)) := Lib.hid (by obtain ⟨k1, k2, k3, k4, k5, k6, k7, k8, k9⟩ := HK.out; exact ⟨fun _ => by omega, fun _ => by omega, fun _ => by omega, fun _ => by omega, fun _ => by omega, fun _ => by omega, fun _ => by omega, fun _ => by omega, fun _ => by omega⟩)
            go_wp2
            go_round
            case rel => exact ⟨3, by omega, rfl, HN⟩
            case measure => simp [intOf]
        · rcases Nat.lt_or_ge 40 n11 with h | h
          · have e1 : decide ((40 : Int) < (n11 : Int)) = true := decide_eq_true (by omega)
            go_wp2
            go_ret
            exact tr_no rfl (HBW.out.alloc hbW _)
          · have e1 : decide ((40 : Int) < (n11 : Int)) = false := decide_eq_false (by omega)
            have HN : Hid ((1 ≤ 4 → n8 ≤ 40) ∧ (2 ≤ 4 → n9 ≤ 40) ∧ (3 ≤ 4 → n10 ≤ 40) ∧ (4 ≤ 4 → n11 ≤ 40) ∧ (5 ≤ 4 → n12 ≤ 40) ∧ (6 ≤ 4 → n14 ≤ 40) ∧ (7 ≤ 4 → n15 ≤ 40) ∧ (8 ≤ 4 → n16 ≤ 40) ∧ (9 ≤ 4 → n17 ≤ 40)) := Lib.hid (by obtain ⟨k1, k2, k3, k4, k5, k6, k7, k8, k9⟩ := HK.out; exact ⟨fun _ => by omega, fun _ => by omega, fun _ => by omega, fun _ => by omega, fun _ => by omega, fun _ => by omega, fun _ => by omega, fun _ => by omega, fun _ => by omega⟩)
            go_wp2
            go_round
            case rel => exact ⟨4, by omega, rfl, HN⟩
            case measure => simp [intOf]
        · rcases Nat.lt_or_ge 40 n12 with h | h
          · have e1 : decide ((40 : Int) < (n12 : Int)) = true := decide_eq_true (by omega)
            go_wp2
            go_ret
            exact tr_no rfl (HBW.out.alloc hbW _)
          · have e1 : decide ((40 : Int) < (n12 : Int)) = false := decide_eq_false (by omega)
            have HN : Hid ((1 ≤ 5 → n8 ≤ 40) ∧ (2 ≤ 5 → n9 ≤ 40) ∧ (3 ≤ 5 → n10 ≤ 40) ∧ (4 ≤ 5 → n11 ≤ 40) ∧ (5 ≤ 5 → n12 ≤ 40) ∧ (6 ≤ 5 → n14 ≤ 40) ∧ (7 ≤ 5 → n15 ≤ 40) ∧ (8 ≤ 5 → n16 ≤ 40) ∧ (9 ≤ 5 → n17 ≤ 40)) := Lib.hid (by obtain ⟨k1, k2, k3, k4, k5, k6, k7, k8, k9⟩ := HK.out; exact ⟨fun _ => by omega, fun _ => by omega, fun _ => by omega, fun _ => by omega, fun _ => by omega, fun _ => by omega, fun _ => by omega, fun _ => by omega, fun _ => by omega⟩)
            go_wp2
            go_round
            case rel => exact ⟨5, by omega, rfl, HN⟩
            case measure => simp [intOf]
        · rcases Nat.lt_or_ge 40 n14 with h | h
          · have e1 : decide ((40 : Int) < (n14 : Int)) = true := decide_eq_true (by omega)
            go_wp2
            go_ret
            exact tr_no rfl (HBW.out.alloc hbW _)
          · have e1 : decide ((40 : Int) < (n14 : Int)) = false := decide_eq_false (by omega)
            have HN : Hid ((1 ≤ 6 → n8 ≤ 40) ∧ (2 ≤ 6 → n9 ≤ 40) ∧ (3 ≤ 6 → n10 ≤ 40) ∧ (4 ≤ 6 → n11 ≤ 40) ∧ (5 ≤ 6 → n12 ≤ 40) ∧ (6 ≤ 6 → n14 ≤ 40) ∧ (7 ≤ 6 → n15 ≤ 40) ∧ (8 ≤ 6 → n16 ≤ 40) ∧ (9 ≤ 6 → n17 ≤ 40)) := Lib.hid (by obtain ⟨k1, k2, k3, k4, k5, k6, k7, k8, k9⟩ := HK.out; exact ⟨fun _ => by omega, fun _ => by omega, fun _ => by omega, fun _ => by omega, fun _ => by omega, fun _ => by omega, fun _ => by omega, fun _ => by omega, fun _ => by omega⟩)
            go_wp2
            go_round
            case rel => exact ⟨6, by omega, rfl, HN⟩
            case measure => simp [intOf]
        · rcases Nat.lt_or_ge 40 n15 with h | h
          · have e1 : decide ((40 : Int) < (n15 : Int)) = true := decide_eq_true (by omega)
            go_wp2
            go_ret
            exact tr_no rfl (HBW.out.alloc hbW _)
          · have e1 : decide ((40 : Int) < (n15 : Int)) = false := decide_eq_false (by omega)
            have HN : Hid ((1 ≤ 7 → n8 ≤ 40) ∧ (2 ≤ 7 → n9 ≤ 40) ∧ (3 ≤ 7 → n10 ≤ 40) ∧ (4 ≤ 7 → n11 ≤ 40) ∧ (5 ≤ 7 → n12 ≤ 40) ∧ (6 ≤ 7 → n14 ≤ 40) ∧ (7 ≤ 7 → n15 ≤ 40) ∧ (8 ≤ 7 → n16 ≤ 40) ∧ (9 ≤ 7 → n17 ≤ 40)) := Lib.hid (by obtain ⟨k1, k2, k3, k4, k5, k6, k7, k8, k9⟩ := HK.out; exact ⟨fun _ => by omega, fun _ => by omega, fun _ => by omega, fun _ => by omega, fun _ => by omega, fun _ => by omega, fun _ => by omega, fun _ => by omega, fun _ => by omega⟩)
            go_wp2
            go_round
            case rel => exact ⟨7, by omega, rfl, HN⟩
            case measure => simp [intOf]
        · rcases Nat.lt_or_ge 40 n16 with h | h
          · have e1 : decide ((40 : Int) < (n16 : Int)) = true := decide_eq_true (by omega)
            go_wp2
            go_ret
            exact tr_no rfl (HBW.out.alloc hbW _)
          · have e1 : decide ((40 : Int) < (n16 : Int)) = false := decide_eq_false (by omega)
            have HN : Hid ((1 ≤ 8 → n8 ≤ 40) ∧ (2 ≤ 8 → n9 ≤ 40) ∧ (3 ≤ 8 → n10 ≤ 40) ∧ (4 ≤ 8 → n11 ≤ 40) ∧ (5 ≤ 8 → n12 ≤ 40) ∧ (6 ≤ 8 → n14 ≤ 40) ∧ (7 ≤ 8 → n15 ≤ 40) ∧ (8 ≤ 8 → n16 ≤ 40) ∧ (9 ≤ 8 → n17 ≤ 40)) := Lib.hid (by obtain ⟨k1, k2, k3, k4, k5, k6, k7, k8, k9⟩ := HK.out; exact ⟨fun _ => by omega, fun _ => by omega, fun _ => by omega, fun _ => by omega, fun _ => by omega, fun _ => by omega, fun _ => by omega, fun _ => by omega, fun _ => by omega⟩)
            go_wp2
            go_round
            case rel => exact ⟨8, by omega, rfl, HN⟩
            case measure => simp [intOf]
        · rcases Nat.lt_or_ge 40 n17 with h | h
          · have e1 : decide ((40 : Int) < (n17 : Int)) = true := decide_eq_true (by omega)
            go_wp2
            go_ret
            exact tr_no rfl (HBW.out.alloc hbW _)
          · have e1 : decide ((40 : Int) < (n17 : Int)) = false := decide_eq_false (by omega)
            have HN : Hid ((1 ≤ 9 → n8 ≤ 40) ∧ (2 ≤ 9 → n9 ≤ 40) ∧ (3 ≤ 9 → n10 ≤ 40) ∧ (4 ≤ 9 → n11 ≤ 40) ∧ (5 ≤ 9 → n12 ≤ 40) ∧ (6 ≤ 9 → n14 ≤ 40) ∧ (7 ≤ 9 → n15 ≤ 40) ∧ (8 ≤ 9 → n16 ≤ 40) ∧ (9 ≤ 9 → n17 ≤ 40)) := Lib.hid (by obtain ⟨k1, k2, k3, k4, k5, k6, k7, k8, k9⟩ := HK.out; exact ⟨fun _ => by omega, fun _ => by omega, fun _ => by omega, fun _ => by omega, fun _ => by omega, fun _ => by omega, fun _ => by omega, fun _ => by omega, fun _ => by omega⟩)
            go_wp2
            go_round
            case rel => exact ⟨9, by omega, rfl, HN⟩
            case measure => simp [intOf]
        · have HFIN := HT.out (by omega) (by omega) (by omega) H4.out H5.out H6.out H7.out (by have := H8.out; omega) hA.out (by obtain ⟨k1, k2, k3, k4, k5, k6, k7, k8, k9⟩ := HK.out; exact ⟨by omega, by omega, by omega, by omega, by omega, by omega, by omega, by omega, by omega⟩)
          have HF2 := Lib.hid HFIN
          clear HFIN
          go_wp2
          go_ret
          exact ⟨true, rfl, fun _ => HF2.out, HBW.out.alloc hbW _⟩
end Go.Proofs.YtcfbkkcamiephaaGreatDoor
