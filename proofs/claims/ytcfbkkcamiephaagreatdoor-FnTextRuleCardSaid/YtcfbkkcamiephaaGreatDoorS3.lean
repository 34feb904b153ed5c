import Derived.Test.YtcfbkkcamiephaaGreatDoorLk
import Derived.Laws.StructEq
namespace Go.Proofs.YtcfbkkcamiephaaGreatDoor
open Go.RowKit

/-! ### SameRule, of one rule and itself -/
theorem neq59 (a b : Int) (W : World) : (binOp .neq 59 (.agg #[.int .i64 a, .int .i64 b]) (.agg #[.int .i64 a, .int .i64 b])).run Tryz.prog W = .ok (.bool false) W := by
  have hS : Tryz.prog.underlying 59 = some (.struct (Tryz.prog.fieldsOf 59)) := by kernel_rfl
  have hp : Tryz.prog.stoodInHeld 59 = false := by kernel_rfl
  rw [run_neq_struct, show (10000 : Nat) = 9999 + 1 from rfl, run_equalIn_agg W 9999 59 _ _ hS hp]
  have h3 := Tryz.underlying3
  simp only [Program.fieldsOf, Tryz.underlying59]
  simp [go_sem, h3]
set_option maxRecDepth 100000 in
set_option maxHeartbeats 25600000 in
theorem same_any (r : RuleD) (v v' : Value) (w : World) (hv : RuleIs w v r) (hv' : RuleIs w v' r) (hl : r.dy.length ≤ 1000000000 ∧ r.sp.length ≤ 1000000000 ∧ r.mo.length ≤ 1000000000 ∧ r.md.length ≤ 1000000000 ∧ r.yd.length ≤ 1000000000 ∧ r.wn.length ≤ 1000000000 ∧ r.ho.length ≤ 1000000000 ∧ r.mi.length ≤ 1000000000 ∧ r.se.length ≤ 1000000000 ∧ r.ea.length ≤ 1000000000) :
    Calls Tryz.prog 22 #[v, v'] w fun e w' => e = .returned (.bool true) ∧ Below w.heap.size w w' := by
  obtain ⟨v8, v9, v10, v11, v12, v13, v14, v15, v16, v17, rfl, hR⟩ := hv
  obtain ⟨u8, u9, u10, u11, u12, u13, u14, u15, u16, u17, rfl, hU⟩ := hv'
  obtain ⟨f, hs, st, iv, wk, ct, hu, un, sp, mo, md, yd, wn, dy, ho, mi, se, ea⟩ := r
  obtain ⟨a8, c8, rfl, -⟩ := hR.l8.form2
  obtain ⟨b8, d8, rfl, -⟩ := hU.l8.form2
  obtain ⟨a9, c9, rfl, -⟩ := hR.l9.form2
  obtain ⟨b9, d9, rfl, -⟩ := hU.l9.form2
  obtain ⟨a10, c10, rfl, -⟩ := hR.l10.form2
  obtain ⟨b10, d10, rfl, -⟩ := hU.l10.form2
  obtain ⟨a11, c11, rfl, -⟩ := hR.l11.form2
  obtain ⟨b11, d11, rfl, -⟩ := hU.l11.form2
  obtain ⟨a12, c12, rfl, -⟩ := hR.l12.form2
  obtain ⟨b12, d12, rfl, -⟩ := hU.l12.form2
  obtain ⟨a14, c14, rfl, -⟩ := hR.l14.form2
  obtain ⟨b14, d14, rfl, -⟩ := hU.l14.form2
  obtain ⟨a15, c15, rfl, -⟩ := hR.l15.form2
  obtain ⟨b15, d15, rfl, -⟩ := hU.l15.form2
  obtain ⟨a16, c16, rfl, -⟩ := hR.l16.form2
  obtain ⟨b16, d16, rfl, -⟩ := hU.l16.form2
  obtain ⟨a17, c17, rfl, -⟩ := hR.l17.form2
  obtain ⟨b17, d17, rfl, -⟩ := hU.l17.form2
  obtain ⟨a13, c13, rfl, hday⟩ := hR.l13.form
  obtain ⟨b13, d13, rfl, hday'⟩ := hU.l13.form
  have HR := Lib.hid hR; have HU := Lib.hid hU; have HD := Lib.hid hday; have HD' := Lib.hid hday'
  clear hR hU hday hday'
  simp only at hl
  unfold ruleVal
  simp only
  obtain ⟨hbox, hbox2, hb3, hz3⟩ := two_rows w #[.int .u8 f, .bool hs, .int .i64 st, .int .i64 iv, .int .i64 wk, .int .i64 ct, .bool hu, .int .i64 un, .slice a8 sp.length c8, .slice a9 mo.length c9, .slice a10 md.length c10, .slice a11 yd.length c11, .slice a12 wn.length c12, .slice a13 dy.length c13, .slice a14 ho.length c14, .slice a15 mi.length c15, .slice a16 se.length c16, .slice a17 ea.length c17] #[.int .u8 f, .bool hs, .int .i64 st, .int .i64 iv, .int .i64 wk, .int .i64 ct, .bool hu, .int .i64 un, .slice b8 sp.length d8, .slice b9 mo.length d9, .slice b10 md.length d10, .slice b11 yd.length d11, .slice b12 wn.length d12, .slice b13 dy.length d13, .slice b14 ho.length d14, .slice b15 mi.length d15, .slice b16 se.length d16, .slice b17 ea.length d17] 26 26
  have hbl : Hid (RowAt ((w.alloc (.cells #[.int .u8 f, .bool hs, .int .i64 st, .int .i64 iv, .int .i64 wk, .int .i64 ct, .bool hu, .int .i64 un, .slice a8 sp.length c8, .slice a9 mo.length c9, .slice a10 md.length c10, .slice a11 yd.length c11, .slice a12 wn.length c12, .slice a13 dy.length c13, .slice a14 ho.length c14, .slice a15 mi.length c15, .slice a16 se.length c16, .slice a17 ea.length c17] 26)).alloc (.cells #[.int .u8 f, .bool hs, .int .i64 st, .int .i64 iv, .int .i64 wk, .int .i64 ct, .bool hu, .int .i64 un, .slice b8 sp.length d8, .slice b9 mo.length d9, .slice b10 md.length d10, .slice b11 yd.length d11, .slice b12 wn.length d12, .slice b13 dy.length d13, .slice b14 ho.length d14, .slice b15 mi.length d15, .slice b16 se.length d16, .slice b17 ea.length d17] 26)) w.heap.size 26 [.int .u8 f, .bool hs, .int .i64 st, .int .i64 iv, .int .i64 wk, .int .i64 ct, .bool hu, .int .i64 un, .slice a8 sp.length c8, .slice a9 mo.length c9, .slice a10 md.length c10, .slice a11 yd.length c11, .slice a12 wn.length c12, .slice a13 dy.length c13, .slice a14 ho.length c14, .slice a15 mi.length c15, .slice a16 se.length c16, .slice a17 ea.length c17]) := hbox
  have hbl2 : Hid (RowAt ((w.alloc (.cells #[.int .u8 f, .bool hs, .int .i64 st, .int .i64 iv, .int .i64 wk, .int .i64 ct, .bool hu, .int .i64 un, .slice a8 sp.length c8, .slice a9 mo.length c9, .slice a10 md.length c10, .slice a11 yd.length c11, .slice a12 wn.length c12, .slice a13 dy.length c13, .slice a14 ho.length c14, .slice a15 mi.length c15, .slice a16 se.length c16, .slice a17 ea.length c17] 26)).alloc (.cells #[.int .u8 f, .bool hs, .int .i64 st, .int .i64 iv, .int .i64 wk, .int .i64 ct, .bool hu, .int .i64 un, .slice b8 sp.length d8, .slice b9 mo.length d9, .slice b10 md.length d10, .slice b11 yd.length d11, .slice b12 wn.length d12, .slice b13 dy.length d13, .slice b14 ho.length d14, .slice b15 mi.length d15, .slice b16 se.length d16, .slice b17 ea.length d17] 26)) (w.heap.size + 1) 26 [.int .u8 f, .bool hs, .int .i64 st, .int .i64 iv, .int .i64 wk, .int .i64 ct, .bool hu, .int .i64 un, .slice b8 sp.length d8, .slice b9 mo.length d9, .slice b10 md.length d10, .slice b11 yd.length d11, .slice b12 wn.length d12, .slice b13 dy.length d13, .slice b14 ho.length d14, .slice b15 mi.length d15, .slice b16 se.length d16, .slice b17 ea.length d17]) := hbox2
  clear hbox hbox2
  have HB3 := Lib.hid hb3; have HZ3 := Lib.hid hz3
  clear hb3 hz3
  go_enter Tryz.func22, Tryz.ntmps22
  go_upto_region 2 with fail
  have hca := hbl.out.cell 13 (v := .slice a13 dy.length c13) rfl
  have hcb := hbl2.out.cell 13 (v := .slice b13 dy.length d13) rfl
  generalize (w.alloc (.cells #[.int .u8 f, .bool hs, .int .i64 st, .int .i64 iv, .int .i64 wk, .int .i64 ct, .bool hu, .int .i64 un, .slice a8 sp.length c8, .slice a9 mo.length c9, .slice a10 md.length c10, .slice a11 yd.length c11, .slice a12 wn.length c12, .slice a13 dy.length c13, .slice a14 ho.length c14, .slice a15 mi.length c15, .slice a16 se.length c16, .slice a17 ea.length c17] 26)).alloc (.cells #[.int .u8 f, .bool hs, .int .i64 st, .int .i64 iv, .int .i64 wk, .int .i64 ct, .bool hu, .int .i64 un, .slice b8 sp.length d8, .slice b9 mo.length d9, .slice b10 md.length d10, .slice b11 yd.length d11, .slice b12 wn.length d12, .slice b13 dy.length d13, .slice b14 ho.length d14, .slice b15 mi.length d15, .slice b16 se.length d16, .slice b17 ea.length d17] 26) = W2 at *
  go_wp2_with fail
  have hb3 := HB3.out
  have hr1 := hbl.out
  have hr2 := hbl2.out
  have hz3 : w.heap.size + 2 ≤ W2.heap.size := by have := HZ3.out; omega
  clear hca hcb
  have hgd : Tryz.prog.eqGuardType Tryz.prog.depth 59 = false := by kernel_rfl
  have hne := @neq59
  go_loopw [18] (fun i wr => ∃ k : Nat, k ≤ dy.length ∧ i = .int .i64 k ∧ RowAt wr w.heap.size 26 [.int .u8 f, .bool hs, .int .i64 st, .int .i64 iv, .int .i64 wk, .int .i64 ct, .bool hu, .int .i64 un, .slice a8 sp.length c8, .slice a9 mo.length c9, .slice a10 md.length c10, .slice a11 yd.length c11, .slice a12 wn.length c12, .slice a13 dy.length c13, .slice a14 ho.length c14, .slice a15 mi.length c15, .slice a16 se.length c16, .slice a17 ea.length c17] ∧ RowAt wr (w.heap.size + 1) 26 [.int .u8 f, .bool hs, .int .i64 st, .int .i64 iv, .int .i64 wk, .int .i64 ct, .bool hu, .int .i64 un, .slice b8 sp.length d8, .slice b9 mo.length d9, .slice b10 md.length d10, .slice b11 yd.length d11, .slice b12 wn.length d12, .slice b13 dy.length d13, .slice b14 ho.length d14, .slice b15 mi.length d15, .slice b16 se.length d16, .slice b17 ea.length d17] ∧ w.heap.size + 2 ≤ wr.heap.size ∧ Below w.heap.size w wr) (fun i _ => dy.length - (intOf i).toNat)
  case atStart => exact ⟨0, by omega, rfl, hr1, hr2, hz3, hb3⟩
  case round =>
    clear hr1 hr2 hz3 hb3
    obtain ⟨k, hk, rfl, hr1, hr2, hz, hb⟩ := hrel
    by_cases hlt : k < dy.length
    · obtain ⟨g, gq, rfl, hg⟩ : ∃ g gq, a13 = some ⟨g, gq, none⟩ ∧ DayRowQ w g gq dy := by
        rcases HD.out with h | h
        · rw [h] at hlt; simp at hlt
        · exact h
      obtain ⟨g', gq', rfl, hg'⟩ : ∃ g gq, b13 = some ⟨g, gq, none⟩ ∧ DayRowQ w g gq dy := by
        rcases HD'.out with h | h
        · rw [h] at hlt; simp at hlt
        · exact h
      have hgw := hg.below hb
      have hal : ∀ x y : Int, Below wr.heap.size wr (wr.alloc (.cells #[.int .i64 x, .int .i64 y] 59)) := fun x y => (Below.refl _ _).alloc (Nat.le_refl _) _
      obtain ⟨hc0, hc1⟩ := hgw.cell k dy[k] (by simp [hlt])
      obtain ⟨hd0, hd1⟩ := ((hg'.below hb).below (hal dy[k].1 dy[k].2)).cell k dy[k] (by simp [hlt])
      generalize dy[k] = p at hc0 hc1 hd0 hd1
      obtain ⟨x, y⟩ := p
      simp only at hc0 hc1 hd0 hd1
      have hbx := (hr2.below (hal x y)).cell 13 (v := .slice (some ⟨g', gq', none⟩) dy.length d13) rfl
      have hr1a := Lib.hid (hr1.below (hal x y))
      have hr2a := Lib.hid (hr2.below (hal x y))
      have hba := Lib.hid (hb.trans ((hal x y).mono hb.size))
      have hk0 : (0 : Int) ≤ (k : Int) := Int.natCast_nonneg _
      have hk1 : (k : Int) < (dy.length : Int) := by omega
      clear hal hg hg' hgw hr1 hr2
      go_wp2
      go_quiet (fail)
      go_wp2
      go_roundw
      case rel => exact ⟨k + 1, by omega, by go_num, ⟨hr1a.out.blk⟩, ⟨hr2a.out.blk⟩, by simp; omega, bdrewN hba.out _⟩
      case measure => simp [intOf]; omega
    · obtain rfl : k = dy.length := by omega
      have hc1 := hr1.cells
      have hc2 := hr2.cells
      have hA := HR.out.below hb
      have hB := HU.out.below hb
      clear hr1 hr2
      have H8 : Hid (∀ W, (∃ q, W = wr.drewN q) → Calls Tryz.prog 61 #[.slice a8 sp.length c8, .slice b8 sp.length d8] W fun e w' => e = .returned (.bool true) ∧ ∃ q, w' = wr.drewN q) := fun W hW => by
        obtain ⟨q, rfl⟩ := hW
        refine (sameInts_any sp _ _ _ (hA.l8.below (bdrewN (Below.refl _ _) q)) (hB.l8.below (bdrewN (Below.refl _ _) q)) (by simp only [hl])).mono ?_
        rintro e w1 ⟨rfl, q2, rfl⟩
        exact ⟨rfl, q + q2, by rw [World.drewN_drewN]⟩
      have H9 : Hid (∀ W, (∃ q, W = wr.drewN q) → Calls Tryz.prog 61 #[.slice a9 mo.length c9, .slice b9 mo.length d9] W fun e w' => e = .returned (.bool true) ∧ ∃ q, w' = wr.drewN q) := fun W hW => by
        obtain ⟨q, rfl⟩ := hW
        refine (sameInts_any mo _ _ _ (hA.l9.below (bdrewN (Below.refl _ _) q)) (hB.l9.below (bdrewN (Below.refl _ _) q)) (by simp only [hl])).mono ?_
        rintro e w1 ⟨rfl, q2, rfl⟩
        exact ⟨rfl, q + q2, by rw [World.drewN_drewN]⟩
      have H10 : Hid (∀ W, (∃ q, W = wr.drewN q) → Calls Tryz.prog 61 #[.slice a10 md.length c10, .slice b10 md.length d10] W fun e w' => e = .returned (.bool true) ∧ ∃ q, w' = wr.drewN q) := fun W hW => by
        obtain ⟨q, rfl⟩ := hW
        refine (sameInts_any md _ _ _ (hA.l10.below (bdrewN (Below.refl _ _) q)) (hB.l10.below (bdrewN (Below.refl _ _) q)) (by simp only [hl])).mono ?_
        rintro e w1 ⟨rfl, q2, rfl⟩
        exact ⟨rfl, q + q2, by rw [World.drewN_drewN]⟩
      have H11 : Hid (∀ W, (∃ q, W = wr.drewN q) → Calls Tryz.prog 61 #[.slice a11 yd.length c11, .slice b11 yd.length d11] W fun e w' => e = .returned (.bool true) ∧ ∃ q, w' = wr.drewN q) := fun W hW => by
        obtain ⟨q, rfl⟩ := hW
        refine (sameInts_any yd _ _ _ (hA.l11.below (bdrewN (Below.refl _ _) q)) (hB.l11.below (bdrewN (Below.refl _ _) q)) (by simp only [hl])).mono ?_
        rintro e w1 ⟨rfl, q2, rfl⟩
        exact ⟨rfl, q + q2, by rw [World.drewN_drewN]⟩
      have H12 : Hid (∀ W, (∃ q, W = wr.drewN q) → Calls Tryz.prog 61 #[.slice a12 wn.length c12, .slice b12 wn.length d12] W fun e w' => e = .returned (.bool true) ∧ ∃ q, w' = wr.drewN q) := fun W hW => by
        obtain ⟨q, rfl⟩ := hW
        refine (sameInts_any wn _ _ _ (hA.l12.below (bdrewN (Below.refl _ _) q)) (hB.l12.below (bdrewN (Below.refl _ _) q)) (by simp only [hl])).mono ?_
        rintro e w1 ⟨rfl, q2, rfl⟩
        exact ⟨rfl, q + q2, by rw [World.drewN_drewN]⟩
      have H14 : Hid (∀ W, (∃ q, W = wr.drewN q) → Calls Tryz.prog 61 #[.slice a14 ho.length c14, .slice b14 ho.length d14] W fun e w' => e = .returned (.bool true) ∧ ∃ q, w' = wr.drewN q) := fun W hW => by
        obtain ⟨q, rfl⟩ := hW
        refine (sameInts_any ho _ _ _ (hA.l14.below (bdrewN (Below.refl _ _) q)) (hB.l14.below (bdrewN (Below.refl _ _) q)) (by simp only [hl])).mono ?_
        rintro e w1 ⟨rfl, q2, rfl⟩
        exact ⟨rfl, q + q2, by rw [World.drewN_drewN]⟩
      have H15 : Hid (∀ W, (∃ q, W = wr.drewN q) → Calls Tryz.prog 61 #[.slice a15 mi.length c15, .slice b15 mi.length d15] W fun e w' => e = .returned (.bool true) ∧ ∃ q, w' = wr.drewN q) := fun W hW => by
        obtain ⟨q, rfl⟩ := hW
        refine (sameInts_any mi _ _ _ (hA.l15.below (bdrewN (Below.refl _ _) q)) (hB.l15.below (bdrewN (Below.refl _ _) q)) (by simp only [hl])).mono ?_
        rintro e w1 ⟨rfl, q2, rfl⟩
        exact ⟨rfl, q + q2, by rw [World.drewN_drewN]⟩
      have H16 : Hid (∀ W, (∃ q, W = wr.drewN q) → Calls Tryz.prog 61 #[.slice a16 se.length c16, .slice b16 se.length d16] W fun e w' => e = .returned (.bool true) ∧ ∃ q, w' = wr.drewN q) := fun W hW => by
        obtain ⟨q, rfl⟩ := hW
        refine (sameInts_any se _ _ _ (hA.l16.below (bdrewN (Below.refl _ _) q)) (hB.l16.below (bdrewN (Below.refl _ _) q)) (by simp only [hl])).mono ?_
        rintro e w1 ⟨rfl, q2, rfl⟩
        exact ⟨rfl, q + q2, by rw [World.drewN_drewN]⟩
      have H17 : Hid (∀ W, (∃ q, W = wr.drewN q) → Calls Tryz.prog 61 #[.slice a17 ea.length c17, .slice b17 ea.length d17] W fun e w' => e = .returned (.bool true) ∧ ∃ q, w' = wr.drewN q) := fun W hW => by
        obtain ⟨q, rfl⟩ := hW
        refine (sameInts_any ea _ _ _ (hA.l17.below (bdrewN (Below.refl _ _) q)) (hB.l17.below (bdrewN (Below.refl _ _) q)) (by simp only [hl])).mono ?_
        rintro e w1 ⟨rfl, q2, rfl⟩
        exact ⟨rfl, q + q2, by rw [World.drewN_drewN]⟩
      clear hA hB
      go_wp2_with (first
        | (go_at_call_of 61 (Value.slice a8 sp.length c8); go_must (refine (H8.out _ (by first | exact ⟨_, rfl⟩ | exact ⟨0, rfl⟩)).mono ?_; rintro e w1 ⟨rfl, q8, rfl⟩))
        | (go_at_call_of 61 (Value.slice a9 mo.length c9); go_must (refine (H9.out _ (by first | exact ⟨_, rfl⟩ | exact ⟨0, rfl⟩)).mono ?_; rintro e w1 ⟨rfl, q9, rfl⟩))
        | (go_at_call_of 61 (Value.slice a10 md.length c10); go_must (refine (H10.out _ (by first | exact ⟨_, rfl⟩ | exact ⟨0, rfl⟩)).mono ?_; rintro e w1 ⟨rfl, q10, rfl⟩))
        | (go_at_call_of 61 (Value.slice a11 yd.length c11); go_must (refine (H11.out _ (by first | exact ⟨_, rfl⟩ | exact ⟨0, rfl⟩)).mono ?_; rintro e w1 ⟨rfl, q11, rfl⟩))
        | (go_at_call_of 61 (Value.slice a12 wn.length c12); go_must (refine (H12.out _ (by first | exact ⟨_, rfl⟩ | exact ⟨0, rfl⟩)).mono ?_; rintro e w1 ⟨rfl, q12, rfl⟩))
        | (go_at_call_of 61 (Value.slice a14 ho.length c14); go_must (refine (H14.out _ (by first | exact ⟨_, rfl⟩ | exact ⟨0, rfl⟩)).mono ?_; rintro e w1 ⟨rfl, q14, rfl⟩))
        | (go_at_call_of 61 (Value.slice a15 mi.length c15); go_must (refine (H15.out _ (by first | exact ⟨_, rfl⟩ | exact ⟨0, rfl⟩)).mono ?_; rintro e w1 ⟨rfl, q15, rfl⟩))
        | (go_at_call_of 61 (Value.slice a16 se.length c16); go_must (refine (H16.out _ (by first | exact ⟨_, rfl⟩ | exact ⟨0, rfl⟩)).mono ?_; rintro e w1 ⟨rfl, q16, rfl⟩))
        | (go_at_call_of 61 (Value.slice a17 ea.length c17); go_must (refine (H17.out _ (by first | exact ⟨_, rfl⟩ | exact ⟨0, rfl⟩)).mono ?_; rintro e w1 ⟨rfl, q17, rfl⟩)))
      go_ret
      exact ⟨rfl, by first | exact bdrewN hb _ | exact hb⟩
end Go.Proofs.YtcfbkkcamiephaaGreatDoor
