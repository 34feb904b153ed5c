import Derived.Test.YtcfbkkcamiephaaGreatDoorY1
import Derived.Test.YtcfbkkcamiephaaGreatDoorV1
import Derived.Test.YtcfbkkcamiephaaGreatDoorR1
import Derived.Test.YtcfbkkcamiephaaGreatDoorF13
namespace Go.Proofs.YtcfbkkcamiephaaGreatDoor
open Go.RowKit

/-! ### FnTextMoment -/
def qmomR (x : Int) : RuleD := ⟨3, true, x, 0, 0, 0, false, 0, [], [], [], [], [], [], [], [], [], []⟩
def qmomO (x : Int) : Opt := ⟨3, (x, 0), 0, (0, 0), 0, (0, 0), [], [], [], [], [], [], [], [], [], []⟩
def qmomRow (x : Int) : Array Value := #[.int .u8 3, .bool true, .int .i64 x, .int .i64 0, .int .i64 0, .int .i64 0, .bool false, .int .i64 0, .slice none 0 0, .slice none 0 0, .slice none 0 0, .slice none 0 0, .slice none 0 0, .slice none 0 0, .slice none 0 0, .slice none 0 0, .slice none 0 0, .slice none 0 0]
def qmomT (x : Int) : List UInt8 := [68, 84, 83, 84, 65, 82, 84, 58] ++ stampS x ++ [10, 82, 82, 85, 76, 69, 58, 70, 82, 69, 81, 61, 68, 65, 73, 76, 89]
theorem qmomO_of (x : Int) : optOf (qmomR x) = qmomO x := rfl
theorem qmomR_of (x : Int) (h : x ≠ 0) : ruleOf (qmomO x) = qmomR x := by
  have : (x == 0) = false := by simp [h]
  simp [ruleOf, qmomO, qmomR, isZ, this]
theorem qmomN (x : Int) (h : InTime x) : OptN (qmomO x) := by
  have i0 : In64 0 := ⟨by decide, by decide⟩
  have t0 : InTime 0 := ⟨by decide, by decide⟩
  refine ⟨⟨(⟨by decide, by decide⟩ : (0 : Int) ≤ 3 ∧ (3 : Int) ≤ 6), h, i0, (⟨by decide, by decide, i0⟩ : (0 : Int) ≤ 0 ∧ (0 : Int) ≤ 6 ∧ In64 0), i0, t0, ?_, ?_, ?_, ?_, ?_, ?_, ?_, ?_, ?_, ?_⟩, rfl, rfl⟩
  all_goals exact ⟨by simp [qmomO], by simp [qmomO]⟩
theorem qmomRr (x : Int) : rrL (qmomO x) = [70, 82, 69, 81, 61, 68, 65, 73, 76, 89] := by
  unfold rrL partsP p0 p1 p2 p3 p4 p10
  rfl
theorem qmomL (x : Int) (h : x ≠ 0) : optL (qmomO x) = qmomT x := by
  have hz : ((qmomO x).st.1 == 0 && (qmomO x).st.2 == 0) = false := by
    show (x == 0 && (0 : Int) == 0) = false
    simp [h]
  rw [optL_some hz, qmomRr]
  unfold qmomT
  show dtL ++ (58 :: stampS x) ++ nlL ++ _ = _
  generalize stampS x = st
  simp [dtL, nlL]
theorem qmomIs (x : Int) (W : World) : RuleIs W (.agg (qmomRow x)) (qmomR x) :=
  ⟨_, _, _, _, _, _, _, _, _, _, rfl, .inl ⟨rfl, rfl⟩, .inl ⟨rfl, rfl⟩, .inl ⟨rfl, rfl⟩, .inl ⟨rfl, rfl⟩, .inl ⟨rfl, rfl⟩, .inl ⟨rfl, rfl⟩, .inl ⟨rfl, rfl⟩, .inl ⟨rfl, rfl⟩, .inl ⟨rfl, rfl⟩, .inl ⟨rfl, rfl⟩⟩
theorem qmomLen (x : Int) : RuleLen (qmomR x) := ⟨by simp [qmomR]⟩
theorem Tryz.blt26m (x : Int) : Tryz.prog.built 26 [(0, .int .u8 3), (1, .bool true), (2, .int .i64 x)] = some (qmomRow x) := by kernel_rfl
theorem run_bld26m (x : Int) (ρ : Operand → Value) (o : Oper) (ho : o.op = .build 26 #[(0, .const (.int .u8 3)), (1, .const (.bool true)), (2, .tmp 31)])
    (h0 : ρ (.const (.int .u8 3)) = .int .u8 3) (h1 : ρ (.const (.bool true)) = .bool true) (h2 : ρ (.tmp 31) = .int .i64 x) (w : World) :
    (execOp ρ o).run Tryz.prog w = .ok (.value (.agg (qmomRow x))) w := by
  unfold execOp
  simp only [ho]
  have hm : ((#[(0, .const (.int .u8 3)), (1, .const (.bool true)), (2, .tmp 31)] : Array (Nat × Operand)).map fun (i, x) => (i, ρ x)) = #[(0, .int .u8 3), (1, .bool true), (2, .int .i64 x)] := by
    simp [h0, h1, h2]
  rw [hm]
  simp [run_build w 26 _ _ (Tryz.blt26m x)]
attribute [local go_sem ↓] lockL_eq
set_option maxRecDepth 100000 in
set_option maxHeartbeats 12800000 in
theorem law_moment (hrule : RuleAny) (n : Int) (_hn : In64 n) (w : World) (hG : Good w) :
    Calls Tryz.prog 6 #[.int .i64 n] w fun e w' => e = .returned (.bool true) ∧ Below w.heap.size w w' := by
  have H19 := Lib.hid (fun w hG => awake_any hrule option_any w hG)
  have HG := Lib.hid hG
  clear hG
  by_cases hin : -31622400 ≤ n ∧ n ≤ 315537811199 ∧ n ≠ 0 ∧ n ≠ -86400
  · obtain ⟨i1, i2, i3, i4⟩ := hin
    have d1 : decide (n < -31622400) = false := by simp; omega
    have d2 : decide (315537811199 < n) = false := by simp; omega
    have d3 : (n == 0) = false := by simp [i3]
    have d4 : (n == -86400) = false := by simp [i4]
    have hs : IntKind.i64.wrap (n + 86400) = n + 86400 := IntWalk.i64_in _ (by omega)
    have HX : Hid (∀ k : Nat, k < 2 → InTime (n + 86400 * (k : Int)) ∧ n + 86400 * (k : Int) ≠ 0) := Lib.hid (fun k hk => by
      unfold InTime
      have : k = 0 ∨ k = 1 := by omega
      rcases this with rfl | rfl <;> omega)
    clear i3 i4 _hn hs
    go_enter Tryz.func6, Tryz.ntmps6
    go_wp2_with (fail)
    go_loopw [27] (fun i wr => ∃ k : Nat, k ≤ 2 ∧ i = .int .i64 k ∧ Hid (Below w.heap.size w wr) ∧ Hid (∀ j : Nat, j < 2 → wr.cell? ⟨w.heap.size, j, none⟩ = some (.int .i64 (n + 86400 * (j : Int)))) ∧ w.heap.size < wr.heap.size) (fun i _ => 2 - (intOf i).toNat)
    case atStart =>
      refine ⟨0, by omega, rfl, Lib.hid ((Below.refl _ _).alloc (Nat.le_refl _) _), Lib.hid (fun j hj => ?_), by simp⟩
      have : j = 0 ∨ j = 1 := by omega
      rcases this with rfl | rfl
      · simp
      · simp
    case round =>
      obtain ⟨k, hk, rfl, HB, HC, hlt⟩ := hrel
      by_cases hk2 : k < 2
      · have t1 : decide ((k : Int) < 2) = true := by simp; omega
        have k0 : (0 : Int) ≤ (k : Int) := by omega
        have k1 : (k : Int) < 2 := by omega
        have hcx := HC.out k hk2
        obtain ⟨hx1, hx2⟩ := HX.out k hk2
        generalize n + 86400 * (k : Int) = x at hcx hx1 hx2
        have hT : optL (qmomO x) = qmomT x := qmomL x hx2
        have hN := qmomN x hx1
        have hrr : ruleOf (qmomO x) = qmomR x := qmomR_of x hx2
        have hlen : (qmomT x).length ≤ 1000000 := by
          unfold qmomT
          have := stampS_len x hx1
          simp; omega
        have H32 : Hid (∀ v w, RuleIs w v (qmomR x) → Calls Tryz.prog 32 #[v] w fun e w' => ∃ v', e = .returned v' ∧ RuleIs w' v' (qmomR x) ∧ Below w.heap.size w w') := Lib.hid (fun v w hv => conv32 (qmomR x) v w hv (qmomLen x).out.1)
        have H31 : Hid (∀ v w, Good w → RuleIs w v (qmomR x) → Calls Tryz.prog 31 #[v] w fun e w' => e = .returned (.string (mkS (qmomT x))) ∧ Below w.heap.size w w') := Lib.hid (fun v w hG hv => by
          have := optionText_any option_any (qmomR x) v w hG hv (⟨by decide, by decide⟩ : (0 : Int) ≤ 3 ∧ (3 : Int) ≤ 255) (by rw [qmomO_of]; exact hN.ok) (qmomLen x).out.1
          rw [qmomO_of, hT] at this; exact this)
        have H27 : Hid (∀ w, Good w → Calls Tryz.prog 27 #[.string (mkS (qmomT x)), .agg (qmomRow x)] w fun e w' => e = .returned (.bool true) ∧ Below w.heap.size w w') := Lib.hid (fun w hG =>
          parsed_yes hrule (qmomT x) (qmomO x) (.agg (qmomRow x)) w hG hlen (by rw [← hT]; exact opt_back _ hN) (by rw [hrr]; exact qmomIs x w) (by rw [hrr]; exact qmomLen x))
        have H33 := Lib.hid (fun w => textTime_any x w hx1)
        have hst := stampS_len x hx1
        have hmT : qmomT x = [68, 84, 83, 84, 65, 82, 84, 58] ++ stampS x ++ [10, 82, 82, 85, 76, 69, 58, 70, 82, 69, 81, 61, 68, 65, 73, 76, 89] := rfl
        generalize qmomT x = T at *
        generalize stampS x = st at *
        have z1 : (mkS st).size = 16 := by rw [size_mkS]; exact hst
        have c1 : ({ data := #[68, 84, 83, 84, 65, 82, 84, 58] } : ByteArray) ++ mkS st = mkS ([68, 84, 83, 84, 65, 82, 84, 58] ++ st) := str_app _ _
        have c2 : mkS ([68, 84, 83, 84, 65, 82, 84, 58] ++ st) ++ ({ data := #[10, 82, 82, 85, 76, 69, 58, 70, 82, 69, 81, 61, 68, 65, 73, 76, 89] } : ByteArray) = mkS T := by rw [hmT]; exact str_app _ [10, 82, 82, 85, 76, 69, 58, 70, 82, 69, 81, 61, 68, 65, 73, 76, 89]
        have z2 : (mkS ([68, 84, 83, 84, 65, 82, 84, 58] ++ st)).size = 24 := by rw [size_mkS]; simp [hst]
        have hal : Below wr.heap.size wr (wr.alloc (.cells (qmomRow x) 26)) := (Below.refl _ _).alloc (Nat.le_refl _) _
        have hrow : RowAt (wr.alloc (.cells (qmomRow x) 26)) wr.heap.size 26 (qmomRow x).toList := ⟨by rw [heap_alloc_new]⟩
        have HA := Lib.hid hal
        have HR := Lib.hid hrow
        have hGr := Lib.hid ((HG.out.below HB.out).below hal)
        clear hT hN hrr hlen hst hmT hal hrow hx1 hx2
        generalize [68, 84, 83, 84, 65, 82, 84, 58] ++ st = U at *
        go_wp2_with (first
          | (refine Great.wpList_runTo rfl (some 32) rfl _ _ (run_bld26m x _ _ rfl rfl rfl rfl _) ?_)
          | (refine Great.wpList_runTo rfl (some 5) rfl _ _ (run_al26 _ _ rfl _) ?_)
          | (refine wpList_store_fresh rfl 26 _ _ rfl ruleZ0 (qmomRow x) rfl rfl (by as_aux_lemma => kernel_rfl) rfl (by simp [qmomRow, Value.oneCell']) ?_)
          | (refine wpList_load_row rfl 26 _ rfl wr.heap.size rfl 26 (qmomRow x) (0, 0) _ HR.out.blk Tryz.underlying26 rfl (by as_aux_lemma => kernel_rfl) ?_)
          | (go_at_call 32; go_must (refine (H32.out _ _ (qmomIs x _)).mono ?_; rintro e w2 ⟨v2, rfl, hv2, hb2⟩; have hA2 := HA.out.trans (hb2.mono HA.out.size); have hG2 := hGr.out.below hb2; have HR2 := HR.out.below hb2))
          | (go_at_call 31; go_must (refine (H31.out _ _ hG2 hv2).mono ?_; rintro e w3 ⟨rfl, hb3⟩; have hA3 := hA2.trans (hb3.mono hA2.size); have hG3 := hG2.below hb3; have HR3 := HR2.below hb3))
          | (go_at_call 33; go_must (refine (H33.out _).mono ?_; rintro e w4 ⟨rfl, hb4⟩; have hA4 := hA3.trans (hb4.mono hA3.size); have hG4 := hG3.below hb4; have HR4 := HR3.below hb4; have hL4 := lockLoad_arr (W := w4) (B := wr.heap.size) (qmomRow x) 18 rfl (fun i => by rw [HR4.cells]; simp)))
          | (go_at_call 27; go_must (refine (H27.out _ hG4).mono ?_; rintro e w5 ⟨rfl, hb5⟩; have hA5 := hA4.trans (hb5.mono hA4.size)))
          | (fail))
        go_roundw
        case rel => exact ⟨k + 1, by omega, by go_num, Lib.hid (HB.out.trans (hA5.mono HB.out.size)), Lib.hid (fun j hj => cell_below hA5 (HC.out j hj)), Nat.lt_of_lt_of_le hlt hA5.size⟩
        case measure => simp [intOf]; omega
      · obtain rfl : k = 2 := by omega
        go_wp2_with (first
          | (go_at_call 19; go_must (refine (H19.out _ (HG.out.below HB.out)).mono ?_; rintro e w7 ⟨rfl, hb7⟩))
          | (fail))
        go_ret
        exact ⟨rfl, HB.out.trans (hb7.mono HB.out.size)⟩
  · by_cases c1 : n < -31622400
    · have d1 : decide (n < -31622400) = true := by simp [c1]
      clear hin hrule
      go_enter Tryz.func6, Tryz.ntmps6
      go_wp2_with (first
        | (go_at_call 19; go_must (refine (H19.out _ HG.out).mono ?_; rintro e w7 ⟨rfl, hb7⟩))
        | (fail))
      go_ret
      exact ⟨rfl, hb7⟩
    · have d1 : decide (n < -31622400) = false := by simp; omega
      by_cases c2 : 315537811199 < n
      · have d2 : decide (315537811199 < n) = true := by simp [c2]
        clear hin hrule
        go_enter Tryz.func6, Tryz.ntmps6
        go_wp2_with (first
          | (go_at_call 19; go_must (refine (H19.out _ HG.out).mono ?_; rintro e w7 ⟨rfl, hb7⟩))
          | (fail))
        go_ret
        exact ⟨rfl, hb7⟩
      · have d2 : decide (315537811199 < n) = false := by simp; omega
        by_cases c3 : n = 0
        · have d3 : (n == 0) = true := by simp [c3]
          clear hin hrule
          go_enter Tryz.func6, Tryz.ntmps6
          go_wp2_with (first
            | (go_at_call 19; go_must (refine (H19.out _ HG.out).mono ?_; rintro e w7 ⟨rfl, hb7⟩))
            | (fail))
          go_ret
          exact ⟨rfl, hb7⟩
        · have d3 : (n == 0) = false := by simp [c3]
          have d4 : (n == -86400) = true := by simp; omega
          clear hin hrule
          go_enter Tryz.func6, Tryz.ntmps6
          go_wp2_with (first
            | (go_at_call 19; go_must (refine (H19.out _ HG.out).mono ?_; rintro e w7 ⟨rfl, hb7⟩))
            | (fail))
          go_ret
          exact ⟨rfl, hb7⟩
end Go.Proofs.YtcfbkkcamiephaaGreatDoor
