import Derived.Test.YtcfbkkcamiephaaGreatDoorE6
import Derived.Test.YtcfbkkcamiephaaGreatDoorS3
import Derived.Test.YtcfbkkcamiephaaGreatDoorF11
import Derived.Test.YtcfbkkcamiephaaGreatDoorS1
import Derived.Deep.RegionHeld3
import Derived.Deep.DrawnRows
namespace Go.Proofs.YtcfbkkcamiephaaGreatDoor
open Go.RowKit

/-! ### the rule that textAwake writes and reads -/
def secs0 : Int := 62999856000
def rule0 : RuleD := ⟨3, true, secs0, 0, 0, 3, false, 0, [], [], [], [], [], [], [], [], [], []⟩
def text0 : List UInt8 := [68, 84, 83, 84, 65, 82, 84, 58, 49, 57, 57, 55, 48, 53, 50, 50, 84, 48, 48, 48, 48, 48, 48, 90, 10, 82, 82, 85, 76, 69, 58, 70, 82, 69, 81, 61, 68, 65, 73, 76, 89, 59, 67, 79, 85, 78, 84, 61, 51]
def text1 : List UInt8 := [70, 82, 69, 81, 61, 68, 65, 73, 76, 89, 59, 67, 79, 85, 78, 84, 61, 120]
def opt0 : Opt := ⟨3, (secs0, 0), 0, (0, 0), 3, (0, 0), [], [], [], [], [], [], [], [], [], []⟩
theorem days0 : daysTo 1997 + 22 - 1 + mcum 1997 (5 - 1) = 729165 := by decide +kernel
theorem read0 : optT text0 = some opt0 := by kernel_rfl
theorem read1 : optT text1 = none := by kernel_rfl
theorem dig1 (n : Nat) (h : n < 10) : Lib.decDigits n = [UInt8.ofNat (48 + n)] := by
  rw [Lib.decDigits, dif_pos h]
theorem dig2 (n : Nat) (h : ¬ n < 10) : Lib.decDigits n = Lib.decDigits (n / 10) ++ [UInt8.ofNat (48 + n % 10)] := by
  rw [Lib.decDigits, dif_neg h]
theorem itoa_1997 : Lib.itoa 1997 = [49, 57, 57, 55] := by
  show Lib.decDigits 1997 = _
  rw [dig2 1997 (by decide), dig2 (1997 / 10) (by decide), dig2 (1997 / 10 / 10) (by decide), dig1 (1997 / 10 / 10 / 10) (by decide)]; rfl
theorem itoa_5 : Lib.itoa 5 = [53] := by show Lib.decDigits 5 = _; rw [dig1 5 (by decide)]; rfl
theorem itoa_22 : Lib.itoa 22 = [50, 50] := by show Lib.decDigits 22 = _; rw [dig2 22 (by decide), dig1 (22 / 10) (by decide)]; rfl
theorem itoa_0 : Lib.itoa 0 = [48] := by show Lib.decDigits 0 = _; rw [dig1 0 (by decide)]; rfl
theorem itoa_3 : Lib.itoa 3 = [51] := by show Lib.decDigits 3 = _; rw [dig1 3 (by decide)]; rfl
theorem stamp0 : stampS secs0 = [49, 57, 57, 55, 48, 53, 50, 50, 84, 48, 48, 48, 48, 48, 48, 90] := by
  have h1 : yearS secs0 = 1997 := by decide +kernel
  have h2 : monS secs0 = 5 := by decide +kernel
  have h3 : dayS secs0 = 22 := by decide +kernel
  have h4 : secs0 % 86400 = 0 := by decide +kernel
  unfold stampS stampL padL
  rw [h1, h2, h3, h4, itoa_1997, itoa_5, itoa_22, show (0 : Int) / 3600 = 0 from rfl, show (0 : Int) / 60 % 60 = 0 from rfl, show (0 : Int) % 60 = 0 from rfl, itoa_0]
  rfl
theorem write0 : optL (optOf rule0) = text0 := by
  have h : optOf rule0 = opt0 := rfl
  rw [h]
  have hi : Lib.itoa opt0.ct = [51] := itoa_3
  have hs : stampS opt0.st.1 = _ := stamp0
  unfold optL rrL partsP p0 p1 p2 p3 p4 p10
  rw [hi, hs]
  rfl
theorem ok0 : OptOk (optOf rule0) := by
  refine ⟨by decide, ⟨by decide, by decide⟩, ⟨by decide, by decide⟩, ⟨by decide, by decide, by decide, by decide⟩, ⟨by decide, by decide⟩, ⟨by decide, by decide⟩, ?_, ?_, ?_, ?_, ?_, ?_, ?_, ?_, ?_, ?_⟩
  all_goals exact ⟨by simp [optOf, rule0], by simp [optOf, rule0]⟩
end Go.Proofs.YtcfbkkcamiephaaGreatDoor
namespace Go.Proofs.YtcfbkkcamiephaaGreatDoor
open Go.RowKit
attribute [local go_sem ↓] Go.wp_at_zero Go.wp_at_succ

/-! ### textAwake -/
theorem DaysV.form3 {w : World} {v : Value} {xs : List (Int × Int)} (h : DaysV w v xs) : ∃ a n c, v = .slice a n c := by
  obtain ⟨a, c, h, _⟩ := h.form; exact ⟨_, _, _, h⟩
theorem Tryz.blt26a : Tryz.prog.built 26 [(0, .int .u8 3), (1, .bool true), (2, .int .i64 62999856000), (5, .int .i64 3)] = some #[.int .u8 3, .bool true, .int .i64 62999856000, .int .i64 0, .int .i64 0, .int .i64 3, .bool false, .int .i64 0, .slice none 0 0, .slice none 0 0, .slice none 0 0, .slice none 0 0, .slice none 0 0, .slice none 0 0, .slice none 0 0, .slice none 0 0, .slice none 0 0, .slice none 0 0] := by kernel_rfl
theorem run_bld26a (ρ : Operand → Value) (o : Oper) (ho : o.op = .build 26 #[(0, .const (.int .u8 3)), (1, .const (.bool true)), (2, .tmp 8), (5, .const (.int .i64 3))])
    (h0 : ρ (.const (.int .u8 3)) = .int .u8 3) (h1 : ρ (.const (.bool true)) = .bool true) (h2 : ρ (.tmp 8) = .int .i64 62999856000) (h5 : ρ (.const (.int .i64 3)) = .int .i64 3) (w : World) :
    (execOp ρ o).run Tryz.prog w = .ok (.value (.agg #[.int .u8 3, .bool true, .int .i64 62999856000, .int .i64 0, .int .i64 0, .int .i64 3, .bool false, .int .i64 0, .slice none 0 0, .slice none 0 0, .slice none 0 0, .slice none 0 0, .slice none 0 0, .slice none 0 0, .slice none 0 0, .slice none 0 0, .slice none 0 0, .slice none 0 0])) w := by
  unfold execOp
  simp only [ho]
  have hm : ((#[(0, .const (.int .u8 3)), (1, .const (.bool true)), (2, .tmp 8), (5, .const (.int .i64 3))] : Array (Nat × Operand)).map fun (i, x) => (i, ρ x)) = #[(0, .int .u8 3), (1, .bool true), (2, .int .i64 62999856000), (5, .int .i64 3)] := by
    simp [h0, h1, h2, h5]
  rw [hm]
  simp [run_build w 26 _ _ Tryz.blt26a]
theorem is0 (w : World) : RuleIs w (.agg #[.int .u8 3, .bool true, .int .i64 62999856000, .int .i64 0, .int .i64 0, .int .i64 3, .bool false, .int .i64 0, .slice none 0 0, .slice none 0 0, .slice none 0 0, .slice none 0 0, .slice none 0 0, .slice none 0 0, .slice none 0 0, .slice none 0 0, .slice none 0 0, .slice none 0 0]) rule0 :=
  ⟨_, _, _, _, _, _, _, _, _, _, rfl, .inl ⟨rfl, rfl⟩, .inl ⟨rfl, rfl⟩, .inl ⟨rfl, rfl⟩, .inl ⟨rfl, rfl⟩, .inl ⟨rfl, rfl⟩, .inl ⟨rfl, rfl⟩, .inl ⟨rfl, rfl⟩, .inl ⟨rfl, rfl⟩, .inl ⟨rfl, rfl⟩, .inl ⟨rfl, rfl⟩⟩
theorem daysOf0 (w : World) : Calls Tryz.prog 52 #[.int .i64 1997, .int .i64 5, .int .i64 22] w fun e w' => e = .returned (.int .i64 729165) ∧ w = w' := by
  have := daysOf_any 1997 22 5 w (by omega) (by omega) (by omega) (by omega) (by omega)
  rw [days0] at this
  exact this
structure Kw (w W : World) (v1 v3 : Value) : Prop where
  hb : Below w.heap.size w W
  r1 : RuleIs W v1 rule0
  r3 : RuleIs W v3 rule0
theorem kw_call {w W w1 : World} {v1 v3 : Value} {B1 B3 : Nat} {L1 L3 : List Value} (h : (∀ i, W.cell? ⟨B1, i, none⟩ = L1[i]?) ∧ (∀ i, W.cell? ⟨B3, i, none⟩ = L3[i]?) ∧ (B1 < W.heap.size ∧ B3 < W.heap.size) ∧ Kw w W v1 v3) (hb : Below W.heap.size W w1) :
    (∀ i, w1.cell? ⟨B1, i, none⟩ = L1[i]?) ∧ (∀ i, w1.cell? ⟨B3, i, none⟩ = L3[i]?) ∧ (B1 < w1.heap.size ∧ B3 < w1.heap.size) ∧ Kw w w1 v1 v3 :=
  ⟨fun i => ((bcell hb).1 B1 i h.2.2.1.1).trans (h.1 i), fun i => ((bcell hb).1 B3 i h.2.2.1.2).trans (h.2.1 i), ⟨Nat.lt_of_lt_of_le h.2.2.1.1 hb.size, Nat.lt_of_lt_of_le h.2.2.1.2 hb.size⟩, ⟨h.2.2.2.hb.trans (hb.mono h.2.2.2.hb.size), h.2.2.2.r1.below hb, h.2.2.2.r3.below hb⟩⟩
theorem kw_drew {w W : World} {v1 v3 : Value} {B1 B3 : Nat} {L1 L3 : List Value} (h : (∀ i, W.cell? ⟨B1, i, none⟩ = L1[i]?) ∧ (∀ i, W.cell? ⟨B3, i, none⟩ = L3[i]?) ∧ (B1 < W.heap.size ∧ B3 < W.heap.size) ∧ Kw w W v1 v3) :
    (∀ i, W.drew.cell? ⟨B1, i, none⟩ = L1[i]?) ∧ (∀ i, W.drew.cell? ⟨B3, i, none⟩ = L3[i]?) ∧ (B1 < W.drew.heap.size ∧ B3 < W.drew.heap.size) ∧ Kw w W.drew v1 v3 := kw_call h (Below.refl _ _).drew
theorem kw_r1 {w W : World} {v1 v3 : Value} {B1 B3 : Nat} {L1 L3 : List Value} (h : (∀ i, W.cell? ⟨B1, i, none⟩ = L1[i]?) ∧ (∀ i, W.cell? ⟨B3, i, none⟩ = L3[i]?) ∧ (B1 < W.heap.size ∧ B3 < W.heap.size) ∧ Kw w W v1 v3) : RuleIs W v1 rule0 := h.2.2.2.r1
theorem kw_r3 {w W : World} {v1 v3 : Value} {B1 B3 : Nat} {L1 L3 : List Value} (h : (∀ i, W.cell? ⟨B1, i, none⟩ = L1[i]?) ∧ (∀ i, W.cell? ⟨B3, i, none⟩ = L3[i]?) ∧ (B1 < W.heap.size ∧ B3 < W.heap.size) ∧ Kw w W v1 v3) : RuleIs W v3 rule0 := h.2.2.2.r3
/-- The load of a whole row, kept from the walk's unfolding. -/
def lockLoad (a : Addr) (n : Nat) : Sem (Array Value) := loadCells a n
theorem lockL_eq (a : Addr) (n : Nat) : loadCells a n = lockLoad a n := rfl
theorem lockLoad_row {W : World} {B : Nat} (cs : List Value) (n : Nat) (hn : cs.length = n) (h : ∀ i, W.cell? ⟨B, i, none⟩ = cs[i]?) : (lockLoad ⟨B, 0, none⟩ n).run Tryz.prog W = .ok cs.toArray W := by
  subst hn
  have := run_loadCells_list (P := Tryz.prog) W ⟨B, 0, none⟩ cs (fun j v hv => by
    have hadd : (⟨B, 0, none⟩ : Addr).add j = ⟨B, j, none⟩ := by unfold Addr.add; split <;> simp_all
    rw [hadd, h j]; exact hv)
  exact this
attribute [local go_sem ↓] lockL_eq
set_option maxRecDepth 100000 in
set_option maxHeartbeats 25600000 in
theorem awake_any (hrule : RuleAny) (hopt : OptionAny) (w : World) (hG : Good w) :
    Calls Tryz.prog 19 #[] w fun e w' => e = .returned (.bool true) ∧ Below w.heap.size w w' := by
  have hb1 : Below w.heap.size w (w.alloc (.cells #[.int .u8 3, .bool true, .int .i64 62999856000, .int .i64 0, .int .i64 0, .int .i64 3, .bool false, .int .i64 0, .slice none 0 0, .slice none 0 0, .slice none 0 0, .slice none 0 0, .slice none 0 0, .slice none 0 0, .slice none 0 0, .slice none 0 0, .slice none 0 0, .slice none 0 0] 26)) := (Below.refl _ _).alloc (Nat.le_refl _) _
  have hrow1 : RowAt (w.alloc (.cells #[.int .u8 3, .bool true, .int .i64 62999856000, .int .i64 0, .int .i64 0, .int .i64 3, .bool false, .int .i64 0, .slice none 0 0, .slice none 0 0, .slice none 0 0, .slice none 0 0, .slice none 0 0, .slice none 0 0, .slice none 0 0, .slice none 0 0, .slice none 0 0, .slice none 0 0] 26)) w.heap.size 26 [.int .u8 3, .bool true, .int .i64 62999856000, .int .i64 0, .int .i64 0, .int .i64 3, .bool false, .int .i64 0, .slice none 0 0, .slice none 0 0, .slice none 0 0, .slice none 0 0, .slice none 0 0, .slice none 0 0, .slice none 0 0, .slice none 0 0, .slice none 0 0, .slice none 0 0] := ⟨heap_alloc_new w _⟩
  have HR1 := Lib.hid hrow1
  have H32 := Lib.hid (conv32 rule0 (.agg #[.int .u8 3, .bool true, .int .i64 62999856000, .int .i64 0, .int .i64 0, .int .i64 3, .bool false, .int .i64 0, .slice none 0 0, .slice none 0 0, .slice none 0 0, .slice none 0 0, .slice none 0 0, .slice none 0 0, .slice none 0 0, .slice none 0 0, .slice none 0 0, .slice none 0 0]) _ (is0 (w.alloc (.cells #[.int .u8 3, .bool true, .int .i64 62999856000, .int .i64 0, .int .i64 0, .int .i64 3, .bool false, .int .i64 0, .slice none 0 0, .slice none 0 0, .slice none 0 0, .slice none 0 0, .slice none 0 0, .slice none 0 0, .slice none 0 0, .slice none 0 0, .slice none 0 0, .slice none 0 0] 26))) (by decide))
  have H31 : Hid (∀ v w, Good w → RuleIs w v rule0 → Calls Tryz.prog 31 #[v] w fun e w' => e = .returned (.string (mkS text0)) ∧ Below w.heap.size w w') := fun v w hG hv => by
    have := optionText_any hopt rule0 v w hG hv (by decide) ok0 (by decide)
    rw [write0] at this; exact this
  have H21a : Hid (∀ w, Good w → Calls Tryz.prog 21 #[.string (mkS text0)] w (ParPost w (some opt0))) := fun w hG => by
    have := parse21_any hrule text0 w hG (by decide); rw [read0] at this; exact this
  have H21b : Hid (∀ w, Good w → Calls Tryz.prog 21 #[.string ⟨#[70, 82, 69, 81, 61, 68, 65, 73, 76, 89, 59, 67, 79, 85, 78, 84, 61, 120]⟩] w (ParPost w none)) := fun w hG => by
    have := parse21_any hrule text1 w hG (by decide); rw [read1] at this; exact this
  have HB1 := Lib.hid hb1
  have HG := Lib.hid hG
  have tl0 := toList_mkS text0
  have hq0 : (text0 == [68, 84, 83, 84, 65, 82, 84, 58, 49, 57, 57, 55, 48, 53, 50, 50, 84, 48, 48, 48, 48, 48, 48, 90, 10, 82, 82, 85, 76, 69, 58, 70, 82, 69, 81, 61, 68, 65, 73, 76, 89, 59, 67, 79, 85, 78, 84, 61, 51]) = true := by decide
  clear hrow1 hb1
  go_enter Tryz.func19, Tryz.ntmps19
  go_upto_region 5 with (first
    | (go_at_call 52; go_must (refine (daysOf0 _).mono ?_; rintro e w' ⟨rfl, rfl⟩))
    | (refine Great.wpList_runTo rfl (some 9) rfl _ _ (run_bld26a _ _ rfl rfl rfl rfl rfl _) ?_)
    | (refine Great.wpList_runTo rfl (some 1) rfl _ _ (run_al26 _ _ rfl _) ?_)
    | (refine wpList_store_fresh rfl 26 _ _ rfl ruleZ0 #[.int .u8 3, .bool true, .int .i64 62999856000, .int .i64 0, .int .i64 0, .int .i64 3, .bool false, .int .i64 0, .slice none 0 0, .slice none 0 0, .slice none 0 0, .slice none 0 0, .slice none 0 0, .slice none 0 0, .slice none 0 0, .slice none 0 0, .slice none 0 0, .slice none 0 0] rfl rfl (by as_aux_lemma => kernel_rfl) rfl (by simp [Value.oneCell']) ?_)
    | (refine wpList_load_row rfl 26 _ rfl w.heap.size rfl 26 _ (0, 0) _ HR1.out.blk Tryz.underlying26 rfl (by as_aux_lemma => kernel_rfl) ?_)
    | (go_at_call 32; go_must (refine H32.out.mono ?_; rintro e w2 ⟨v2, rfl, hv2, hb2⟩; have hB2 := HB1.out.trans (hb2.mono HB1.out.size); have HV2 := Lib.hid hv2; clear hv2))
    | (go_at_call 31; go_must (refine (H31.out _ _ (HG.out.below hB2) HV2.out).mono ?_; rintro e w3 ⟨rfl, hb3⟩; have hB3 := hB2.trans (hb3.mono hB2.size)))
    | (go_at_call_of 21 (Value.string (mkS text0)); go_must (refine (H21a.out _ (HG.out.below hB3)).mono ?_; rintro e w4 ⟨hb4, v3, rfl, hv3⟩; have hB4 := hB3.trans (hb4.mono hB3.size); obtain ⟨v8, v9, v10, v11, v12, v13, v14, v15, v16, v17, rfl, hR3⟩ := hv3; obtain ⟨a8, n8, c8, rfl⟩ := hR3.l8.form; obtain ⟨a9, n9, c9, rfl⟩ := hR3.l9.form; obtain ⟨a10, n10, c10, rfl⟩ := hR3.l10.form; obtain ⟨a11, n11, c11, rfl⟩ := hR3.l11.form; obtain ⟨a12, n12, c12, rfl⟩ := hR3.l12.form; obtain ⟨a14, n14, c14, rfl⟩ := hR3.l14.form; obtain ⟨a15, n15, c15, rfl⟩ := hR3.l15.form; obtain ⟨a16, n16, c16, rfl⟩ := hR3.l16.form; obtain ⟨a17, n17, c17, rfl⟩ := hR3.l17.form; obtain ⟨a13, n13, c13, rfl⟩ := DaysV.form3 hR3.l13;  have HR3 := Lib.hid hR3; clear hR3))
    | (refine Great.wpList_runTo rfl (some 3) rfl _ _ (run_al31 _ _ rfl _) ?_)
    | (refine wpList_store_fresh rfl 31 _ _ rfl ruleZ0 #[.int .u8 3, .bool true, .int .i64 62999856000, .int .i64 0, .int .i64 0, .int .i64 3, .bool false, .int .i64 0, .slice a8 n8 c8, .slice a9 n9 c9, .slice a10 n10 c10, .slice a11 n11 c11, .slice a12 n12 c12, .slice a13 n13 c13, .slice a14 n14 c14, .slice a15 n15 c15, .slice a16 n16 c16, .slice a17 n17 c17] rfl rfl (by as_aux_lemma => kernel_rfl) rfl (by simp [Value.oneCell']) ?_; have hB5 := hB4.alloc hB4.size (.cells #[.int .u8 3, .bool true, .int .i64 62999856000, .int .i64 0, .int .i64 0, .int .i64 3, .bool false, .int .i64 0, .slice a8 n8 c8, .slice a9 n9 c9, .slice a10 n10 c10, .slice a11 n11 c11, .slice a12 n12 c12, .slice a13 n13 c13, .slice a14 n14 c14, .slice a15 n15 c15, .slice a16 n16 c16, .slice a17 n17 c17] 31))
    | (go_at_call_of 21 (Value.string ⟨#[70, 82, 69, 81, 61, 68, 65, 73, 76, 89, 59, 67, 79, 85, 78, 84, 61, 120]⟩); go_must (refine (H21b.out _ (HG.out.below hB5)).mono ?_; rintro e w6 ⟨hb6, rfl⟩; have hB6 := hB5.trans (hb6.mono hB5.size)))
    | (refine Great.wpList_runTo rfl (some 5) rfl _ _ (run_al31 _ _ rfl _) ?_)
    | (refine wpList_store_fresh rfl 31 _ _ rfl ruleZ0 ruleZ0 rfl rfl (by as_aux_lemma => kernel_rfl) rfl ruleZ0_one ?_))
  have hal4 : Below w4.heap.size w4 (w4.alloc (.cells #[.int .u8 3, .bool true, .int .i64 62999856000, .int .i64 0, .int .i64 0, .int .i64 3, .bool false, .int .i64 0, .slice a8 n8 c8, .slice a9 n9 c9, .slice a10 n10 c10, .slice a11 n11 c11, .slice a12 n12 c12, .slice a13 n13 c13, .slice a14 n14 c14, .slice a15 n15 c15, .slice a16 n16 c16, .slice a17 n17 c17] 31)) := (Below.refl _ _).alloc (Nat.le_refl _) _
  have hal6 : Below w6.heap.size w6 (w6.alloc (.cells ruleZ0 31)) := (Below.refl _ _).alloc (Nat.le_refl _) _
  have hR3f : RuleIs (w6.alloc (.cells ruleZ0 31)) (.agg #[.int .u8 3, .bool true, .int .i64 62999856000, .int .i64 0, .int .i64 0, .int .i64 3, .bool false, .int .i64 0, .slice a8 n8 c8, .slice a9 n9 c9, .slice a10 n10 c10, .slice a11 n11 c11, .slice a12 n12 c12, .slice a13 n13 c13, .slice a14 n14 c14, .slice a15 n15 c15, .slice a16 n16 c16, .slice a17 n17 c17]) rule0 := ⟨_, _, _, _, _, _, _, _, _, _, rfl, ((HR3.out.below hal4).below hb6).below hal6⟩
  have hrA := ((((((HR1.out.below hb2).below hb3).below hb4).below hal4).below hb6).below hal6)
  have hrB : RowAt (w6.alloc (.cells ruleZ0 31)) w4.heap.size 31 [.int .u8 3, .bool true, .int .i64 62999856000, .int .i64 0, .int .i64 0, .int .i64 3, .bool false, .int .i64 0, .slice a8 n8 c8, .slice a9 n9 c9, .slice a10 n10 c10, .slice a11 n11 c11, .slice a12 n12 c12, .slice a13 n13 c13, .slice a14 n14 c14, .slice a15 n15 c15, .slice a16 n16 c16, .slice a17 n17 c17] := ((⟨heap_alloc_new w4 _⟩ : RowAt (w4.alloc (.cells #[.int .u8 3, .bool true, .int .i64 62999856000, .int .i64 0, .int .i64 0, .int .i64 3, .bool false, .int .i64 0, .slice a8 n8 c8, .slice a9 n9 c9, .slice a10 n10 c10, .slice a11 n11 c11, .slice a12 n12 c12, .slice a13 n13 c13, .slice a14 n14 c14, .slice a15 n15 c15, .slice a16 n16 c16, .slice a17 n17 c17] 31)) w4.heap.size 31 [.int .u8 3, .bool true, .int .i64 62999856000, .int .i64 0, .int .i64 0, .int .i64 3, .bool false, .int .i64 0, .slice a8 n8 c8, .slice a9 n9 c9, .slice a10 n10 c10, .slice a11 n11 c11, .slice a12 n12 c12, .slice a13 n13 c13, .slice a14 n14 c14, .slice a15 n15 c15, .slice a16 n16 c16, .slice a17 n17 c17]).below hb6).below hal6
  have hBf := hB6.alloc hB6.size (.cells ruleZ0 31)
  have hK0 : (∀ i, (w6.alloc (.cells ruleZ0 31)).cell? ⟨w.heap.size, i, none⟩ = ([.int .u8 3, .bool true, .int .i64 62999856000, .int .i64 0, .int .i64 0, .int .i64 3, .bool false, .int .i64 0, .slice none 0 0, .slice none 0 0, .slice none 0 0, .slice none 0 0, .slice none 0 0, .slice none 0 0, .slice none 0 0, .slice none 0 0, .slice none 0 0, .slice none 0 0] : List Value)[i]?) ∧ (∀ i, (w6.alloc (.cells ruleZ0 31)).cell? ⟨w4.heap.size, i, none⟩ = ([.int .u8 3, .bool true, .int .i64 62999856000, .int .i64 0, .int .i64 0, .int .i64 3, .bool false, .int .i64 0, .slice a8 n8 c8, .slice a9 n9 c9, .slice a10 n10 c10, .slice a11 n11 c11, .slice a12 n12 c12, .slice a13 n13 c13, .slice a14 n14 c14, .slice a15 n15 c15, .slice a16 n16 c16, .slice a17 n17 c17] : List Value)[i]?) ∧ (w.heap.size < (w6.alloc (.cells ruleZ0 31)).heap.size ∧ w4.heap.size < (w6.alloc (.cells ruleZ0 31)).heap.size) ∧ Kw w (w6.alloc (.cells ruleZ0 31)) (.agg #[.int .u8 3, .bool true, .int .i64 62999856000, .int .i64 0, .int .i64 0, .int .i64 3, .bool false, .int .i64 0, .slice none 0 0, .slice none 0 0, .slice none 0 0, .slice none 0 0, .slice none 0 0, .slice none 0 0, .slice none 0 0, .slice none 0 0, .slice none 0 0, .slice none 0 0]) (.agg #[.int .u8 3, .bool true, .int .i64 62999856000, .int .i64 0, .int .i64 0, .int .i64 3, .bool false, .int .i64 0, .slice a8 n8 c8, .slice a9 n9 c9, .slice a10 n10 c10, .slice a11 n11 c11, .slice a12 n12 c12, .slice a13 n13 c13, .slice a14 n14 c14, .slice a15 n15 c15, .slice a16 n16 c16, .slice a17 n17 c17]) := ⟨hrA.cells, hrB.cells, ⟨hrA.lt, hrB.lt⟩, ⟨hBf, is0 _, hR3f⟩⟩
  clear hal4 hal6 hR3f hrA hrB hBf hb2 hb3 hb4 hb6 hB2 hB3 hB4 hB5 hB6 HR1 HR3 HV2 H32 H31 H21a H21b HB1 HG hG
  generalize w6.alloc (.cells ruleZ0 31) = Wf at *
  generalize w4.heap.size = B3 at *
  obtain ⟨hc1, hc3, hlt, hkw⟩ := hK0
  obtain ⟨hl1, hl3⟩ := hlt
  have HL1 : ∀ W : World, (∀ i, W.cell? ⟨w.heap.size, i, none⟩ = ([.int .u8 3, .bool true, .int .i64 62999856000, .int .i64 0, .int .i64 0, .int .i64 3, .bool false, .int .i64 0, .slice none 0 0, .slice none 0 0, .slice none 0 0, .slice none 0 0, .slice none 0 0, .slice none 0 0, .slice none 0 0, .slice none 0 0, .slice none 0 0, .slice none 0 0] : List Value)[i]?) → (lockLoad ⟨w.heap.size, 0, none⟩ 18).run Tryz.prog W = .ok #[.int .u8 3, .bool true, .int .i64 62999856000, .int .i64 0, .int .i64 0, .int .i64 3, .bool false, .int .i64 0, .slice none 0 0, .slice none 0 0, .slice none 0 0, .slice none 0 0, .slice none 0 0, .slice none 0 0, .slice none 0 0, .slice none 0 0, .slice none 0 0, .slice none 0 0] W := fun W h => lockLoad_row [.int .u8 3, .bool true, .int .i64 62999856000, .int .i64 0, .int .i64 0, .int .i64 3, .bool false, .int .i64 0, .slice none 0 0, .slice none 0 0, .slice none 0 0, .slice none 0 0, .slice none 0 0, .slice none 0 0, .slice none 0 0, .slice none 0 0, .slice none 0 0, .slice none 0 0] 18 rfl h
  have HL3 : ∀ W : World, (∀ i, W.cell? ⟨B3, i, none⟩ = ([.int .u8 3, .bool true, .int .i64 62999856000, .int .i64 0, .int .i64 0, .int .i64 3, .bool false, .int .i64 0, .slice a8 n8 c8, .slice a9 n9 c9, .slice a10 n10 c10, .slice a11 n11 c11, .slice a12 n12 c12, .slice a13 n13 c13, .slice a14 n14 c14, .slice a15 n15 c15, .slice a16 n16 c16, .slice a17 n17 c17] : List Value)[i]?) → (lockLoad ⟨B3, 0, none⟩ 18).run Tryz.prog W = .ok #[.int .u8 3, .bool true, .int .i64 62999856000, .int .i64 0, .int .i64 0, .int .i64 3, .bool false, .int .i64 0, .slice a8 n8 c8, .slice a9 n9 c9, .slice a10 n10 c10, .slice a11 n11 c11, .slice a12 n12 c12, .slice a13 n13 c13, .slice a14 n14 c14, .slice a15 n15 c15, .slice a16 n16 c16, .slice a17 n17 c17] W := fun W h => lockLoad_row [.int .u8 3, .bool true, .int .i64 62999856000, .int .i64 0, .int .i64 0, .int .i64 3, .bool false, .int .i64 0, .slice a8 n8 c8, .slice a9 n9 c9, .slice a10 n10 c10, .slice a11 n11 c11, .slice a12 n12 c12, .slice a13 n13 c13, .slice a14 n14 c14, .slice a15 n15 c15, .slice a16 n16 c16, .slice a17 n17 c17] 18 rfl h
  as_aux_lemma =>
    go_region_held3 (fun w' => (∀ i, w'.cell? ⟨w.heap.size, i, none⟩ = ([.int .u8 3, .bool true, .int .i64 62999856000, .int .i64 0, .int .i64 0, .int .i64 3, .bool false, .int .i64 0, .slice none 0 0, .slice none 0 0, .slice none 0 0, .slice none 0 0, .slice none 0 0, .slice none 0 0, .slice none 0 0, .slice none 0 0, .slice none 0 0, .slice none 0 0] : List Value)[i]?) ∧ (∀ i, w'.cell? ⟨B3, i, none⟩ = ([.int .u8 3, .bool true, .int .i64 62999856000, .int .i64 0, .int .i64 0, .int .i64 3, .bool false, .int .i64 0, .slice a8 n8 c8, .slice a9 n9 c9, .slice a10 n10 c10, .slice a11 n11 c11, .slice a12 n12 c12, .slice a13 n13 c13, .slice a14 n14 c14, .slice a15 n15 c15, .slice a16 n16 c16, .slice a17 n17 c17] : List Value)[i]?) ∧ (w.heap.size < w'.heap.size ∧ B3 < w'.heap.size) ∧ Kw w w' (.agg #[.int .u8 3, .bool true, .int .i64 62999856000, .int .i64 0, .int .i64 0, .int .i64 3, .bool false, .int .i64 0, .slice none 0 0, .slice none 0 0, .slice none 0 0, .slice none 0 0, .slice none 0 0, .slice none 0 0, .slice none 0 0, .slice none 0 0, .slice none 0 0, .slice none 0 0]) (.agg #[.int .u8 3, .bool true, .int .i64 62999856000, .int .i64 0, .int .i64 0, .int .i64 3, .bool false, .int .i64 0, .slice a8 n8 c8, .slice a9 n9 c9, .slice a10 n10 c10, .slice a11 n11 c11, .slice a12 n12 c12, .slice a13 n13 c13, .slice a14 n14 c14, .slice a15 n15 c15, .slice a16 n16 c16, .slice a17 n17 c17])) (first
      | (with_reducible assumption)
      | (with_reducible exact kw_drew ⟨hc1, hc3, ⟨hl1, hl3⟩, hkw⟩))
      (first
      | (go_at_call 23; refine (conv23 rule0 _ _ (kw_r3 (B1 := w.heap.size) (B3 := B3) (L1 := [.int .u8 3, .bool true, .int .i64 62999856000, .int .i64 0, .int .i64 0, .int .i64 3, .bool false, .int .i64 0, .slice none 0 0, .slice none 0 0, .slice none 0 0, .slice none 0 0, .slice none 0 0, .slice none 0 0, .slice none 0 0, .slice none 0 0, .slice none 0 0, .slice none 0 0]) (L3 := [.int .u8 3, .bool true, .int .i64 62999856000, .int .i64 0, .int .i64 0, .int .i64 3, .bool false, .int .i64 0, .slice a8 n8 c8, .slice a9 n9 c9, .slice a10 n10 c10, .slice a11 n11 c11, .slice a12 n12 c12, .slice a13 n13 c13, .slice a14 n14 c14, .slice a15 n15 c15, .slice a16 n16 c16, .slice a17 n17 c17]) (w := w) (v1 := .agg #[.int .u8 3, .bool true, .int .i64 62999856000, .int .i64 0, .int .i64 0, .int .i64 3, .bool false, .int .i64 0, .slice none 0 0, .slice none 0 0, .slice none 0 0, .slice none 0 0, .slice none 0 0, .slice none 0 0, .slice none 0 0, .slice none 0 0, .slice none 0 0, .slice none 0 0]) (by with_reducible first | assumption | exact kw_drew ⟨hc1, hc3, ⟨hl1, hl3⟩, hkw⟩)) (by decide)).mono ?_; rintro e w7 ⟨v7, rfl, hv7, hb7⟩; have hKc := kw_call (by with_reducible first | assumption | exact kw_drew ⟨hc1, hc3, ⟨hl1, hl3⟩, hkw⟩) hb7)
      | (go_at_call 22; refine (same_any rule0 _ _ _ hv7 (kw_r1 (B1 := w.heap.size) (B3 := B3) (L1 := [.int .u8 3, .bool true, .int .i64 62999856000, .int .i64 0, .int .i64 0, .int .i64 3, .bool false, .int .i64 0, .slice none 0 0, .slice none 0 0, .slice none 0 0, .slice none 0 0, .slice none 0 0, .slice none 0 0, .slice none 0 0, .slice none 0 0, .slice none 0 0, .slice none 0 0]) (L3 := [.int .u8 3, .bool true, .int .i64 62999856000, .int .i64 0, .int .i64 0, .int .i64 3, .bool false, .int .i64 0, .slice a8 n8 c8, .slice a9 n9 c9, .slice a10 n10 c10, .slice a11 n11 c11, .slice a12 n12 c12, .slice a13 n13 c13, .slice a14 n14 c14, .slice a15 n15 c15, .slice a16 n16 c16, .slice a17 n17 c17]) (w := w) (v3 := .agg #[.int .u8 3, .bool true, .int .i64 62999856000, .int .i64 0, .int .i64 0, .int .i64 3, .bool false, .int .i64 0, .slice a8 n8 c8, .slice a9 n9 c9, .slice a10 n10 c10, .slice a11 n11 c11, .slice a12 n12 c12, .slice a13 n13 c13, .slice a14 n14 c14, .slice a15 n15 c15, .slice a16 n16 c16, .slice a17 n17 c17]) (by with_reducible assumption)) (by decide)).mono ?_; rintro e w8 ⟨rfl, hb8⟩; have hKd := kw_call (by with_reducible assumption) hb8))
    all_goals
      go_wp2
      go_ret
      exact ⟨rfl, hKd.2.2.2.hb⟩
end Go.Proofs.YtcfbkkcamiephaaGreatDoor
