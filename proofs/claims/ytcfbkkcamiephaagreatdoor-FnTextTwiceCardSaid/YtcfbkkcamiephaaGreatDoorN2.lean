import Derived.Test.YtcfbkkcamiephaaGreatDoorN1
import Derived.Test.YtcfbkkcamiephaaGreatDoorU1
import Derived.Test.YtcfbkkcamiephaaGreatDoorT4
import Derived.Test.YtcfbkkcamiephaaGreatDoorS1
import Derived.LoopN
namespace Go.Proofs.YtcfbkkcamiephaaGreatDoor
open Go.RowKit

/-! ### (*Rule).part -/
theorem RuleMem.cell {w : World} {N : Nat} {r : RuleD} (h : RuleMem w N r) (i : Nat) (hi : i < 18) : (∃ y, w.cell? ⟨N, i, none⟩ = some y) ∧ w.frozen? ⟨N, i, none⟩ = false := by
  obtain ⟨v8, v9, v10, v11, v12, v13, v14, v15, v16, v17, h⟩ := h
  exact ⟨⟨_, h.row.cell i (List.getElem?_eq_getElem (by simp [ruleCells]; omega))⟩, h.row.frozen i⟩
def PartPost (N : Nat) (W : World) (o : Out RuleD) (e : Ending) (w' : World) : Prop := But N W w' ∧ N < w'.heap.size ∧ match o with
  | .right r => e = .returned (.int .u8 0) ∧ RuleMem w' N r
  | .wrong => e = .returned (.int .u8 1)
  | .opn => e = .returned (.int .u8 2)
theorem part_right {N : Nat} {W w' : World} {o : Out RuleD} {e : Ending} {r : RuleD} (h : o = .right r) (he : e = .returned (.int .u8 0)) (hb : But N W w') (hm : RuleMem w' N r) : PartPost N W o e w' := by
  subst h; exact ⟨hb, hm.lt, he, hm⟩
theorem part_wrong {N : Nat} {W w' : World} {o : Out RuleD} {e : Ending} (h : o = .wrong) (he : e = .returned (.int .u8 1)) (hb : But N W w') (hl : N < w'.heap.size) : PartPost N W o e w' := by
  subst h; exact ⟨hb, hl, he⟩
theorem part_opn {N : Nat} {W w' : World} {o : Out RuleD} {e : Ending} (h : o = .opn) (he : e = .returned (.int .u8 2)) (hb : But N W w') (hl : N < w'.heap.size) : PartPost N W o e w' := by
  subst h; exact ⟨hb, hl, he⟩
set_option maxRecDepth 100000 in
set_option maxHeartbeats 800000 in
theorem told_t (w : World) : Calls Tryz.prog 88 #[.bool true] w fun e w' => e = .returned (.int .u8 0) ∧ w = w' := by
  go_enter Tryz.func88, Tryz.ntmps88
  go_wp2
  go_ret
  exact ⟨rfl, rfl⟩
set_option maxRecDepth 100000 in
set_option maxHeartbeats 800000 in
theorem told_f (w : World) : Calls Tryz.prog 88 #[.bool false] w fun e w' => e = .returned (.int .u8 1) ∧ w = w' := by
  go_enter Tryz.func88, Tryz.ntmps88
  go_wp2
  go_ret
  exact ⟨rfl, rfl⟩
theorem partS3 (V : List UInt8) (r : RuleD) : partS 3 V r = match dayT V with
  | none => .wrong
  | some (d, n) => if n = 0 then .right { r with wk := d } else .opn := rfl
theorem But.ofB {N : Nat} {a w : World} (h : Below a.heap.size a w) : But N a w := .of h
theorem freqS_t {V : List UInt8} {x : Int} (h : freqT V = some x) (W : World) (hF : Freqs W) : Calls Tryz.prog 44 #[.string (mkS V)] W fun e w' => e = .returned (.tuple #[.int .u8 x, .bool true]) ∧ Below W.heap.size W w' :=
  (freqOfS_any V W hF).mono fun e w' ⟨h1, h2⟩ => by rw [h] at h2; exact ⟨h2, h1⟩
theorem freqS_f {V : List UInt8} (h : freqT V = none) (W : World) (hF : Freqs W) : Calls Tryz.prog 44 #[.string (mkS V)] W fun e w' => e = .returned (.tuple #[.int .u8 0, .bool false]) ∧ Below W.heap.size W w' :=
  (freqOfS_any V W hF).mono fun e w' ⟨h1, h2⟩ => by rw [h] at h2; exact ⟨h2, h1⟩
theorem intS_t {V : List UInt8} {x : Int} (h : atoiO V = some x) (W : World) (hl : V.length ≤ 1000000000) : Calls Tryz.prog 89 #[.string (mkS V)] W fun e w' => e = .returned (.tuple #[.int .i64 x, .bool true]) ∧ Below W.heap.size W w' :=
  (intS_any V W hl).mono fun e w' ⟨h1, h2⟩ => by rw [intS_eq, h] at h1; subst h2; exact ⟨h1, Below.refl _ _⟩
theorem intS_f {V : List UInt8} (h : atoiO V = none) (W : World) (hl : V.length ≤ 1000000000) : Calls Tryz.prog 89 #[.string (mkS V)] W fun e w' => e = .returned (.tuple #[.int .i64 0, .bool false]) ∧ Below W.heap.size W w' :=
  (intS_any V W hl).mono fun e w' ⟨h1, h2⟩ => by rw [intS_eq, h] at h1; subst h2; exact ⟨h1, Below.refl _ _⟩
theorem mom_r {V : List UInt8} {n : Int} (h : momS V = .right n) (W : World) (hl : V.length ≤ 1000000000) : Calls Tryz.prog 76 #[.string (mkS V)] W fun e w' => e = .returned (.tuple #[.int .i64 n, .int .u8 0]) ∧ Below W.heap.size W w' :=
  (moment_any V W hl).mono fun e w' ⟨h1, h2⟩ => by rw [h] at h1; subst h2; exact ⟨h1, Below.refl _ _⟩
theorem mom_w {V : List UInt8} (h : momS V = .wrong) (W : World) (hl : V.length ≤ 1000000000) : Calls Tryz.prog 76 #[.string (mkS V)] W fun e w' => e = .returned (.tuple #[.int .i64 0, .int .u8 1]) ∧ Below W.heap.size W w' :=
  (moment_any V W hl).mono fun e w' ⟨h1, h2⟩ => by rw [h] at h1; subst h2; exact ⟨h1, Below.refl _ _⟩
theorem mom_o {V : List UInt8} (h : momS V = .opn) (W : World) (hl : V.length ≤ 1000000000) : Calls Tryz.prog 76 #[.string (mkS V)] W fun e w' => e = .returned (.tuple #[.int .i64 0, .int .u8 2]) ∧ Below W.heap.size W w' :=
  (moment_any V W hl).mono fun e w' ⟨h1, h2⟩ => by rw [h] at h1; subst h2; exact ⟨h1, Below.refl _ _⟩

set_option maxRecDepth 100000 in
set_option maxHeartbeats 6400000 in
theorem part_fq (V : List UInt8) (r : RuleD) (N : Nat) (W : World) (hF : Freqs W) (hm : RuleMem W N r) (hl : V.length ≤ 1000000000) :
    Calls Tryz.prog 58 #[.pointer (some ⟨N, 0, none⟩), .string (mkS (keyNm 0)), .string (mkS V)] W (PartPost N W (partS 0 V r)) := by
  have tl : (mkS (keyNm 0)).toList = [70, 82, 69, 81] := toList_mkS _
  have HM := Lib.hid hm
  have HL := Lib.hid hl
  cases hA : freqT V with
  | none =>
    have HC := Lib.hid (freqS_f hA W hF)
    have HR : Hid (partS 0 V r = .wrong) := Lib.hid (by show ofO ((freqT V).map _) = _; rw [hA]; rfl)
    have HT := Lib.hid told_f
    clear hA hm hl
    go_enter Tryz.func58, Tryz.ntmps58
    go_wp2_with (first
      | (go_at_call 44; go_must (refine HC.out.mono ?_; rintro e w1 ⟨rfl, hb1⟩; have hm1 := HM.out.below hb1; obtain ⟨⟨y1, hy1⟩, hf1⟩ := hm1.cell 0 (by omega)))
      | (go_at_call 88; go_must (refine (HT.out _).mono ?_; rintro e w2 ⟨rfl, rfl⟩))
      | (fail))
    go_ret
    exact part_wrong HR.out rfl ((But.of hb1).set 0 _) (hm1.set_fq 0).lt
  | some x =>
    have HC := Lib.hid (freqS_t hA W hF)
    have HR : Hid (partS 0 V r = .right { r with fq := x }) := Lib.hid (by show ofO ((freqT V).map _) = _; rw [hA]; rfl)
    have HT := Lib.hid told_t
    clear hA hm hl
    go_enter Tryz.func58, Tryz.ntmps58
    go_wp2_with (first
      | (go_at_call 44; go_must (refine HC.out.mono ?_; rintro e w1 ⟨rfl, hb1⟩; have hm1 := HM.out.below hb1; obtain ⟨⟨y1, hy1⟩, hf1⟩ := hm1.cell 0 (by omega)))
      | (go_at_call 88; go_must (refine (HT.out _).mono ?_; rintro e w2 ⟨rfl, rfl⟩))
      | (fail))
    go_ret
    exact part_right HR.out rfl ((But.of hb1).set 0 _) (hm1.set_fq x)

set_option maxRecDepth 100000 in
set_option maxHeartbeats 6400000 in
theorem part_iv (V : List UInt8) (r : RuleD) (N : Nat) (W : World) (hm : RuleMem W N r) (hl : V.length ≤ 1000000000) :
    Calls Tryz.prog 58 #[.pointer (some ⟨N, 0, none⟩), .string (mkS (keyNm 2)), .string (mkS V)] W (PartPost N W (partS 2 V r)) := by
  have tl : (mkS (keyNm 2)).toList = [73, 78, 84, 69, 82, 86, 65, 76] := toList_mkS _
  have HM := Lib.hid hm
  have HL := Lib.hid hl
  cases hA : atoiO V with
  | none =>
    have HC := Lib.hid (intS_f hA W hl)
    have HR : Hid (partS 2 V r = .wrong) := Lib.hid (by show ofO ((atoiO V).map _) = _; rw [hA]; rfl)
    have HT := Lib.hid told_f
    clear hA hm hl
    go_enter Tryz.func58, Tryz.ntmps58
    go_wp2_with (first
      | (go_at_call 89; go_must (refine HC.out.mono ?_; rintro e w1 ⟨rfl, hb1⟩; have hm1 := HM.out.below hb1; obtain ⟨⟨y1, hy1⟩, hf1⟩ := hm1.cell 3 (by omega)))
      | (go_at_call 88; go_must (refine (HT.out _).mono ?_; rintro e w2 ⟨rfl, rfl⟩))
      | (fail))
    go_ret
    exact part_wrong HR.out rfl ((But.of hb1).set 3 _) (hm1.set_iv 0).lt
  | some x =>
    have HC := Lib.hid (intS_t hA W hl)
    have HR : Hid (partS 2 V r = .right { r with iv := x }) := Lib.hid (by show ofO ((atoiO V).map _) = _; rw [hA]; rfl)
    have HT := Lib.hid told_t
    clear hA hm hl
    go_enter Tryz.func58, Tryz.ntmps58
    go_wp2_with (first
      | (go_at_call 89; go_must (refine HC.out.mono ?_; rintro e w1 ⟨rfl, hb1⟩; have hm1 := HM.out.below hb1; obtain ⟨⟨y1, hy1⟩, hf1⟩ := hm1.cell 3 (by omega)))
      | (go_at_call 88; go_must (refine (HT.out _).mono ?_; rintro e w2 ⟨rfl, rfl⟩))
      | (fail))
    go_ret
    exact part_right HR.out rfl ((But.of hb1).set 3 _) (hm1.set_iv x)

set_option maxRecDepth 100000 in
set_option maxHeartbeats 6400000 in
theorem part_ct (V : List UInt8) (r : RuleD) (N : Nat) (W : World) (hm : RuleMem W N r) (hl : V.length ≤ 1000000000) :
    Calls Tryz.prog 58 #[.pointer (some ⟨N, 0, none⟩), .string (mkS (keyNm 4)), .string (mkS V)] W (PartPost N W (partS 4 V r)) := by
  have tl : (mkS (keyNm 4)).toList = [67, 79, 85, 78, 84] := toList_mkS _
  have HM := Lib.hid hm
  have HL := Lib.hid hl
  cases hA : atoiO V with
  | none =>
    have HC := Lib.hid (intS_f hA W hl)
    have HR : Hid (partS 4 V r = .wrong) := Lib.hid (by show ofO ((atoiO V).map _) = _; rw [hA]; rfl)
    have HT := Lib.hid told_f
    clear hA hm hl
    go_enter Tryz.func58, Tryz.ntmps58
    go_wp2_with (first
      | (go_at_call 89; go_must (refine HC.out.mono ?_; rintro e w1 ⟨rfl, hb1⟩; have hm1 := HM.out.below hb1; obtain ⟨⟨y1, hy1⟩, hf1⟩ := hm1.cell 5 (by omega)))
      | (go_at_call 88; go_must (refine (HT.out _).mono ?_; rintro e w2 ⟨rfl, rfl⟩))
      | (fail))
    go_ret
    exact part_wrong HR.out rfl ((But.of hb1).set 5 _) (hm1.set_ct 0).lt
  | some x =>
    have HC := Lib.hid (intS_t hA W hl)
    have HR : Hid (partS 4 V r = .right { r with ct := x }) := Lib.hid (by show ofO ((atoiO V).map _) = _; rw [hA]; rfl)
    have HT := Lib.hid told_t
    clear hA hm hl
    go_enter Tryz.func58, Tryz.ntmps58
    go_wp2_with (first
      | (go_at_call 89; go_must (refine HC.out.mono ?_; rintro e w1 ⟨rfl, hb1⟩; have hm1 := HM.out.below hb1; obtain ⟨⟨y1, hy1⟩, hf1⟩ := hm1.cell 5 (by omega)))
      | (go_at_call 88; go_must (refine (HT.out _).mono ?_; rintro e w2 ⟨rfl, rfl⟩))
      | (fail))
    go_ret
    exact part_right HR.out rfl ((But.of hb1).set 5 _) (hm1.set_ct x)

set_option maxRecDepth 100000 in
set_option maxHeartbeats 6400000 in
theorem part_st (V : List UInt8) (r : RuleD) (N : Nat) (W : World) (hm : RuleMem W N r) (hl : V.length ≤ 1000000000) :
    Calls Tryz.prog 58 #[.pointer (some ⟨N, 0, none⟩), .string (mkS (keyNm 1)), .string (mkS V)] W (PartPost N W (partS 1 V r)) := by
  have tl : (mkS (keyNm 1)).toList = [68, 84, 83, 84, 65, 82, 84] := toList_mkS _
  have HM := Lib.hid hm
  have HL := Lib.hid hl
  cases hA : momS V with
  | right n =>
    have HC := Lib.hid (mom_r hA W hl)
    have HR : Hid (partS 1 V r = .right { r with st := n, hs := n != 0 }) := Lib.hid (by show momR V _ = _; unfold momR; rw [hA])
    clear hA hm hl
    go_enter Tryz.func58, Tryz.ntmps58
    go_wp2_with (first
      | (go_at_call 76; go_must (refine HC.out.mono ?_; rintro e w1 ⟨rfl, hb1⟩; have hm1 := HM.out.below hb1; obtain ⟨⟨y1, hy1⟩, hf1⟩ := hm1.cell 2 (by omega); obtain ⟨⟨y2, hy2⟩, hf2⟩ := hm1.cell 1 (by omega)))
      | (fail))
    go_ret
    exact part_right HR.out rfl (((But.of hb1).set 2 _).set 1 _) (hm1.set_st n _)
  | wrong =>
    have HC := Lib.hid (mom_w hA W hl)
    have HR : Hid (partS 1 V r = .wrong) := Lib.hid (by show momR V _ = _; unfold momR; rw [hA])
    clear hA hm hl
    go_enter Tryz.func58, Tryz.ntmps58
    go_wp2_with (first
      | (go_at_call 76; go_must (refine HC.out.mono ?_; rintro e w1 ⟨rfl, hb1⟩; have hm1 := HM.out.below hb1; obtain ⟨⟨y1, hy1⟩, hf1⟩ := hm1.cell 2 (by omega); obtain ⟨⟨y2, hy2⟩, hf2⟩ := hm1.cell 1 (by omega)))
      | (fail))
    go_ret
    exact part_wrong HR.out rfl (((But.of hb1).set 2 _).set 1 _) (hm1.set_st 0 false).lt
  | opn =>
    have HC := Lib.hid (mom_o hA W hl)
    have HR : Hid (partS 1 V r = .opn) := Lib.hid (by show momR V _ = _; unfold momR; rw [hA])
    clear hA hm hl
    go_enter Tryz.func58, Tryz.ntmps58
    go_wp2_with (first
      | (go_at_call 76; go_must (refine HC.out.mono ?_; rintro e w1 ⟨rfl, hb1⟩; have hm1 := HM.out.below hb1; obtain ⟨⟨y1, hy1⟩, hf1⟩ := hm1.cell 2 (by omega); obtain ⟨⟨y2, hy2⟩, hf2⟩ := hm1.cell 1 (by omega)))
      | (fail))
    go_ret
    exact part_opn HR.out rfl (((But.of hb1).set 2 _).set 1 _) (hm1.set_st 0 false).lt

set_option maxRecDepth 100000 in
set_option maxHeartbeats 6400000 in
theorem part_un (V : List UInt8) (r : RuleD) (N : Nat) (W : World) (hm : RuleMem W N r) (hl : V.length ≤ 1000000000) :
    Calls Tryz.prog 58 #[.pointer (some ⟨N, 0, none⟩), .string (mkS (keyNm 5)), .string (mkS V)] W (PartPost N W (partS 5 V r)) := by
  have tl : (mkS (keyNm 5)).toList = [85, 78, 84, 73, 76] := toList_mkS _
  have HM := Lib.hid hm
  have HL := Lib.hid hl
  cases hA : momS V with
  | right n =>
    have HC := Lib.hid (mom_r hA W hl)
    have HR : Hid (partS 5 V r = .right { r with un := n, hu := n != 0 }) := Lib.hid (by show momR V _ = _; unfold momR; rw [hA])
    clear hA hm hl
    go_enter Tryz.func58, Tryz.ntmps58
    go_wp2_with (first
      | (go_at_call 76; go_must (refine HC.out.mono ?_; rintro e w1 ⟨rfl, hb1⟩; have hm1 := HM.out.below hb1; obtain ⟨⟨y1, hy1⟩, hf1⟩ := hm1.cell 7 (by omega); obtain ⟨⟨y2, hy2⟩, hf2⟩ := hm1.cell 6 (by omega)))
      | (fail))
    go_ret
    exact part_right HR.out rfl (((But.of hb1).set 7 _).set 6 _) (hm1.set_un n _)
  | wrong =>
    have HC := Lib.hid (mom_w hA W hl)
    have HR : Hid (partS 5 V r = .wrong) := Lib.hid (by show momR V _ = _; unfold momR; rw [hA])
    clear hA hm hl
    go_enter Tryz.func58, Tryz.ntmps58
    go_wp2_with (first
      | (go_at_call 76; go_must (refine HC.out.mono ?_; rintro e w1 ⟨rfl, hb1⟩; have hm1 := HM.out.below hb1; obtain ⟨⟨y1, hy1⟩, hf1⟩ := hm1.cell 7 (by omega); obtain ⟨⟨y2, hy2⟩, hf2⟩ := hm1.cell 6 (by omega)))
      | (fail))
    go_ret
    exact part_wrong HR.out rfl (((But.of hb1).set 7 _).set 6 _) (hm1.set_un 0 false).lt
  | opn =>
    have HC := Lib.hid (mom_o hA W hl)
    have HR : Hid (partS 5 V r = .opn) := Lib.hid (by show momR V _ = _; unfold momR; rw [hA])
    clear hA hm hl
    go_enter Tryz.func58, Tryz.ntmps58
    go_wp2_with (first
      | (go_at_call 76; go_must (refine HC.out.mono ?_; rintro e w1 ⟨rfl, hb1⟩; have hm1 := HM.out.below hb1; obtain ⟨⟨y1, hy1⟩, hf1⟩ := hm1.cell 7 (by omega); obtain ⟨⟨y2, hy2⟩, hf2⟩ := hm1.cell 6 (by omega)))
      | (fail))
    go_ret
    exact part_opn HR.out rfl (((But.of hb1).set 7 _).set 6 _) (hm1.set_un 0 false).lt

set_option maxRecDepth 100000 in
set_option maxHeartbeats 6400000 in
theorem part_wk (V : List UInt8) (r : RuleD) (N : Nat) (W : World) (hD : DayNms W) (hm : RuleMem W N r) (hl : V.length ≤ 1000000000) :
    Calls Tryz.prog 58 #[.pointer (some ⟨N, 0, none⟩), .string (mkS (keyNm 3)), .string (mkS V)] W (PartPost N W (partS 3 V r)) := by
  have tl : (mkS (keyNm 3)).toList = [87, 75, 83, 84] := toList_mkS _
  have HM := Lib.hid hm
  have HL := Lib.hid hl
  cases hA : dayT V with
  | none =>
    have HC := Lib.hid (dayS_none V W hD hl hA)
    have HR : Hid (partS 3 V r = .wrong) := Lib.hid (by rw [partS3, hA])
    have HT := Lib.hid told_f
    clear hA hm hl
    go_enter Tryz.func58, Tryz.ntmps58
    go_wp2_with (first
      | (go_at_call 90; go_must (refine HC.out.mono ?_; rintro e w1 ⟨d, n, rfl, hb1⟩; have hal : Below w1.heap.size w1 (w1.alloc (.cells #[.int .i64 d, .int .i64 n] 59)) := (Below.refl _ _).alloc (Nat.le_refl _) _; have hm1 := (HM.out.below hb1).below hal; obtain ⟨⟨y1, hy1⟩, hf1⟩ := hm1.cell 4 (by omega)))
      | (go_at_call 88; go_must (refine (HT.out _).mono ?_; rintro e w2 ⟨rfl, rfl⟩))
      | (fail))
    go_ret
    exact part_wrong HR.out rfl (((But.of hb1).trans (But.of hal)).set 4 _) (hm1.set_wk d).lt
  | some q =>
    obtain ⟨d, n⟩ := q
    have HC := Lib.hid (dayS_some V W hD hl d n hA)
    by_cases hn : n = 0
    · subst hn
      have HR : Hid (partS 3 V r = .right { r with wk := d }) := Lib.hid (by rw [partS3, hA]; rfl)
      have HT := Lib.hid told_t
      clear hA hm hl
      go_enter Tryz.func58, Tryz.ntmps58
      go_wp2_with (first
        | (go_at_call 90; go_must (refine HC.out.mono ?_; rintro e w1 ⟨rfl, hb1⟩; have hal : Below w1.heap.size w1 (w1.alloc (.cells #[.int .i64 d, .int .i64 0] 59)) := (Below.refl _ _).alloc (Nat.le_refl _) _; have hm1 := (HM.out.below hb1).below hal; obtain ⟨⟨y1, hy1⟩, hf1⟩ := hm1.cell 4 (by omega)))
        | (go_at_call 88; go_must (refine (HT.out _).mono ?_; rintro e w2 ⟨rfl, rfl⟩))
        | (fail))
      go_ret
      exact part_right HR.out rfl (((But.of hb1).trans (But.of hal)).set 4 _) (hm1.set_wk d)
    · have HR : Hid (partS 3 V r = .opn) := Lib.hid (by rw [partS3, hA]; exact if_neg hn)
      have d1 : (n != 0) = true := by simp [hn]
      have d2 : (n == 0) = false := by simp [hn]
      clear hA hm hl hn
      go_enter Tryz.func58, Tryz.ntmps58
      go_wp2_with (first
        | (go_at_call 90; go_must (refine HC.out.mono ?_; rintro e w1 ⟨rfl, hb1⟩; have hal : Below w1.heap.size w1 (w1.alloc (.cells #[.int .i64 d, .int .i64 n] 59)) := (Below.refl _ _).alloc (Nat.le_refl _) _; have hm1 := (HM.out.below hb1).below hal))
        | (fail))
      go_ret
      exact part_opn HR.out rfl ((But.of hb1).trans (But.of hal)) hm1.lt

theorem intsS_t {V : List UInt8} {zs : List Int} (h : intsT V = some zs) (W : World) (hl : V.length ≤ 1000000000) : Calls Tryz.prog 91 #[.string (mkS V)] W fun e w' => ∃ v, e = .returned (.tuple #[v, .bool true]) ∧ w'.ownsRow W.heap.size 3 1 v zs.length (zs.map intV) ∧ Below W.heap.size W w' :=
  (intsS_any V W hl).mono fun e w' ⟨h1, h2⟩ => by rw [h] at h2; obtain ⟨v, h2, h3⟩ := h2; exact ⟨v, h2, h3, h1⟩
theorem intsS_f {V : List UInt8} (h : intsT V = none) (W : World) (hl : V.length ≤ 1000000000) : Calls Tryz.prog 91 #[.string (mkS V)] W fun e w' => e = .returned (.tuple #[.slice none 0 0, .bool false]) ∧ Below W.heap.size W w' :=
  (intsS_any V W hl).mono fun e w' ⟨h1, h2⟩ => by rw [h] at h2; exact ⟨h2, h1⟩
theorem own1_form {w : World} {base : Nat} {v : Value} {n : Nat} {xs : List Value} (h : w.ownsRow base 3 1 v n xs) : ∃ a c, v = .slice a n c := by
  rcases h.2 with ⟨hv, h0⟩ | ⟨g, cap, cur, hv, _⟩
  · subst h0; exact ⟨_, _, hv⟩
  · exact ⟨_, _, hv⟩

def jP : Nat → Nat
  | 0 => 6
  | 1 => 7
  | 2 => 8
  | 3 => 9
  | 4 => 10
  | 5 => 12
  | 6 => 13
  | 7 => 14
  | _ => 15
def offP : Nat → Nat
  | 0 => 8
  | 1 => 9
  | 2 => 10
  | 3 => 11
  | 4 => 12
  | 5 => 14
  | 6 => 15
  | 7 => 16
  | _ => 17
def setI : Nat → RuleD → List Int → RuleD
  | 0, r, zs => { r with sp := zs }
  | 1, r, zs => { r with mo := zs }
  | 2, r, zs => { r with md := zs }
  | 3, r, zs => { r with yd := zs }
  | 4, r, zs => { r with wn := zs }
  | 5, r, zs => { r with ho := zs }
  | 6, r, zs => { r with mi := zs }
  | 7, r, zs => { r with se := zs }
  | _, r, zs => { r with ea := zs }
theorem ix138 (k : Nat) (hk : k < 9) (W : World) : (Instr.index 138 (.agg #[.string ⟨#[66, 89, 83, 69, 84, 80, 79, 83]⟩, .string ⟨#[66, 89, 77, 79, 78, 84, 72]⟩, .string ⟨#[66, 89, 77, 79, 78, 84, 72, 68, 65, 89]⟩, .string ⟨#[66, 89, 89, 69, 65, 82, 68, 65, 89]⟩, .string ⟨#[66, 89, 87, 69, 69, 75, 78, 79]⟩, .string ⟨#[66, 89, 72, 79, 85, 82]⟩, .string ⟨#[66, 89, 77, 73, 78, 85, 84, 69]⟩, .string ⟨#[66, 89, 83, 69, 67, 79, 78, 68]⟩, .string ⟨#[66, 89, 69, 65, 83, 84, 69, 82]⟩]) (.int .i64 k)).run Tryz.prog W = .ok (.string (mkS (keyNm (jP k)))) W := by
  rcases (show k = 0 ∨ k = 1 ∨ k = 2 ∨ k = 3 ∨ k = 4 ∨ k = 5 ∨ k = 6 ∨ k = 7 ∨ k = 8 by omega) with rfl | rfl | rfl | rfl | rfl | rfl | rfl | rfl | rfl <;> kernel_rfl
theorem ix140 (N k : Nat) (hk : k < 9) (W : World) : (Instr.index 140 (.agg #[.pointer (some ⟨N, 8, none⟩), .pointer (some ⟨N, 9, none⟩), .pointer (some ⟨N, 10, none⟩), .pointer (some ⟨N, 11, none⟩), .pointer (some ⟨N, 12, none⟩), .pointer (some ⟨N, 14, none⟩), .pointer (some ⟨N, 15, none⟩), .pointer (some ⟨N, 16, none⟩), .pointer (some ⟨N, 17, none⟩)]) (.int .i64 k)).run Tryz.prog W = .ok (.pointer (some ⟨N, offP k, none⟩)) W := by
  rcases (show k = 0 ∨ k = 1 ∨ k = 2 ∨ k = 3 ∨ k = 4 ∨ k = 5 ∨ k = 6 ∨ k = 7 ∨ k = 8 by omega) with rfl | rfl | rfl | rfl | rfl | rfl | rfl | rfl | rfl <;> kernel_rfl
theorem key_ne (a b : Nat) (ha : a < 9) (hb : b < 9) (h : a ≠ b) : (keyNm (jP a) == keyNm (jP b)) = false := by
  have : ∀ a b : Fin 9, a ≠ b → (keyNm (jP a.1) == keyNm (jP b.1)) = false := by decide +kernel
  exact this ⟨a, ha⟩ ⟨b, hb⟩ (fun e => h (by simpa using e))
theorem partS_ints (k : Nat) (hk : k < 9) (V : List UInt8) (r : RuleD) : partS (jP k) V r = ofO ((intsT V).map fun zs => setI k r zs) := by
  match k, hk with
  | 0, _ => rfl
  | 1, _ => rfl
  | 2, _ => rfl
  | 3, _ => rfl
  | 4, _ => rfl
  | 5, _ => rfl
  | 6, _ => rfl
  | 7, _ => rfl
  | 8, _ => rfl

theorem RuleMem.set_I {w : World} {N : Nat} {r : RuleD} (h : RuleMem w N r) (k : Nat) (hk : k < 9) {x : Value} {zs : List Int} (hx : IntsN w N x zs) : RuleMem (w.setCell ⟨N, offP k, none⟩ x) N (setI k r zs) := by
  match k, hk with
  | 0, _ => exact h.set_sp hx
  | 1, _ => exact h.set_mo hx
  | 2, _ => exact h.set_md hx
  | 3, _ => exact h.set_yd hx
  | 4, _ => exact h.set_wn hx
  | 5, _ => exact h.set_ho hx
  | 6, _ => exact h.set_mi hx
  | 7, _ => exact h.set_se hx
  | 8, _ => exact h.set_ea hx

theorem offP_lt (k : Nat) (hk : k < 9) : offP k < 18 := by
  have : ∀ a : Fin 9, offP a.1 < 18 := by decide
  exact this ⟨k, hk⟩
theorem key_first (k : Nat) (hk : k < 9) : (keyNm (jP k) == [70, 82, 69, 81]) = false ∧ (keyNm (jP k) == [68, 84, 83, 84, 65, 82, 84]) = false ∧ (keyNm (jP k) == [85, 78, 84, 73, 76]) = false ∧ (keyNm (jP k) == [73, 78, 84, 69, 82, 86, 65, 76]) = false ∧ (keyNm (jP k) == [67, 79, 85, 78, 84]) = false ∧ (keyNm (jP k) == [87, 75, 83, 84]) = false ∧ (keyNm (jP k) == [66, 89, 68, 65, 89]) = false := by
  have : ∀ a : Fin 9, (keyNm (jP a.1) == [70, 82, 69, 81]) = false ∧ (keyNm (jP a.1) == [68, 84, 83, 84, 65, 82, 84]) = false ∧ (keyNm (jP a.1) == [85, 78, 84, 73, 76]) = false ∧ (keyNm (jP a.1) == [73, 78, 84, 69, 82, 86, 65, 76]) = false ∧ (keyNm (jP a.1) == [67, 79, 85, 78, 84]) = false ∧ (keyNm (jP a.1) == [87, 75, 83, 84]) = false ∧ (keyNm (jP a.1) == [66, 89, 68, 65, 89]) = false := by decide +kernel
  exact this ⟨k, hk⟩
set_option maxRecDepth 100000 in
set_option maxHeartbeats 6400000 in
theorem part_ints (q : Nat) (hq : q < 9) (V : List UInt8) (r : RuleD) (N : Nat) (W : World) (hm : RuleMem W N r) (hl : V.length ≤ 1000000000) :
    Calls Tryz.prog 58 #[.pointer (some ⟨N, 0, none⟩), .string (mkS (keyNm (jP q))), .string (mkS V)] W (PartPost N W (partS (jP q) V r)) := by
  have HM := Lib.hid hm
  have HX : Hid (∀ k, k < q → (keyNm (jP q) == keyNm (jP k)) = false) := Lib.hid (fun k hk => key_ne q k hq (by omega) (by omega))
  have HI : Hid (∀ k, k < 9 → ∀ W, _) := Lib.hid ix138
  have hip := fun W => ix140 N q hq W
  have HO : Hid (offP q < 18) := Lib.hid (offP_lt q hq)
  have HP : Hid (partS (jP q) V r = ofO ((intsT V).map fun zs => setI q r zs)) := Lib.hid (partS_ints q hq V r)
  have HS : Hid (∀ (w : World) (h : RuleMem w N r) (x : Value) (zs : List Int), IntsN w N x zs → RuleMem (w.setCell ⟨N, offP q, none⟩ x) N (setI q r zs)) := Lib.hid (fun w h x zs hx => h.set_I q hq hx)
  obtain ⟨f0, f1, f2, f3, f4, f5, f6⟩ := key_first q hq
  have HL := Lib.hid hl
  clear hm hl
  generalize offP q = O at *
  generalize hK : keyNm (jP q) = K at *
  generalize partS (jP q) V r = PR at *
  have HK := Lib.hid hK
  clear hK
  have zl := toList_mkS K
  have q0 : (0 : Int) ≤ (q : Int) := Int.natCast_nonneg _
  have q9 : (q : Int) < 9 := by omega
  go_enter Tryz.func58, Tryz.ntmps58
  go_wp2
  go_loop [148] (fun i => ∃ k : Nat, k ≤ q ∧ i = .int .i64 k) (fun i => 9 - (intOf i).toNat)
  case atStart => exact ⟨0, by omega, rfl⟩
  case round =>
    obtain ⟨k, hk, rfl⟩ := hrel
    by_cases hlt : k < q
    · have hix := fun W => HI.out k (by omega) W
      have hne := HX.out k hlt
      have zk := toList_mkS (keyNm (jP k))
      have k0 : (0 : Int) ≤ (k : Int) := Int.natCast_nonneg _
      have k9 : (k : Int) < 9 := by omega
      generalize keyNm (jP k) = Kk at hix hne zk
      go_wp2
      go_round
      case rel => exact ⟨k + 1, by omega, by go_num⟩
      case measure => simp [intOf]; omega
    · obtain rfl : k = q := by omega
      have hix := fun W => HI.out k (by omega) W
      rw [HK.out] at hix
      have hee : (K == K) = true := beq_self_eq_true _
      go_upto_region 42 with fail
      refine wp_region_table (β := Unit) (fun _ => #[.pointer (some ⟨N, 0, none⟩), .string (mkS K), .string (mkS V), undef, undef, undef, u6, .func (.func 88) #[] #[], u8, undef, undef, undef, undef, undef, undef, undef, undef, undef, undef, .int .i64 k, .string (mkS K), .pointer (some ⟨N, O, none⟩), .string (mkS K), .bool false, .bool false, undef, undef, undef, undef, undef, undef, undef, undef, undef, undef, undef, .bool false, .bool false, undef, undef, undef, undef, undef, undef, undef, undef, undef, undef, undef, undef, undef, undef, undef, .bool false, .bool false, undef, undef, undef, undef, undef, undef, undef, undef, undef, undef, undef, undef, undef, undef, undef, .bool false, .bool false, undef, undef, undef, undef, undef, undef, undef, undef, undef, undef, undef, .bool false, .bool false, undef, undef, undef, undef, undef, undef, undef, undef, undef, undef, undef, .bool false, .bool false, undef, undef, undef, undef, undef, undef, undef, undef, undef, undef, undef, undef, undef, undef, undef, undef, undef, undef, undef, .bool false, .bool false, undef, undef, undef, undef, undef, undef, undef, undef, undef, undef, undef, undef, undef, undef, undef, undef, undef, undef, undef, undef, undef, undef, undef, undef, undef, undef, undef, undef, .agg #[.string ⟨#[66, 89, 83, 69, 84, 80, 79, 83]⟩, .string ⟨#[66, 89, 77, 79, 78, 84, 72]⟩, .string ⟨#[66, 89, 77, 79, 78, 84, 72, 68, 65, 89]⟩, .string ⟨#[66, 89, 89, 69, 65, 82, 68, 65, 89]⟩, .string ⟨#[66, 89, 87, 69, 69, 75, 78, 79]⟩, .string ⟨#[66, 89, 72, 79, 85, 82]⟩, .string ⟨#[66, 89, 77, 73, 78, 85, 84, 69]⟩, .string ⟨#[66, 89, 83, 69, 67, 79, 78, 68]⟩, .string ⟨#[66, 89, 69, 65, 83, 84, 69, 82]⟩], .int .i64 k, .bool true, .int .i64 k, .string (mkS K), .string (mkS K), .string (mkS K), .bool true, .pointer (some ⟨N, 0, none⟩), .pointer (some ⟨N, 0, none⟩), .pointer (some ⟨N, 8, none⟩), .pointer (some ⟨N, 0, none⟩), .pointer (some ⟨N, 0, none⟩), .pointer (some ⟨N, 9, none⟩), .pointer (some ⟨N, 0, none⟩), .pointer (some ⟨N, 0, none⟩), .pointer (some ⟨N, 10, none⟩), .pointer (some ⟨N, 0, none⟩), .pointer (some ⟨N, 0, none⟩), .pointer (some ⟨N, 11, none⟩), .pointer (some ⟨N, 0, none⟩), .pointer (some ⟨N, 0, none⟩), .pointer (some ⟨N, 12, none⟩), .pointer (some ⟨N, 0, none⟩), .pointer (some ⟨N, 0, none⟩), .pointer (some ⟨N, 14, none⟩), .pointer (some ⟨N, 0, none⟩), .pointer (some ⟨N, 0, none⟩), .pointer (some ⟨N, 15, none⟩), .pointer (some ⟨N, 0, none⟩), .pointer (some ⟨N, 0, none⟩), .pointer (some ⟨N, 16, none⟩), .pointer (some ⟨N, 0, none⟩), .pointer (some ⟨N, 0, none⟩), .pointer (some ⟨N, 17, none⟩), .agg #[.pointer (some ⟨N, 8, none⟩), .pointer (some ⟨N, 9, none⟩), .pointer (some ⟨N, 10, none⟩), .pointer (some ⟨N, 11, none⟩), .pointer (some ⟨N, 12, none⟩), .pointer (some ⟨N, 14, none⟩), .pointer (some ⟨N, 15, none⟩), .pointer (some ⟨N, 16, none⟩), .pointer (some ⟨N, 17, none⟩)], .int .i64 k, .pointer (some ⟨N, O, none⟩), u185, u186, u187, u188, u189, u190, u191, u192, u193, u194, u195]) (fun _ _ w1 => w1 = W.drew) 196 (fun _ => rfl) rfl (by kernel_rfl) () rfl [21, 155, 156, 157, 158, 159, 160, 161, 162, 163, 164, 165, 166, 167, 168, 169, 170, 171, 172, 173, 174, 175, 176, 177, 178, 179, 180, 181, 182, 183, 184] (by kernel_rfl) (by kernel_rfl) (rfl) ?hs ?hdone
      case hs =>
        refine ⟨StepF.of (fun b listed w1 hB hf hdep K' Q' hK' => ?_), ?_⟩
        · subst hB
          clear hf hdep
          go_simp
          refine hK'.out _ _ ⟨rfl, b, fun _ _ => rfl, fun d e => (by cases e; rfl), rfl⟩
        refine ⟨StepF.of (fun b listed w1 hB hf hdep K' Q' hK' => ?_), ?_⟩
        · subst hB
          clear hf hdep
          go_simp
          refine hK'.out _ _ ⟨rfl, b, fun _ _ => rfl, fun d e => (by cases e; rfl), rfl⟩
        refine ⟨StepF.of (fun b listed w1 hB hf hdep K' Q' hK' => ?_), ?_⟩
        · subst hB
          clear hf hdep
          go_simp
          refine hK'.out _ _ ⟨rfl, b, fun _ _ => rfl, fun d e => (by cases e; rfl), rfl⟩
        refine ⟨StepF.of (fun b listed w1 hB hf hdep K' Q' hK' => ?_), ?_⟩
        · subst hB
          clear hf hdep
          go_simp
          refine hK'.out _ _ ⟨rfl, b, fun _ _ => rfl, fun d e => (by cases e; rfl), rfl⟩
        refine ⟨StepF.of (fun b listed w1 hB hf hdep K' Q' hK' => ?_), ?_⟩
        · subst hB
          clear hf hdep
          go_simp
          refine hK'.out _ _ ⟨rfl, b, fun _ _ => rfl, fun d e => (by cases e; rfl), rfl⟩
        refine ⟨StepF.of (fun b listed w1 hB hf hdep K' Q' hK' => ?_), ?_⟩
        · subst hB
          clear hf hdep
          go_simp
          refine hK'.out _ _ ⟨rfl, b, fun _ _ => rfl, fun d e => (by cases e; rfl), rfl⟩
        refine ⟨StepF.of (fun b listed w1 hB hf hdep K' Q' hK' => ?_), ?_⟩
        · subst hB
          clear hf hdep
          go_simp
          refine hK'.out _ _ ⟨rfl, b, fun _ _ => rfl, fun d e => (by cases e; rfl), rfl⟩
        refine ⟨StepF.of (fun b listed w1 hB hf hdep K' Q' hK' => ?_), ?_⟩
        · subst hB
          clear hf hdep
          go_simp
          refine hK'.out _ _ ⟨rfl, b, fun _ _ => rfl, fun d e => (by cases e; rfl), rfl⟩
        refine ⟨StepF.of (fun b listed w1 hB hf hdep K' Q' hK' => ?_), ?_⟩
        · subst hB
          clear hf hdep
          go_simp
          refine hK'.out _ _ ⟨rfl, b, fun _ _ => rfl, fun d e => (by cases e; rfl), rfl⟩
        refine ⟨StepF.of (fun b listed w1 hB hf hdep K' Q' hK' => ?_), ?_⟩
        · subst hB
          clear hf hdep
          go_simp
          refine hK'.out _ _ ⟨rfl, b, fun _ _ => rfl, fun d e => (by cases e; rfl), rfl⟩
        refine ⟨StepF.of (fun b listed w1 hB hf hdep K' Q' hK' => ?_), ?_⟩
        · subst hB
          clear hf hdep
          go_simp
          refine hK'.out _ _ ⟨rfl, b, fun _ _ => rfl, fun d e => (by cases e; rfl), rfl⟩
        refine ⟨StepF.of (fun b listed w1 hB hf hdep K' Q' hK' => ?_), ?_⟩
        · subst hB
          clear hf hdep
          go_simp
          refine hK'.out _ _ ⟨rfl, b, fun _ _ => rfl, fun d e => (by cases e; rfl), rfl⟩
        refine ⟨StepF.of (fun b listed w1 hB hf hdep K' Q' hK' => ?_), ?_⟩
        · subst hB
          clear hf hdep
          go_simp
          refine hK'.out _ _ ⟨rfl, b, fun _ _ => rfl, fun d e => (by cases e; rfl), rfl⟩
        refine ⟨StepF.of (fun b listed w1 hB hf hdep K' Q' hK' => ?_), ?_⟩
        · subst hB
          clear hf hdep
          go_simp
          refine hK'.out _ _ ⟨rfl, b, fun _ _ => rfl, fun d e => (by cases e; rfl), rfl⟩
        refine ⟨StepF.of (fun b listed w1 hB hf hdep K' Q' hK' => ?_), ?_⟩
        · subst hB
          clear hf hdep
          go_simp
          refine hK'.out _ _ ⟨rfl, b, fun _ _ => rfl, fun d e => (by cases e; rfl), rfl⟩
        refine ⟨StepF.of (fun b listed w1 hB hf hdep K' Q' hK' => ?_), ?_⟩
        · subst hB
          clear hf hdep
          go_simp
          refine hK'.out _ _ ⟨rfl, b, fun _ _ => rfl, fun d e => (by cases e; rfl), rfl⟩
        refine ⟨StepF.of (fun b listed w1 hB hf hdep K' Q' hK' => ?_), ?_⟩
        · subst hB
          clear hf hdep
          go_simp
          refine hK'.out _ _ ⟨rfl, b, fun _ _ => rfl, fun d e => (by cases e; rfl), rfl⟩
        refine ⟨StepF.of (fun b listed w1 hB hf hdep K' Q' hK' => ?_), ?_⟩
        · subst hB
          clear hf hdep
          go_simp
          refine hK'.out _ _ ⟨rfl, b, fun _ _ => rfl, fun d e => (by cases e; rfl), rfl⟩
        refine ⟨StepF.of (fun b listed w1 hB hf hdep K' Q' hK' => ?_), ?_⟩
        · subst hB
          clear hf hdep
          go_simp
          refine hK'.out _ _ ⟨rfl, b, fun _ _ => rfl, fun d e => (by cases e; rfl), rfl⟩
        refine ⟨StepF.of (fun b listed w1 hB hf hdep K' Q' hK' => ?_), ?_⟩
        · subst hB
          clear hf hdep
          go_simp
          refine hK'.out _ _ ⟨rfl, b, fun _ _ => rfl, fun d e => (by cases e; rfl), rfl⟩
        refine ⟨StepF.of (fun b listed w1 hB hf hdep K' Q' hK' => ?_), ?_⟩
        · subst hB
          clear hf hdep
          go_simp
          refine hK'.out _ _ ⟨rfl, b, fun _ _ => rfl, fun d e => (by cases e; rfl), rfl⟩
        refine ⟨StepF.of (fun b listed w1 hB hf hdep K' Q' hK' => ?_), ?_⟩
        · subst hB
          clear hf hdep
          go_simp
          refine hK'.out _ _ ⟨rfl, b, fun _ _ => rfl, fun d e => (by cases e; rfl), rfl⟩
        refine ⟨StepF.of (fun b listed w1 hB hf hdep K' Q' hK' => ?_), ?_⟩
        · subst hB
          clear hf hdep
          go_simp
          refine hK'.out _ _ ⟨rfl, b, fun _ _ => rfl, fun d e => (by cases e; rfl), rfl⟩
        refine ⟨StepF.of (fun b listed w1 hB hf hdep K' Q' hK' => ?_), ?_⟩
        · subst hB
          clear hf hdep
          go_simp
          refine hK'.out _ _ ⟨rfl, b, fun _ _ => rfl, fun d e => (by cases e; rfl), rfl⟩
        refine ⟨StepF.of (fun b listed w1 hB hf hdep K' Q' hK' => ?_), ?_⟩
        · subst hB
          clear hf hdep
          go_simp
          refine hK'.out _ _ ⟨rfl, b, fun _ _ => rfl, fun d e => (by cases e; rfl), rfl⟩
        refine ⟨StepF.of (fun b listed w1 hB hf hdep K' Q' hK' => ?_), ?_⟩
        · subst hB
          clear hf hdep
          go_simp
          refine hK'.out _ _ ⟨rfl, b, fun _ _ => rfl, fun d e => (by cases e; rfl), rfl⟩
        refine ⟨StepF.of (fun b listed w1 hB hf hdep K' Q' hK' => ?_), ?_⟩
        · subst hB
          clear hf hdep
          go_simp
          refine hK'.out _ _ ⟨rfl, b, fun _ _ => rfl, fun d e => (by cases e; rfl), rfl⟩
        refine ⟨StepF.of (fun b listed w1 hB hf hdep K' Q' hK' => ?_), ?_⟩
        · subst hB
          clear hf hdep
          go_simp
          refine hK'.out _ _ ⟨rfl, b, fun _ _ => rfl, fun d e => (by cases e; rfl), rfl⟩
        refine ⟨StepF.of (fun b listed w1 hB hf hdep K' Q' hK' => ?_), ?_⟩
        · subst hB
          clear hf hdep
          go_simp
          refine hK'.out _ _ ⟨rfl, b, fun _ _ => rfl, fun d e => (by cases e; rfl), rfl⟩
        refine ⟨StepF.of (fun b listed w1 hB hf hdep K' Q' hK' => ?_), ?_⟩
        · subst hB
          clear hf hdep
          go_simp
          refine hK'.out _ _ ⟨rfl, b, fun _ _ => rfl, fun d e => (by cases e; rfl), rfl⟩
        refine ⟨StepF.of (fun b listed w1 hB hf hdep K' Q' hK' => ?_), ?_⟩
        · subst hB
          clear hf hdep
          go_simp
          refine hK'.out _ _ ⟨rfl, b, fun _ _ => rfl, fun d e => (by cases e; rfl), rfl⟩
        trivial
      case hdone =>
        intro b listed w1 hK hall
        subst hK
        clear hall
        cases hA : intsT V with
        | none =>
          have HC := Lib.hid (fun W => intsS_f hA W HL.out)
          have HR : Hid (PR = .wrong) := Lib.hid (by rw [HP.out, hA]; rfl)
          have HT := Lib.hid told_f
          clear hA
          go_wp2_with (first
            | (go_at_call 91; go_must (refine (HC.out _).mono ?_; rintro e w1 ⟨rfl, hb1⟩; have hb2 : Below W.heap.size W w1 := (Below.refl _ _).drew.trans hb1; have hm1 := HM.out.below hb2; obtain ⟨⟨y1, hy1⟩, hf1⟩ := hm1.cell O HO.out))
            | (go_at_call 88; go_must (refine (HT.out _).mono ?_; rintro e w2 ⟨rfl, rfl⟩))
            | (fail))
          go_ret
          exact part_wrong HR.out rfl ((But.of hb2).set O _) (HS.out _ hm1 _ [] (.inl ⟨rfl, rfl⟩)).lt
        | some zs =>
          have HC := Lib.hid (fun W => intsS_t hA W HL.out)
          have HR : Hid (PR = .right (setI k r zs)) := Lib.hid (by rw [HP.out, hA]; rfl)
          have HT := Lib.hid told_t
          clear hA
          go_wp2_with (first
            | (go_at_call 91; go_must (refine (HC.out _).mono ?_; rintro e w1 ⟨v, rfl, hown, hb1⟩; obtain ⟨a, c, hv⟩ := own1_form hown; subst hv; have hb2 : Below W.heap.size W w1 := (Below.refl _ _).drew.trans hb1; have hm1 := HM.out.below hb2; obtain ⟨⟨y1, hy1⟩, hf1⟩ := hm1.cell O HO.out))
            | (go_at_call 88; go_must (refine (HT.out _).mono ?_; rintro e w2 ⟨rfl, rfl⟩))
            | (fail))
          go_ret
          exact part_right HR.out rfl ((But.of hb2).set O _) (HS.out _ hm1 _ zs (ints_own hown HM.out.lt))
set_option maxRecDepth 100000 in
set_option maxHeartbeats 6400000 in
theorem part_none (K V : List UInt8) (r : RuleD) (N : Nat) (W : World) (hm : RuleMem W N r) (hK : ∀ j, j < 16 → (K == keyNm j) = false) :
    Calls Tryz.prog 58 #[.pointer (some ⟨N, 0, none⟩), .string (mkS K), .string (mkS V)] W (PartPost N W (partS 16 V r)) := by
  have HM := Lib.hid hm
  have f0 : (K == [70, 82, 69, 81]) = false := hK 0 (by omega)
  have f1 : (K == [68, 84, 83, 84, 65, 82, 84]) = false := hK 1 (by omega)
  have f5 : (K == [85, 78, 84, 73, 76]) = false := hK 5 (by omega)
  have f2 : (K == [73, 78, 84, 69, 82, 86, 65, 76]) = false := hK 2 (by omega)
  have f4 : (K == [67, 79, 85, 78, 84]) = false := hK 4 (by omega)
  have f3 : (K == [87, 75, 83, 84]) = false := hK 3 (by omega)
  have f11 : (K == [66, 89, 68, 65, 89]) = false := hK 11 (by omega)
  have HX : Hid (∀ k, k < 9 → (K == keyNm (jP k)) = false) := Lib.hid (fun k hk => hK (jP k) (by
    have : ∀ a : Fin 9, jP a.1 < 16 := by decide
    exact this ⟨k, hk⟩))
  have HI : Hid (∀ k, k < 9 → ∀ W, _) := Lib.hid ix138
  have zl := toList_mkS K
  clear hm hK
  go_enter Tryz.func58, Tryz.ntmps58
  go_wp2
  go_loop [148] (fun i => ∃ k : Nat, k ≤ 9 ∧ i = .int .i64 k) (fun i => 9 - (intOf i).toNat)
  case atStart => exact ⟨0, by omega, rfl⟩
  case round =>
    obtain ⟨k, hk, rfl⟩ := hrel
    by_cases hlt : k < 9
    · have hix := fun W => HI.out k hlt W
      have hne := HX.out k hlt
      have zk := toList_mkS (keyNm (jP k))
      have k0 : (0 : Int) ≤ (k : Int) := Int.natCast_nonneg _
      have k9 : (k : Int) < 9 := by omega
      generalize keyNm (jP k) = Kk at hix hne zk
      go_wp2
      go_round
      case rel => exact ⟨k + 1, by omega, by go_num⟩
      case measure => simp [intOf]; omega
    · obtain rfl : k = 9 := by omega
      go_wp2
      go_ret
      exact part_wrong rfl rfl (But.refl _ _) HM.out.lt
end Go.Proofs.YtcfbkkcamiephaaGreatDoor
