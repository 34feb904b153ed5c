import Derived.Test.YtcfbkkcamiephaaGreatDoorF6
import Derived.Deep.DeepCutAuto
import Derived.Deep.CutBlock
import Derived.Laws.StructEq
namespace Go.Proofs.YtcfbkkcamiephaaGreatDoor
open Go.RowKit

/-! ### RRuleString -/
theorem neq103 (a b : Int) (W : World) : (binOp .neq 103 (.agg #[.int .i64 a, .int .i64 b]) (.agg #[.int .i64 0, .int .i64 0])).run Tryz.prog W = .ok (.bool (!(a == 0 && b == 0))) W := by
  have hS : Tryz.prog.underlying 103 = some (.struct (Tryz.prog.fieldsOf 103)) := by kernel_rfl
  have hp : Tryz.prog.stoodInHeld 103 = false := by kernel_rfl
  rw [run_neq_struct, show (10000 : Nat) = 9999 + 1 from rfl, run_equalIn_agg W 9999 103 _ _ hS hp]
  have h3 := Tryz.underlying3
  simp only [Program.fieldsOf, Tryz.underlying103]
  cases ha : (a == 0) <;> simp [go_sem, h3, ha]
  by_cases h2 : b = 0 <;> simp [h2]
theorem bdrewN {B : Nat} {a w : World} (h : Below B a w) (n : Nat) : Below B a (w.drewN n) := h.trans ⟨rfl, rfl, rfl, Nat.le_refl _, fun _ _ => rfl⟩
theorem kapp (k s : List UInt8) : mkS k ++ mkS s = mkS (k ++ s) := str_app k s
theorem own_snoc {W : World} {base : Nat} {v : Value} {L : List (List UInt8)} {x : List UInt8} (h : W.ownsRow base 9 1 v (L.length + 1) (L.map strV ++ [.string (mkS x)])) : StrOwn W base v (L ++ [x]) := by
  unfold StrOwn; rw [List.length_append, List.map_append]; exact h
def q0 (o : Opt) : List (List UInt8) := p0 o
def q1 (o : Opt) : List (List UInt8) := q0 o ++ p1 o
def q2 (o : Opt) : List (List UInt8) := q1 o ++ p2 o
def q3 (o : Opt) : List (List UInt8) := q2 o ++ p3 o
def q4 (o : Opt) : List (List UInt8) := q3 o ++ p4 o
def q5 (o : Opt) : List (List UInt8) := q4 o ++ intsP (keyNm 6) o.sp
def q6 (o : Opt) : List (List UInt8) := q5 o ++ intsP (keyNm 7) o.mo
def q7 (o : Opt) : List (List UInt8) := q6 o ++ intsP (keyNm 8) o.md
def q8 (o : Opt) : List (List UInt8) := q7 o ++ intsP (keyNm 9) o.yd
def q9 (o : Opt) : List (List UInt8) := q8 o ++ intsP (keyNm 10) o.wn
def q10 (o : Opt) : List (List UInt8) := q9 o ++ p10 o
def q11 (o : Opt) : List (List UInt8) := q10 o ++ intsP (keyNm 12) o.ho
def q12 (o : Opt) : List (List UInt8) := q11 o ++ intsP (keyNm 13) o.mi
def q13 (o : Opt) : List (List UInt8) := q12 o ++ intsP (keyNm 14) o.se
def q14 (o : Opt) : List (List UInt8) := q13 o ++ intsP (keyNm 15) o.ea
theorem q14_eq (o : Opt) : q14 o = partsP o := rfl
theorem intsP_one (k : List UInt8) (zs : List Int) : (intsP k zs).length ≤ 1 := by unfold intsP; split <;> simp
theorem p1_one (o : Opt) : (p1 o).length ≤ 1 := by unfold p1; split <;> simp
theorem p2_one (o : Opt) : (p2 o).length ≤ 1 := by unfold p2; split <;> simp
theorem p3_one (o : Opt) : (p3 o).length ≤ 1 := by unfold p3; split <;> simp
theorem p4_one (o : Opt) : (p4 o).length ≤ 1 := by unfold p4; split <;> simp
theorem p10_one (o : Opt) : (p10 o).length ≤ 1 := by unfold p10; split <;> simp
theorem q0_len (o : Opt) : (q0 o).length ≤ 1 := by simp [q0, p0]
theorem q1_len (o : Opt) : (q1 o).length ≤ 2 := by have := q0_len o; have := p1_one o; unfold q1; rw [List.length_append]; omega
theorem q2_len (o : Opt) : (q2 o).length ≤ 3 := by have := q1_len o; have := p2_one o; unfold q2; rw [List.length_append]; omega
theorem q3_len (o : Opt) : (q3 o).length ≤ 4 := by have := q2_len o; have := p3_one o; unfold q3; rw [List.length_append]; omega
theorem q4_len (o : Opt) : (q4 o).length ≤ 5 := by have := q3_len o; have := p4_one o; unfold q4; rw [List.length_append]; omega
theorem q5_len (o : Opt) : (q5 o).length ≤ 6 := by have := q4_len o; have := intsP_one (keyNm 6) o.sp; unfold q5; rw [List.length_append]; omega
theorem q6_len (o : Opt) : (q6 o).length ≤ 7 := by have := q5_len o; have := intsP_one (keyNm 7) o.mo; unfold q6; rw [List.length_append]; omega
theorem q7_len (o : Opt) : (q7 o).length ≤ 8 := by have := q6_len o; have := intsP_one (keyNm 8) o.md; unfold q7; rw [List.length_append]; omega
theorem q8_len (o : Opt) : (q8 o).length ≤ 9 := by have := q7_len o; have := intsP_one (keyNm 9) o.yd; unfold q8; rw [List.length_append]; omega
theorem q9_len (o : Opt) : (q9 o).length ≤ 10 := by have := q8_len o; have := intsP_one (keyNm 10) o.wn; unfold q9; rw [List.length_append]; omega
theorem q10_len (o : Opt) : (q10 o).length ≤ 11 := by have := q9_len o; have := p10_one o; unfold q10; rw [List.length_append]; omega
theorem q11_len (o : Opt) : (q11 o).length ≤ 12 := by have := q10_len o; have := intsP_one (keyNm 12) o.ho; unfold q11; rw [List.length_append]; omega
theorem q12_len (o : Opt) : (q12 o).length ≤ 13 := by have := q11_len o; have := intsP_one (keyNm 13) o.mi; unfold q12; rw [List.length_append]; omega
theorem q13_len (o : Opt) : (q13 o).length ≤ 14 := by have := q12_len o; have := intsP_one (keyNm 14) o.se; unfold q13; rw [List.length_append]; omega
theorem q14_len (o : Opt) : (q14 o).length ≤ 15 := by have := q13_len o; have := intsP_one (keyNm 15) o.ea; unfold q14; rw [List.length_append]; omega
theorem q1_nil {o : Opt} (h : (o.iv != 0) = false) : q1 o = q0 o := by
  have : o.iv = 0 := by simpa using h
  unfold q1 p1; rw [if_pos this, List.append_nil]
theorem q1_cons {o : Opt} (h : (o.iv != 0) = true) : q1 o = q0 o ++ [kInt ++ Lib.itoa o.iv] := by
  have : ¬ o.iv = 0 := by simpa using h
  unfold q1 p1; rw [if_neg this]
theorem q3_nil {o : Opt} (h : (o.ct != 0) = false) : q3 o = q2 o := by
  have : o.ct = 0 := by simpa using h
  unfold q3 p3; rw [if_pos this, List.append_nil]
theorem q3_cons {o : Opt} (h : (o.ct != 0) = true) : q3 o = q2 o ++ [kCount ++ Lib.itoa o.ct] := by
  have : ¬ o.ct = 0 := by simpa using h
  unfold q3 p3; rw [if_neg this]
theorem q2_nil {o : Opt} (h : (!(o.wk.1 == 0) || !(o.wk.2 == 0)) = false) : q2 o = q1 o := by
  have : o.wk.1 = 0 ∧ o.wk.2 = 0 := by simpa using h
  unfold q2 p2; rw [if_pos this, List.append_nil]
theorem q2_cons {o : Opt} (h : (!(o.wk.1 == 0) || !(o.wk.2 == 0)) = true) : q2 o = q1 o ++ [kWkst ++ dayStr o.wk.1.toNat o.wk.2] := by
  have : ¬ (o.wk.1 = 0 ∧ o.wk.2 = 0) := fun hh => by simp [hh.1, hh.2] at h
  unfold q2 p2; rw [if_neg this]
theorem q4_nil {o : Opt} (h : (!(o.un.1 == 0) || !(o.un.2 == 0)) = false) : q4 o = q3 o := by
  have : isZ o.un = true := by unfold isZ; simpa using h
  unfold q4 p4; rw [if_pos this, List.append_nil]
theorem q4_cons {o : Opt} (h : (!(o.un.1 == 0) || !(o.un.2 == 0)) = true) : q4 o = q3 o ++ [kUntil ++ stampS o.un.1] := by
  have : ¬ isZ o.un = true := by
    intro hh
    unfold isZ at hh
    simp only [Bool.and_eq_true] at hh
    simp [hh.1, hh.2] at h
  unfold q4 p4; rw [if_neg this]
theorem q10_nil {o : Opt} (h : ((o.dy.length : Int) != 0) = false) : q10 o = q9 o := by
  have : o.dy = [] := by
    have h2 : (o.dy.length : Int) = 0 := by simpa using h
    exact List.eq_nil_of_length_eq_zero (by omega)
  unfold q10 p10; rw [if_pos this, List.append_nil]
theorem q10_cons {o : Opt} (h : ((o.dy.length : Int) != 0) = true) : q10 o = q9 o ++ [kDay ++ daysJ o.dy] ∧ 0 < o.dy.length := by
  have : ¬ o.dy = [] := by rintro h2; rw [h2] at h; simp at h
  refine ⟨?_, List.length_pos_iff.2 this⟩
  unfold q10 p10; rw [if_neg this]
theorem DaysV.form {w : World} {v : Value} {xs : List (Int × Int)} (h : DaysV w v xs) : ∃ a c, v = .slice a xs.length c ∧ (xs = [] ∨ ∃ g gq, a = some ⟨g, gq, none⟩ ∧ DayRowQ w g gq xs) := by
  rcases h with ⟨h0, h⟩ | ⟨g, gq, c, h, _, h2⟩
  · subst h0; exact ⟨_, _, h, .inl rfl⟩
  · exact ⟨_, _, h, .inr ⟨g, gq, rfl, h2⟩⟩
set_option maxRecDepth 100000 in
set_option maxHeartbeats 25600000 in
theorem rr_any (o : Opt) (N : Nat) (w : World) (hG : Good w) (ho : OptIsQ w N o) (hk : OptOk o) :
    Calls Tryz.prog 75 #[.pointer (some ⟨N, 0, none⟩)] w fun e w' => e = .returned (.string (mkS (rrL o))) ∧ Below w.heap.size w w' := by
  obtain ⟨v6, v7, v8, v9, v10, v11, v12, v13, v14, v15, ho⟩ := ho
  obtain ⟨a11, c11, rfl, hdy⟩ := ho.l11.form
  have HDY := Lib.hid hdy; clear hdy
  have HO := Lib.hid ho
  have HK := Lib.hid hk
  have HRR := Lib.hid (show rrL o = Lib.join (q14 o) [59] from rfl)
  have HSH := Lib.hid (show Short (q14 o) 15 from partsP_short o hk)
  obtain ⟨j, hj, hfq⟩ : ∃ j : Nat, j < 7 ∧ o.fq = (j : Int) := ⟨o.fq.toNat, by have := hk.fq; omega, by have := hk.fq; omega⟩
  have H81 := Lib.hid (fun w => (freqStr_any j hj w).mono fun e w' (h : e = .returned (.string (mkS (freqL j))) ∧ w' = w) => (⟨h.1, h.2.symm⟩ : e = .returned (.string (mkS (freqL j))) ∧ w = w'))
  have hN := ho.row.lt
  have zf := size_mkS (freqL j)
  have zfl := freqL_len j
  have hap0 : (⟨#[70, 82, 69, 81, 61]⟩ : ByteArray) ++ mkS (freqL j) = mkS (kFreq ++ freqL j) := kapp kFreq _
  have hp0 : Hid (q0 o = [kFreq ++ freqL j]) := Lib.hid (by unfold q0 p0; rw [hfq, Int.toNat_natCast])
  clear hk
  have hrow := ho.row
  rw [hfq] at hrow
  have hc0 := hrow.cell 0 rfl
  have hc2 := hrow.cell 3 rfl
  have HFQ := Lib.hid hfq
  clear ho hrow hfq
  go_enter Tryz.func75, Tryz.ntmps75
  go_upto_if 18 with (go_at_call 81; go_must (refine (H81.out _).mono ?_; rintro e w1 ⟨rfl, rfl⟩))
  have hown : StrOwn (w.alloc (.cells #[.string (mkS (kFreq ++ freqL j))] 9)) w.heap.size (.slice (some ⟨w.heap.size, 0, none⟩) 1 1) (q0 o) := by
    rw [hp0.out]
    exact World.ownsRow_lit w #[strV (kFreq ++ freqL j)] 1 (Nat.le_refl _) (by simp [maxLen]) rfl
  have hb : Below w.heap.size w (w.alloc (.cells #[.string (mkS (kFreq ++ freqL j))] 9)) := (Below.refl _ _).alloc (Nat.le_refl _) _
  generalize w.alloc (.cells #[.string (mkS (kFreq ++ freqL j))] 9) = W1 at *
  generalize (Value.slice (some ⟨w.heap.size, 0, none⟩) 1 1) = s3 at *
  clear hc0 hc2 hN hap0 zf zfl
  -- part 1
  generalize hbb : (o.iv != 0) = bb
  have HBB := Lib.hid hbb; clear hbb
  go_cut [3] from 19 to 27 (fun s3 wx => StrOwn wx w.heap.size s3 (q1 o) ∧ Below w.heap.size w wx)
  case first =>
    cases bb with
    | false =>
      go_wp2
      go_meet
      exact ⟨by rw [q1_nil HBB.out]; exact hown, hb⟩
    | true =>
      have hrow := (HO.out.below hb).row
      have hc3 := hrow.cell 3 rfl
      have zx := size_mkS (Lib.itoa o.iv)
      have zxl : (Lib.itoa o.iv).length ≤ 100 := Nat.le_trans (itoa_len _ HK.out.iv.1 HK.out.iv.2) (by decide)
      have hap : (⟨#[73, 78, 84, 69, 82, 86, 65, 76, 61]⟩ : ByteArray) ++ mkS (Lib.itoa o.iv) = mkS (kInt ++ (Lib.itoa o.iv)) := kapp kInt _
      have H := Lib.hid (fun w hG => itoa_any o.iv HK.out.iv.1 HK.out.iv.2 w hG)
      have HGx := hG.below hb
      clear hrow
      go_wp2_with (first
        | (go_at_call 101; go_must (refine (H.out _ HGx).mono ?_; rintro e w2 ⟨rfl, hb2⟩; have HB2 := hb.trans (hb2.mono hb.size); have hown2 := hown.below hb2; have hsz2 := HB2.size))
        | (at_builtin; go_must (refine app1 w.heap.size _ _ 56 (.string ByteArray.empty) 16 Tryz.underlying56 Tryz.info9 rfl rfl hown2 HB2 hsz2 (Nat.le_trans (q0_len o) (by decide)) (by omega) rfl rfl rfl rfl ?_); intro v' w5 hown5 hb5 hsz5))
      go_meet
      exact ⟨by rw [q1_cons HBB.out]; exact own_snoc hown5, hb5⟩
  case rest =>
  obtain ⟨hown, hb⟩ := hcut
  clear HBB
  have hrow := (HO.out.below hb).row
  have hc4 := hrow.cell 4 rfl
  have hc5 := hrow.cell 5 rfl
  clear hrow
  have hg0 : wc.cell? ⟨2, 0, none⟩ = some (.int .i64 0) := ((hG.below hb).days 0 (by omega)).1
  have hg1 : wc.cell? ⟨2, 1, none⟩ = some (.int .i64 0) := ((hG.below hb).days 0 (by omega)).2
  have hne := fun W => neq103 o.wk.1 o.wk.2 W
  have hgd : Tryz.prog.eqGuardType Tryz.prog.depth 103 = false := by kernel_rfl
  go_upto_region 4 with fail
  go_quiet (fail)
  go_upto_if 33 with fail
  have hown := hown.below (bdrewN (Below.refl _ _) nq)
  have hb := bdrewN hb nq
  generalize wc.drewN nq = W2 at *
  clear hc4 hc5 hg0 hg1 hne hgd
  -- part 2
  generalize hbb : (!(o.wk.1 == 0) || !(o.wk.2 == 0)) = bb
  have HBB := Lib.hid hbb; clear hbb
  go_cut [3] from 34 to 42 (fun s3 wx => StrOwn wx w.heap.size s3 (q2 o) ∧ Below w.heap.size w wx)
  case first =>
    cases bb with
    | false =>
      go_wp2
      go_meet
      exact ⟨by rw [q2_nil HBB.out]; exact hown, hb⟩
    | true =>
      have hrow := (HO.out.below hb).row
      have hc4 := hrow.cell 4 rfl
      have hc5 := hrow.cell 5 rfl
      have zx := size_mkS (dayStr o.wk.1.toNat o.wk.2)
      have zxl : (dayStr o.wk.1.toNat o.wk.2).length ≤ 100 := Nat.le_trans (dayStr_len _ _ HK.out.wk.2.2) (by decide)
      have hap : (⟨#[87, 75, 83, 84, 61]⟩ : ByteArray) ++ mkS (dayStr o.wk.1.toNat o.wk.2) = mkS (kWkst ++ (dayStr o.wk.1.toNat o.wk.2)) := kapp kWkst _
      have H := Lib.hid (fun w hG => dayStr_any o.wk.1.toNat (by have := HK.out.wk; omega) o.wk.2 HK.out.wk.2.2.1 HK.out.wk.2.2.2 w hG)
      have hwd : Hid (((o.wk.1.toNat : Nat) : Int) = o.wk.1) := Lib.hid (by have := HK.out.wk; omega)
      rw [hwd.out] at H
      clear hwd
      have HGx := hG.below hb
      clear hrow
      go_wp2_with (first
        | (go_at_call 71; go_must (refine (H.out _ HGx).mono ?_; rintro e w2 ⟨rfl, hb2⟩; have HB2 := hb.trans (hb2.mono hb.size); have hown2 := hown.below hb2; have hsz2 := HB2.size))
        | (at_builtin; go_must (refine app1 w.heap.size _ _ 56 (.string ByteArray.empty) 16 Tryz.underlying56 Tryz.info9 rfl rfl hown2 HB2 hsz2 (Nat.le_trans (q1_len o) (by decide)) (by omega) rfl rfl rfl rfl ?_); intro v' w5 hown5 hb5 hsz5))
      go_meet
      exact ⟨by rw [q2_cons HBB.out]; exact own_snoc hown5, hb5⟩
  case rest =>
  obtain ⟨hown, hb⟩ := hcut
  clear HBB
  have hrow := (HO.out.below hb).row
  have hc6 := hrow.cell 6 rfl
  clear hrow
  go_upto_if 47 with fail
  clear hc6
  -- part 3
  generalize hbb : (o.ct != 0) = bb
  have HBB := Lib.hid hbb; clear hbb
  go_cut [3] from 48 to 56 (fun s3 wx => StrOwn wx w.heap.size s3 (q3 o) ∧ Below w.heap.size w wx)
  case first =>
    cases bb with
    | false =>
      go_wp2
      go_meet
      exact ⟨by rw [q3_nil HBB.out]; exact hown, hb⟩
    | true =>
      have hrow := (HO.out.below hb).row
      have hc6 := hrow.cell 6 rfl
      have zx := size_mkS (Lib.itoa o.ct)
      have zxl : (Lib.itoa o.ct).length ≤ 100 := Nat.le_trans (itoa_len _ HK.out.ct.1 HK.out.ct.2) (by decide)
      have hap : (⟨#[67, 79, 85, 78, 84, 61]⟩ : ByteArray) ++ mkS (Lib.itoa o.ct) = mkS (kCount ++ (Lib.itoa o.ct)) := kapp kCount _
      have H := Lib.hid (fun w hG => itoa_any o.ct HK.out.ct.1 HK.out.ct.2 w hG)
      have HGx := hG.below hb
      clear hrow
      go_wp2_with (first
        | (go_at_call 101; go_must (refine (H.out _ HGx).mono ?_; rintro e w2 ⟨rfl, hb2⟩; have HB2 := hb.trans (hb2.mono hb.size); have hown2 := hown.below hb2; have hsz2 := HB2.size))
        | (at_builtin; go_must (refine app1 w.heap.size _ _ 56 (.string ByteArray.empty) 16 Tryz.underlying56 Tryz.info9 rfl rfl hown2 HB2 hsz2 (Nat.le_trans (q2_len o) (by decide)) (by omega) rfl rfl rfl rfl ?_); intro v' w5 hown5 hb5 hsz5))
      go_meet
      exact ⟨by rw [q3_cons HBB.out]; exact own_snoc hown5, hb5⟩
  case rest =>
  obtain ⟨hown, hb⟩ := hcut
  clear HBB
  have hrow := (HO.out.below hb).row
  have hc7 := hrow.cell 7 rfl
  have hc8 := hrow.cell 8 rfl
  clear hrow
  have H93 := Lib.hid (fun w => (isZero_any o.un.1 o.un.2 w : Calls Tryz.prog 93 #[.agg #[.int .i64 o.un.1, .int .i64 o.un.2]] w fun e w' => e = .returned (.bool (isZ o.un)) ∧ Below w.heap.size w w'))
  go_upto_if 62 with (go_at_call 93; go_must (refine (H93.out _).mono ?_; rintro e w2 ⟨rfl, hb2⟩; have HB2 := hb.trans (hb2.mono hb.size); have hown2 := hown.below hb2))
  clear hc7 hc8 hown hb hb2
  have hown := hown2
  have hb := HB2
  clear hown2 HB2
  -- part 4
  generalize hbb : (!(o.un.1 == 0) || !(o.un.2 == 0)) = bb
  have HBB := Lib.hid hbb; clear hbb
  go_cut [3] from 63 to 71 (fun s3 wx => StrOwn wx w.heap.size s3 (q4 o) ∧ Below w.heap.size w wx)
  case first =>
    cases bb with
    | false =>
      go_wp2
      go_meet
      exact ⟨by rw [q4_nil HBB.out]; exact hown, hb⟩
    | true =>
      have hrow := (HO.out.below hb).row
      have hc7 := hrow.cell 7 rfl
      have hc8 := hrow.cell 8 rfl
      have zx := size_mkS (stampS o.un.1)
      have zxl : (stampS o.un.1).length ≤ 100 := by rw [stampS_len _ HK.out.un]; decide
      have hap : (⟨#[85, 78, 84, 73, 76, 61]⟩ : ByteArray) ++ mkS (stampS o.un.1) = mkS (kUntil ++ (stampS o.un.1)) := kapp kUntil _
      have H := Lib.hid (fun w hG => timeStrS o.un.1 o.un.2 HK.out.un w hG)
      have HGx := hG.below hb
      clear hrow
      go_wp2_with (first
        | (go_at_call 102; go_must (refine (H.out _ HGx).mono ?_; rintro e w2 ⟨rfl, hb2⟩; have HB2 := hb.trans (hb2.mono hb.size); have hown2 := hown.below hb2; have hsz2 := HB2.size))
        | (at_builtin; go_must (refine app1 w.heap.size _ _ 56 (.string ByteArray.empty) 16 Tryz.underlying56 Tryz.info9 rfl rfl hown2 HB2 hsz2 (Nat.le_trans (q3_len o) (by decide)) (by omega) rfl rfl rfl rfl ?_); intro v' w5 hown5 hb5 hsz5))
      go_meet
      exact ⟨by rw [q4_cons HBB.out]; exact own_snoc hown5, hb5⟩
  case rest =>
  obtain ⟨hown, hb⟩ := hcut
  clear HBB
  have hA := HO.out.below hb
  have hc := hA.row.cell 9 rfl
  have hv := hA.l6
  have hGx := hG.below hb
  have H : Hid (Calls Tryz.prog 103 #[_, .string ⟨#[66, 89, 83, 69, 84, 80, 79, 83]⟩, _] _ (AppPost w (q5 o))) := Lib.hid (app103_any (q4 o) (keyNm 6) o.sp _ _ w _ hGx hown hb hv HK.out.sp (Nat.le_trans (keyNm_len _) (by decide)) (Nat.le_trans (q4_len o) (by decide)))
  clear hA hv hGx hown hb
  go_upto_region 11 with (go_at_call 103; go_must (refine H.out.mono ?_; rintro e wc ⟨s3, rfl, hown, hb⟩))
  clear hc H
  have hA := HO.out.below hb
  have hc := hA.row.cell 10 rfl
  have hv := hA.l7
  have hGx := hG.below hb
  have H : Hid (Calls Tryz.prog 103 #[_, .string ⟨#[66, 89, 77, 79, 78, 84, 72]⟩, _] _ (AppPost w (q6 o))) := Lib.hid (app103_any (q5 o) (keyNm 7) o.mo _ _ w _ hGx hown hb hv HK.out.mo (Nat.le_trans (keyNm_len _) (by decide)) (Nat.le_trans (q5_len o) (by decide)))
  clear hA hv hGx hown hb
  go_upto_region 12 with (go_at_call 103; go_must (refine H.out.mono ?_; rintro e wc ⟨s3, rfl, hown, hb⟩))
  clear hc H
  have hA := HO.out.below hb
  have hc := hA.row.cell 11 rfl
  have hv := hA.l8
  have hGx := hG.below hb
  have H : Hid (Calls Tryz.prog 103 #[_, .string ⟨#[66, 89, 77, 79, 78, 84, 72, 68, 65, 89]⟩, _] _ (AppPost w (q7 o))) := Lib.hid (app103_any (q6 o) (keyNm 8) o.md _ _ w _ hGx hown hb hv HK.out.md (Nat.le_trans (keyNm_len _) (by decide)) (Nat.le_trans (q6_len o) (by decide)))
  clear hA hv hGx hown hb
  go_upto_region 13 with (go_at_call 103; go_must (refine H.out.mono ?_; rintro e wc ⟨s3, rfl, hown, hb⟩))
  clear hc H
  have hA := HO.out.below hb
  have hc := hA.row.cell 12 rfl
  have hv := hA.l9
  have hGx := hG.below hb
  have H : Hid (Calls Tryz.prog 103 #[_, .string ⟨#[66, 89, 89, 69, 65, 82, 68, 65, 89]⟩, _] _ (AppPost w (q8 o))) := Lib.hid (app103_any (q7 o) (keyNm 9) o.yd _ _ w _ hGx hown hb hv HK.out.yd (Nat.le_trans (keyNm_len _) (by decide)) (Nat.le_trans (q7_len o) (by decide)))
  clear hA hv hGx hown hb
  go_upto_region 14 with (go_at_call 103; go_must (refine H.out.mono ?_; rintro e wc ⟨s3, rfl, hown, hb⟩))
  clear hc H
  have hA := HO.out.below hb
  have hc := hA.row.cell 13 rfl
  have hv := hA.l10
  have hGx := hG.below hb
  have H : Hid (Calls Tryz.prog 103 #[_, .string ⟨#[66, 89, 87, 69, 69, 75, 78, 79]⟩, _] _ (AppPost w (q9 o))) := Lib.hid (app103_any (q8 o) (keyNm 10) o.wn _ _ w _ hGx hown hb hv HK.out.wn (Nat.le_trans (keyNm_len _) (by decide)) (Nat.le_trans (q8_len o) (by decide)))
  clear hA hv hGx hown hb
  go_upto_region 15 with (go_at_call 103; go_must (refine H.out.mono ?_; rintro e wc ⟨s3, rfl, hown, hb⟩))
  clear hc H
  have hrow := (HO.out.below hb).row
  have hc := hrow.cell 14 rfl
  clear hrow
  go_upto_if 107 with fail
  clear hc
  generalize hbb : ((o.dy.length : Int) != 0) = bb
  have HBB := Lib.hid hbb; clear hbb
  go_cut [3, 4, 5, 6] from 108 to 135 (fun s3 _ _ _ wx => StrOwn wx w.heap.size s3 (q10 o) ∧ Below w.heap.size w wx)
  case first =>
    cases bb with
    | false =>
      go_wp2
      go_meet
      exact ⟨by rw [q10_nil HBB.out]; exact hown, hb⟩
    | true =>
      obtain ⟨hq10, hpos⟩ := q10_cons HBB.out
      have HQ10 := Lib.hid hq10; clear hq10
      obtain ⟨g, gq, rfl, hdr⟩ : ∃ g gq, a11 = some ⟨g, gq, none⟩ ∧ DayRowQ w g gq o.dy := by
        rcases HDY.out with h | h
        · rw [h] at hpos; simp at hpos
        · exact h
      have hdr := hdr.below hb
      have hrow := (HO.out.below hb).row
      have hc14 := hrow.cell 14 rfl
      clear hrow
      have hdl := HK.out.dy.len
      obtain ⟨i0, hi, hz0, hz1, hz2⟩ := info_parts Tryz.info9
      have hHO := Lib.hid (HO.out.below hb)
      go_wp2_with (at_make; go_must (refine wpList_make_full wc rfl _ _ 56 rfl wc.heap.size 9 i0 (.string ByteArray.empty) 1 Tryz.underlying56 hi hz0 hz1 .i64 .i64 _ _ o.dy.length rfl rfl rfl rfl (by rw [hz2]; omega) (by simp only [maxLen]; omega) (Nat.le_refl _) ?_; intro w2 hownm hgr; have hb2 := below_none (Below.refl wc.heap.size wc) hgr; have hr0 := RowAt.of_own hownm; have hc14' := ((hHO.out.below hb2).row).cell 14 rfl))
      rw [made_strs] at hr0
      have hi2 := hdr.below hb2
      have hgN : g ≠ wc.heap.size := Nat.ne_of_lt hdr.lt
      have hJ : Hid (Lib.join (o.dy.map fun p => dayStr p.1.toNat p.2) [44] = daysJ o.dy) := rfl
      have hJl : Hid ((daysJ o.dy).length ≤ 24000) := daysJ_len o.dy HK.out.dy
      have HIN := Lib.hid HK.out.dy.rng
      generalize hdyz : o.dy = ds at *
      have HDZ := Lib.hid hdyz; clear hdyz
      clear hownm hgr hc14 hc14' hdr
      generalize hNN : wc.heap.size = NN at *
      have HNN := Lib.hid hNN; clear hNN
      go_loopw [119] (fun i wr => ∃ k : Nat, k ≤ ds.length ∧ i = .int .i64 k ∧ RowAt wr NN 9 ((ds.take k).map (fun p => strV (dayStr p.1.toNat p.2)) ++ List.replicate (ds.length - k) (.string ByteArray.empty)) ∧ DayRowQ wr g gq ds ∧ Below NN wc wr) (fun i _ => ds.length - (intOf i).toNat)
      case atStart => exact ⟨0, by omega, rfl, by simpa using hr0, hi2, hb2⟩
      case round =>
        obtain ⟨k, hkl, rfl, hrw, hir, hbr⟩ := hrel
        have hszr : NN ≤ wr.heap.size := by rw [← HNN.out]; exact hbr.size
        by_cases hlt : k < ds.length
        · obtain ⟨hcd, hcn⟩ := hir.cell k ds[k] (by simp [hlt])
          have hst := snoc_take (fun p : Int × Int => strV (dayStr p.1.toNat p.2)) ds k hlt
          have hr := HIN.out _ (List.getElem_mem hlt)
          generalize ds[k] = p at hcd hcn hst hr
          obtain ⟨d, n⟩ := p
          simp only at hcd hcn hst hr
          obtain ⟨m, hm, rfl⟩ : ∃ m : Nat, m < 7 ∧ d = (m : Int) := ⟨d.toNat, by omega, by omega⟩
          rw [Int.toNat_natCast] at hst
          have HST := Lib.hid hst; clear hst
          have H71 := Lib.hid (fun w hG => dayStr_any m hm n hr.2.2.1 hr.2.2.2 w hG)
          clear hr
          have hal : Below wr.heap.size wr (wr.alloc (.cells #[.int .i64 m, .int .i64 n] 103)) := (Below.refl _ _).alloc (Nat.le_refl _) _
          have hrwa := hrw.below hal
          have hrc := hrwa.cell k (v := .string ByteArray.empty) (by rw [List.getElem?_append_right (by simp; omega)]; simp [List.getElem?_replicate]; omega)
          have hrf := hrwa.frozen k
          have hrl := hrwa.lt
          have hGr : Hid (Good (wr.alloc (.cells #[.int .i64 m, .int .i64 n] 103))) := Lib.hid ((hG.below (hb.trans (hbr.mono (by first | exact hb.size | (rw [← HNN.out]; exact hb.size))))).below hal)
          go_wp2_with (go_at_call 71; go_must (refine (H71.out _ hGr.out).mono ?_; rintro e w3 ⟨rfl, hb3⟩; have hrc3 := cell_below hb3 hrc; have hrf3 := frozen_below hb3 hrl hrf; have HB3 := hal.trans (hb3.mono hal.size)))
          have hr3 := (hrw.below HB3).set k (strV (dayStr m n))
          go_roundw
          case rel =>
            refine ⟨k + 1, by omega, by go_num, ?_, (hir.below HB3).set hgN _ _, (hbr.trans (HB3.mono hszr)).setCell (Nat.le_refl _) _⟩
            rw [HST.out]
            have hset : (List.map (fun p : Int × Int => strV (dayStr p.1.toNat p.2)) (ds.take k) ++ List.replicate (ds.length - k) (Value.string ByteArray.empty)).set k (strV (dayStr m n)) = List.map (fun p : Int × Int => strV (dayStr p.1.toNat p.2)) (ds.take k) ++ [strV (dayStr m n)] ++ List.replicate (ds.length - (k + 1)) (Value.string ByteArray.empty) := by
              rw [List.set_append_right _ _ (by simp; omega), show ds.length - k = (ds.length - (k + 1)) + 1 by omega, List.replicate_succ]
              simp [Nat.min_eq_left (Nat.le_of_lt hlt)]
            rw [hset] at hr3
            exact hr3
          case measure => simp [intOf]; omega
        · obtain rfl : k = ds.length := by omega
          rw [List.take_length, Nat.sub_self] at hrw
          have hjoin := fun w (h : RowAt w NN 9 (ds.map (fun p => strV (dayStr p.1.toNat p.2)) ++ List.replicate 0 (Value.string ByteArray.empty))) => Tryz.strings_Join NN 0 ds.length (ds.map fun p => mkS (dayStr p.1.toNat p.2)) ⟨#[44]⟩ w
            (fun j x hx => by rw [Nat.zero_add]; exact h.cell j (by rw [List.getElem?_append_left (by have := (List.getElem?_eq_some_iff.1 hx).1; simpa using this)]; rw [List.getElem?_map] at hx ⊢; cases hz : ds[j]? <;> rw [hz] at hx <;> simp at hx ⊢; rw [← hx]; rfl)) h.lt (by simp; omega) (by simp)
            (by rw [List.map_map]; show (Lib.join (ds.map fun p => dayStr p.1.toNat p.2) [44]).length ≤ _; rw [hJ.out]; have := hJl.out; omega)
          rw [List.length_map, List.map_map] at hjoin
          change ∀ w, _ → Calls Tryz.prog 104 _ w fun e w' => e = .returned (.string ⟨(Lib.join (ds.map fun p => dayStr p.1.toNat p.2) [44]).toArray⟩) ∧ _ at hjoin
          rw [hJ.out] at hjoin
          have HJN := Lib.hid hjoin; clear hjoin
          have zj := size_mkS (daysJ ds)
          have zjl := hJl.out
          have hap : (⟨#[66, 89, 68, 65, 89, 61]⟩ : ByteArray) ++ mkS (daysJ ds) = mkS (kDay ++ daysJ ds) := kapp kDay _
          generalize daysJ ds = J at *
          have hownr := Lib.hid (hown.below (w' := wr) (by rw [HNN.out]; exact hbr))
          have hbw := hb.trans (hbr.mono (by first | exact hb.size | (rw [← HNN.out]; exact hb.size)))
          go_wp2_with (first
            | (go_at_call 104; go_must (refine (HJN.out _ hrw).mono ?_; rintro e w4 ⟨rfl, hb4⟩; have hown4 := hownr.out.below hb4; have HB4 := hbw.trans (hb4.mono hbw.size); have hsz4 := HB4.size))
            | (at_builtin; go_must (refine app1 w.heap.size _ _ 56 (.string ByteArray.empty) 16 Tryz.underlying56 Tryz.info9 rfl rfl hown4 HB4 hsz4 (Nat.le_trans (q9_len o) (by decide)) (by omega) rfl rfl rfl rfl ?_); intro v' w5 hown5 hb5 hsz5))
          go_meet
          exact ⟨by rw [HQ10.out]; exact own_snoc hown5, hb5⟩
  case rest =>
  obtain ⟨hown, hb⟩ := hcut
  have hA := HO.out.below hb
  have hc := hA.row.cell 15 rfl
  have hv := hA.l12
  have hGx := hG.below hb
  have H : Hid (Calls Tryz.prog 103 #[_, .string ⟨#[66, 89, 72, 79, 85, 82]⟩, _] _ (AppPost w (q11 o))) := Lib.hid (app103_any (q10 o) (keyNm 12) o.ho _ _ w _ hGx hown hb hv HK.out.ho (Nat.le_trans (keyNm_len _) (by decide)) (Nat.le_trans (q10_len o) (by decide)))
  clear hA hv hGx hown hb
  go_upto_region 24 with (go_at_call 103; go_must (refine H.out.mono ?_; rintro e wc ⟨s3, rfl, hown, hb⟩))
  clear hc H
  have hA := HO.out.below hb
  have hc := hA.row.cell 16 rfl
  have hv := hA.l13
  have hGx := hG.below hb
  have H : Hid (Calls Tryz.prog 103 #[_, .string ⟨#[66, 89, 77, 73, 78, 85, 84, 69]⟩, _] _ (AppPost w (q12 o))) := Lib.hid (app103_any (q11 o) (keyNm 13) o.mi _ _ w _ hGx hown hb hv HK.out.mi (Nat.le_trans (keyNm_len _) (by decide)) (Nat.le_trans (q11_len o) (by decide)))
  clear hA hv hGx hown hb
  go_upto_region 25 with (go_at_call 103; go_must (refine H.out.mono ?_; rintro e wc ⟨s3, rfl, hown, hb⟩))
  clear hc H
  have hA := HO.out.below hb
  have hc := hA.row.cell 17 rfl
  have hv := hA.l14
  have hGx := hG.below hb
  have H : Hid (Calls Tryz.prog 103 #[_, .string ⟨#[66, 89, 83, 69, 67, 79, 78, 68]⟩, _] _ (AppPost w (q13 o))) := Lib.hid (app103_any (q12 o) (keyNm 14) o.se _ _ w _ hGx hown hb hv HK.out.se (Nat.le_trans (keyNm_len _) (by decide)) (Nat.le_trans (q12_len o) (by decide)))
  clear hA hv hGx hown hb
  go_upto_region 26 with (go_at_call 103; go_must (refine H.out.mono ?_; rintro e wc ⟨s3, rfl, hown, hb⟩))
  clear hc H
  have hA := HO.out.below hb
  have hc := hA.row.cell 18 rfl
  have hv := hA.l15
  have hGx := hG.below hb
  have H : Hid (Calls Tryz.prog 103 #[_, .string ⟨#[66, 89, 69, 65, 83, 84, 69, 82]⟩, _] _ (AppPost w (q14 o))) := Lib.hid (app103_any (q13 o) (keyNm 15) o.ea _ _ w _ hGx hown hb hv HK.out.ea (Nat.le_trans (keyNm_len _) (by decide)) (Nat.le_trans (q13_len o) (by decide)))
  clear hA hv hGx hown hb
  go_upto_region 27 with (go_at_call 103; go_must (refine H.out.mono ?_; rintro e wc ⟨s3, rfl, hown, hb⟩))
  clear hc H
  have H : Hid (Calls Tryz.prog 104 #[_, .string ⟨#[59]⟩] _ _) := Lib.hid (join_own (q14 o) 59 15 _ w.heap.size _ hown (by unfold q14 q13 q12 q11 q10 q9 q8 q7 q6 q5 q4 q3 q2 q1 q0 p0; simp) HSH.out (by decide))
  clear hown
  go_wp2_with (go_at_call 104; go_must (refine H.out.mono ?_; rintro e w9 ⟨rfl, hb9⟩))
  go_ret
  exact ⟨by rw [HRR.out]; rfl, hb.trans (hb9.mono hb.size)⟩
end Go.Proofs.YtcfbkkcamiephaaGreatDoor
namespace Go.Proofs.YtcfbkkcamiephaaGreatDoor
open Go.RowKit

/-! ### (ROption).String -/
def dtL : List UInt8 := [68, 84, 83, 84, 65, 82, 84]
def nlL : List UInt8 := [10, 82, 82, 85, 76, 69, 58]
def optL (o : Opt) : List UInt8 := if isZ o.st then rrL o else dtL ++ rfcL (stampS o.st.1) ++ nlL ++ rrL o
theorem optL_zero {o : Opt} (h : (o.st.1 == 0 && o.st.2 == 0) = true) : optL o = rrL o := by unfold optL; rw [if_pos (show isZ o.st = true from h)]
theorem optL_some {o : Opt} (h : (o.st.1 == 0 && o.st.2 == 0) = false) : optL o = dtL ++ rfcL (stampS o.st.1) ++ nlL ++ rrL o := by
  unfold optL; rw [if_neg (by unfold isZ; rw [h]; simp)]
set_option maxRecDepth 100000 in
set_option maxHeartbeats 3200000 in
theorem optStr_any (o : Opt) (N : Nat) (w : World) (hG : Good w) (ho : OptIsQ w N o) (hk : OptOk o) :
    Calls Tryz.prog 67 #[.pointer (some ⟨N, 0, none⟩)] w fun e w' => e = .returned (.string (mkS (optL o))) ∧ Below w.heap.size w w' := by
  have H75 := Lib.hid (rr_any o N w hG ho hk)
  have HO := Lib.hid ho
  have H97 := Lib.hid (fun w hG => rfcS o.st.1 o.st.2 hk.st w hG)
  have H93 := Lib.hid (fun w => isZero_any o.st.1 o.st.2 w)
  have zr := size_mkS (rrL o)
  have zrl := rrL_len o hk
  have zc : (mkS (rfcL (stampS o.st.1))).size = 17 := by rw [size_mkS]; unfold rfcL; rw [List.length_cons, stampS_len _ hk.st]
  have hZ := @optL_zero o
  have hS := @optL_some o
  have HZ : Hid ((o.st.1 == 0 && o.st.2 == 0) = true → optL o = rrL o) := hZ
  have HS : Hid ((o.st.1 == 0 && o.st.2 == 0) = false → optL o = dtL ++ rfcL (stampS o.st.1) ++ nlL ++ rrL o) := hS
  clear hZ hS hk ho
  generalize rrL o = rr at *
  generalize rfcL (stampS o.st.1) = rf at *
  have ha1 : (⟨#[68, 84, 83, 84, 65, 82, 84]⟩ : ByteArray) ++ mkS rf = mkS (dtL ++ rf) := kapp dtL rf
  have z1 : (mkS (dtL ++ rf)).size = 24 := by rw [size_mkS] at zc ⊢; rw [List.length_append, zc]; rfl
  generalize dtL ++ rf = X1 at *
  have ha2 : mkS X1 ++ (⟨#[10, 82, 82, 85, 76, 69, 58]⟩ : ByteArray) = mkS (X1 ++ nlL) := kapp _ nlL
  have z2 : (mkS (X1 ++ nlL)).size = 31 := by rw [size_mkS] at z1 ⊢; rw [List.length_append, z1]; rfl
  generalize X1 ++ nlL = X2 at *
  have ha3 : mkS X2 ++ mkS rr = mkS (X2 ++ rr) := kapp _ _
  go_enter Tryz.func67, Tryz.ntmps67
  go_upto_region 2 with (go_at_call 75; go_must (refine H75.out.mono ?_; rintro e w1 ⟨rfl, hb1⟩))
  have hc1 : w1.cell? ⟨N, 1, none⟩ = some (.int .i64 o.st.1) := by
    obtain ⟨v6, v7, v8, v9, v10, v11, v12, v13, v14, v15, h⟩ := HO.out.below hb1
    exact h.row.cell 1 rfl
  have hc2 : w1.cell? ⟨N, 2, none⟩ = some (.int .i64 o.st.2) := by
    obtain ⟨v6, v7, v8, v9, v10, v11, v12, v13, v14, v15, h⟩ := HO.out.below hb1
    exact h.row.cell 2 rfl
  go_upto_if 10 with (go_at_call 93; go_must (refine (H93.out _).mono ?_; rintro e w2 ⟨rfl, hb2⟩))
  have hc3 := cell_below hb2 hc1
  have hc4 := cell_below hb2 hc2
  have hB2 := hb1.trans (hb2.mono hb1.size)
  have hG2 := hG.below hB2
  clear hb1 hb2 hc1 hc2
  generalize hz : (o.st.1 == 0 && o.st.2 == 0) = z at *
  have HZZ := Lib.hid hz; clear hz
  cases z with
  | true =>
    have HZ1 := Lib.hid (HZ.out rfl)
    go_wp2
    go_ret
    exact ⟨by rw [HZ1.out]; rfl, hB2⟩
  | false =>
    have HS1 := Lib.hid (HS.out rfl)
    go_wp2_with (go_at_call 97; go_must (refine (H97.out _ hG2).mono ?_; rintro e w3 ⟨rfl, hb3⟩))
    go_ret
    exact ⟨by rw [HS1.out]; rfl, hB2.trans (hb3.mono hB2.size)⟩
end Go.Proofs.YtcfbkkcamiephaaGreatDoor
