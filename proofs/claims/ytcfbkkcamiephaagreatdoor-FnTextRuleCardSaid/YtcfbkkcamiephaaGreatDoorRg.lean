import Derived.Test.YtcfbkkcamiephaaGreatDoorF6
import Derived.Test.YtcfbkkcamiephaaGreatDoorA1
import Derived.Test.YtcfbkkcamiephaaGreatDoorF8
namespace Go.Proofs.YtcfbkkcamiephaaGreatDoor
open Go.RowKit

/-! ### the parts of a moment -/
set_option maxRecDepth 100000 in
theorem month_any (s y m d hh mm ss n : Int) (w : World) (c : Civ s y m d hh mm ss) :
    Calls Tryz.prog 127 #[.agg #[.int .i64 s, .int .i64 n]] w fun e w' => e = .returned (.int .i64 m) ∧ Below w.heap.size w w' := by
  have H := Lib.hid (fun w => date3_any s y m d hh mm ss (.int .i64 n) w c)
  clear c
  have hal : Below w.heap.size w (w.alloc (.cells #[.int .i64 s, .int .i64 n] 101)) := (Below.refl _ _).alloc (Nat.le_refl _) _
  go_enter Tryz.func127, Tryz.ntmps127
  go_wp2_with (first
    | (go_at_call 155; go_must (refine (H.out _).mono ?_; rintro e w1 ⟨rfl, hb1⟩))
    | (fail))
  go_ret
  exact ⟨rfl, hal.trans (hb1.mono hal.size)⟩
set_option maxRecDepth 100000 in
theorem dayOf_any (s y m d hh mm ss n : Int) (w : World) (c : Civ s y m d hh mm ss) :
    Calls Tryz.prog 128 #[.agg #[.int .i64 s, .int .i64 n]] w fun e w' => e = .returned (.int .i64 d) ∧ Below w.heap.size w w' := by
  have H := Lib.hid (fun w => date3_any s y m d hh mm ss (.int .i64 n) w c)
  clear c
  have hal : Below w.heap.size w (w.alloc (.cells #[.int .i64 s, .int .i64 n] 101)) := (Below.refl _ _).alloc (Nat.le_refl _) _
  go_enter Tryz.func128, Tryz.ntmps128
  go_wp2_with (first
    | (go_at_call 155; go_must (refine (H.out _).mono ?_; rintro e w1 ⟨rfl, hb1⟩))
    | (fail))
  go_ret
  exact ⟨rfl, hal.trans (hb1.mono hal.size)⟩
set_option maxRecDepth 100000 in
theorem hour_any (s y m d hh mm ss n : Int) (w : World) (c : Civ s y m d hh mm ss) :
    Calls Tryz.prog 131 #[.agg #[.int .i64 s, .int .i64 n]] w fun e w' => e = .returned (.int .i64 hh) ∧ Below w.heap.size w w' := by
  have H := Lib.hid (fun w => clock_any s y m d hh mm ss (.int .i64 n) w c)
  clear c
  have hal : Below w.heap.size w (w.alloc (.cells #[.int .i64 s, .int .i64 n] 101)) := (Below.refl _ _).alloc (Nat.le_refl _) _
  go_enter Tryz.func131, Tryz.ntmps131
  go_wp2_with (first
    | (go_at_call 156; go_must (refine (H.out _).mono ?_; rintro e w1 ⟨rfl, hb1⟩))
    | (fail))
  go_ret
  exact ⟨rfl, hal.trans (hb1.mono hal.size)⟩
set_option maxRecDepth 100000 in
theorem minute_any (s y m d hh mm ss n : Int) (w : World) (c : Civ s y m d hh mm ss) :
    Calls Tryz.prog 132 #[.agg #[.int .i64 s, .int .i64 n]] w fun e w' => e = .returned (.int .i64 mm) ∧ Below w.heap.size w w' := by
  have H := Lib.hid (fun w => clock_any s y m d hh mm ss (.int .i64 n) w c)
  clear c
  have hal : Below w.heap.size w (w.alloc (.cells #[.int .i64 s, .int .i64 n] 101)) := (Below.refl _ _).alloc (Nat.le_refl _) _
  go_enter Tryz.func132, Tryz.ntmps132
  go_wp2_with (first
    | (go_at_call 156; go_must (refine (H.out _).mono ?_; rintro e w1 ⟨rfl, hb1⟩))
    | (fail))
  go_ret
  exact ⟨rfl, hal.trans (hb1.mono hal.size)⟩
set_option maxRecDepth 100000 in
theorem second_any (s y m d hh mm ss n : Int) (w : World) (c : Civ s y m d hh mm ss) :
    Calls Tryz.prog 133 #[.agg #[.int .i64 s, .int .i64 n]] w fun e w' => e = .returned (.int .i64 ss) ∧ Below w.heap.size w w' := by
  have H := Lib.hid (fun w => clock_any s y m d hh mm ss (.int .i64 n) w c)
  clear c
  have hal : Below w.heap.size w (w.alloc (.cells #[.int .i64 s, .int .i64 n] 101)) := (Below.refl _ _).alloc (Nat.le_refl _) _
  go_enter Tryz.func133, Tryz.ntmps133
  go_wp2_with (first
    | (go_at_call 156; go_must (refine (H.out _).mono ?_; rintro e w1 ⟨rfl, hb1⟩))
    | (fail))
  go_ret
  exact ⟨rfl, hal.trans (hb1.mono hal.size)⟩
set_option maxRecDepth 100000 in
theorem at0_any (w : World) : Calls Tryz.prog 124 #[.int .i64 0] w fun e w' => e = .returned (.agg #[.int .i64 62135596800, .int .i64 0]) ∧ Below w.heap.size w w' := by
  go_enter Tryz.func124, Tryz.ntmps124
  go_wp2
  refine bodyPost_ret (v := .agg #[.int .i64 62135596800, .int .i64 0]) (by simp [results, Tryz.results124, go_sem]) rfl ⟨rfl, ?_⟩
  repeat (first | exact Below.refl _ _ | refine Below.setCell ?_ (by simp) _ | refine Below.alloc ?_ (by simp) _)
set_option maxRecDepth 100000 in
theorem trunc_any (s n : Int) (w : World) : Calls Tryz.prog 125 #[.agg #[.int .i64 s, .int .i64 n], .int .i64 1000000000] w fun e w' => e = .returned (.agg #[.int .i64 s, .int .i64 0]) ∧ Below w.heap.size w w' := by
  go_enter Tryz.func125, Tryz.ntmps125
  go_wp2
  refine bodyPost_ret (v := .agg #[.int .i64 s, .int .i64 0]) (by simp [results, Tryz.results125, go_sem]) rfl ⟨rfl, ?_⟩
  repeat (first | exact Below.refl _ _ | refine Below.setCell ?_ (by simp) _ | refine Below.alloc ?_ (by simp) _)
set_option maxRecDepth 100000 in
theorem addMax_any (s : Int) (w : World) : Calls Tryz.prog 126 #[.agg #[.int .i64 s, .int .i64 0], .int .i64 9223372036854775807] w fun e w' => (∃ s1 n1, e = .returned (.agg #[.int .i64 s1, .int .i64 n1])) ∧ Below w.heap.size w w' := by
  go_enter Tryz.func126, Tryz.ntmps126
  go_wp2
  go_region
  go_wp2
  refine bodyPost_ret (v := .agg #[.int .i64 (wrap64 (s + 9223372036)), .int .i64 854775807]) (by simp [results, Tryz.results126, go_sem]) rfl ⟨⟨_, _, rfl⟩, ?_⟩
  repeat (first | exact Below.refl _ _ | refine Below.setCell ?_ (by simp) _ | refine Below.drew ?_ | refine Below.alloc ?_ (by simp) _)
set_option maxRecDepth 100000 in
set_option maxHeartbeats 1600000 in
theorem weekday_any (s n : Int) (w : World) (h1 : -1000000000000 ≤ s) (h2 : s ≤ 1000000000000) : Calls Tryz.prog 130 #[.agg #[.int .i64 s, .int .i64 n]] w fun e w' => (∃ z, 0 ≤ z ∧ z ≤ 6 ∧ e = .returned (.int .i64 z)) ∧ Below w.heap.size w w' := by
  have hal : Below w.heap.size w (w.alloc (.cells #[.int .i64 s, .int .i64 n] 101)) := (Below.refl _ _).alloc (Nat.le_refl _) _
  have H1 := Lib.hid (fun w => floor_pos s 86400 w (by omega) (by omega) (by omega))
  have b1 : -100000000 ≤ s / 86400 := by omega
  have b2 : s / 86400 ≤ 100000000 := by omega
  clear h1 h2
  generalize s / 86400 = X at *
  have H2 := Lib.hid (fun w => floor_pos (X + 1) 7 w (by omega) (by omega) (by omega))
  obtain ⟨Y, hY⟩ : ∃ Y, Y = (X + 1) / 7 := ⟨_, rfl⟩
  have c1 : 7 * Y ≤ X + 1 := by omega
  have c2 : X + 1 ≤ 7 * Y + 6 := by omega
  rw [← hY] at H2
  clear hY
  have e1 : wrap64 (X + 1) = X + 1 := IntWalk.wrap64_in _ (by omega)
  have e2 : wrap64 (7 * Y) = 7 * Y := IntWalk.wrap64_in _ (by omega)
  have e3 : wrap64 (X + 1 - 7 * Y) = X + 1 - 7 * Y := IntWalk.wrap64_in _ (by omega)
  have HC : Hid (0 ≤ X + 1 - 7 * Y ∧ X + 1 - 7 * Y ≤ 6) := Lib.hid ⟨by omega, by omega⟩
  clear b1 b2 c1 c2
  go_enter Tryz.func130, Tryz.ntmps130
  go_wp2_with (first
    | (go_at_call 158; go_must (first
        | (with_reducible refine (H1.out _).mono ?_; rintro e w1 ⟨rfl, rfl⟩)
        | (with_reducible refine (H2.out _).mono ?_; rintro e w1 ⟨rfl, rfl⟩)))
    | (fail))
  go_ret
  refine ⟨⟨X + 1 - 7 * Y, HC.out.1, HC.out.2, ?_⟩, hal⟩
  simp [e2, e3]
set_option maxRecDepth 100000 in
theorem pyWeekday_any (z : Int) (w : World) (h1 : 0 ≤ z) (h2 : z ≤ 6) : Calls Tryz.prog 129 #[.int .i64 z] w fun e w' => (∃ u, e = .returned (.int .i64 u)) ∧ Below w.heap.size w w' := by
  have hal : Below w.heap.size w (w.alloc (.cells #[.int .i64 6, .int .i64 0, .int .i64 1, .int .i64 2, .int .i64 3, .int .i64 4, .int .i64 5] 3)) := (Below.refl _ _).alloc (Nat.le_refl _) _
  rcases (show z = 0 ∨ z = 1 ∨ z = 2 ∨ z = 3 ∨ z = 4 ∨ z = 5 ∨ z = 6 by omega) with rfl | rfl | rfl | rfl | rfl | rfl | rfl
  all_goals
    clear h1 h2
    go_enter Tryz.func129, Tryz.ntmps129
    go_wp2
    go_ret
    exact ⟨⟨_, rfl⟩, hal⟩
end Go.Proofs.YtcfbkkcamiephaaGreatDoor
namespace Go.Proofs.YtcfbkkcamiephaaGreatDoor
open Go.RowKit

/-! ### an option at the head of a greater row -/
structure RowP (w : World) (N : Nat) (xs : List Value) : Prop where
  lt : N < w.heap.size
  get : ∀ (i : Nat) (v : Value), xs[i]? = some v → w.cell? ⟨N, i, none⟩ = some v
theorem RowP.cell {w : World} {N : Nat} {xs : List Value} (h : RowP w N xs) (i : Nat) {v : Value} (hi : xs[i]? = some v) : w.cell? ⟨N, i, none⟩ = some v := h.get i v hi
theorem RowP.below {w w' : World} {N : Nat} {xs : List Value} (h : RowP w N xs) (hb : Below w.heap.size w w') : RowP w' N xs := ⟨Nat.lt_of_lt_of_le h.lt hb.size, fun i v hv => cell_below hb (h.get i v hv)⟩
theorem RowAt.headP {w : World} {N : Nat} {e : TypeId} {xs ys : List Value} (h : RowAt w N e ys) (hx : ys.take xs.length = xs) : RowP w N xs := ⟨h.lt, fun i v hv => h.cell i (by
  rw [← hx] at hv
  have hi : i < xs.length := by
    have := (List.getElem?_eq_some_iff.1 hv).1
    rw [List.length_take] at this
    omega
  rwa [List.getElem?_take_of_lt hi] at hv)⟩
structure OptAtP (w : World) (N : Nat) (o : Opt) (v6 v7 v8 v9 v10 v11 v12 v13 v14 v15 : Value) : Prop where
  row : RowP w N [.int .i64 o.fq, .int .i64 o.st.1, .int .i64 o.st.2, .int .i64 o.iv, .int .i64 o.wk.1, .int .i64 o.wk.2, .int .i64 o.ct, .int .i64 o.un.1, .int .i64 o.un.2, v6, v7, v8, v9, v10, v11, v12, v13, v14, v15]
  l6 : IntsV w v6 o.sp
  l7 : IntsV w v7 o.mo
  l8 : IntsV w v8 o.md
  l9 : IntsV w v9 o.yd
  l10 : IntsV w v10 o.wn
  l11 : DaysV w v11 o.dy
  l12 : IntsV w v12 o.ho
  l13 : IntsV w v13 o.mi
  l14 : IntsV w v14 o.se
  l15 : IntsV w v15 o.ea
def OptIsP (w : World) (N : Nat) (o : Opt) : Prop := ∃ v6 v7 v8 v9 v10 v11 v12 v13 v14 v15, OptAtP w N o v6 v7 v8 v9 v10 v11 v12 v13 v14 v15
theorem OptAtP.below {w w' : World} {N : Nat} {o : Opt} {v6 v7 v8 v9 v10 v11 v12 v13 v14 v15 : Value} (h : OptAtP w N o v6 v7 v8 v9 v10 v11 v12 v13 v14 v15) (hb : Below w.heap.size w w') : OptAtP w' N o v6 v7 v8 v9 v10 v11 v12 v13 v14 v15 :=
  ⟨h.row.below hb, h.l6.below hb, h.l7.below hb, h.l8.below hb, h.l9.below hb, h.l10.below hb, h.l11.below hb, h.l12.below hb, h.l13.below hb, h.l14.below hb, h.l15.below hb⟩
theorem OptIsP.lt {w : World} {N : Nat} {o : Opt} (h : OptIsP w N o) : N < w.heap.size := by
  obtain ⟨v6, v7, v8, v9, v10, v11, v12, v13, v14, v15, h⟩ := h; exact h.row.lt
theorem OptIsP.below {w w' : World} {N : Nat} {o : Opt} (h : OptIsP w N o) (hb : Below w.heap.size w w') : OptIsP w' N o := by
  obtain ⟨v6, v7, v8, v9, v10, v11, v12, v13, v14, v15, h⟩ := h
  exact ⟨v6, v7, v8, v9, v10, v11, v12, v13, v14, v15, h.below hb⟩
set_option maxRecDepth 100000 in
set_option maxHeartbeats 25600000 in
theorem rrP_any (o : Opt) (N : Nat) (w : World) (hG : Good w) (ho : OptIsP w N o) (hk : OptOk o) :
    Calls Tryz.prog 75 #[.pointer (some ⟨N, 0, none⟩)] w fun e w' => e = .returned (.string (mkS (rrL o))) ∧ Below w.heap.size w w' := by
  obtain ⟨v6, v7, v8, v9, v10, v11, v12, v13, v14, v15, ho⟩ := ho
  obtain ⟨a11, c11, rfl, hdy⟩ := ho.l11.form
  have HDY := Lib.hid hdy; clear hdy
  have HO := Lib.hid ho
  have HK := Lib.hid hk
  have HRR := Lib.hid (show rrL o = Lib.join (q14 o) [59] from rfl)
  have HSH := Lib.hid (show Short (q14 o) 15 from partsP_short o hk)
  obtain ⟨j, hj, hfq⟩ : ∃ j : Nat, j < 7 ∧ o.fq = (j : Int) := ⟨o.fq.toNat, by have := hk.fq; omega, by have := hk.fq; omega⟩
  have H81 := Lib.hid (fun w => (freqStr_any j hj w).mono fun e w' (h : e = .returned (.string (mkS (freqL j))) ∧ w' = w) => (⟨h.1, h.2.symm⟩ : e = .returned (.string (mkS (freqL j))) ∧ w = w'))
  have hN := ho.row.lt
  have zf := size_mkS (freqL j)
  have zfl := freqL_len j
  have hap0 : (⟨#[70, 82, 69, 81, 61]⟩ : ByteArray) ++ mkS (freqL j) = mkS (kFreq ++ freqL j) := kapp kFreq _
  have hp0 : Hid (q0 o = [kFreq ++ freqL j]) := Lib.hid (by unfold q0 p0; rw [hfq, Int.toNat_natCast])
  clear hk
  have hrow := ho.row
  rw [hfq] at hrow
  have hc0 := hrow.cell 0 rfl
  have hc2 := hrow.cell 3 rfl
  have HFQ := Lib.hid hfq
  clear ho hrow hfq
  go_enter Tryz.func75, Tryz.ntmps75
  go_upto_if 18 with (go_at_call 81; go_must (refine (H81.out _).mono ?_; rintro e w1 ⟨rfl, rfl⟩))
  have hown : StrOwn (w.alloc (.cells #[.string (mkS (kFreq ++ freqL j))] 9)) w.heap.size (.slice (some ⟨w.heap.size, 0, none⟩) 1 1) (q0 o) := by
    rw [hp0.out]
    exact World.ownsRow_lit w #[strV (kFreq ++ freqL j)] 1 (Nat.le_refl _) (by simp [maxLen]) rfl
  have hb : Below w.heap.size w (w.alloc (.cells #[.string (mkS (kFreq ++ freqL j))] 9)) := (Below.refl _ _).alloc (Nat.le_refl _) _
  generalize w.alloc (.cells #[.string (mkS (kFreq ++ freqL j))] 9) = W1 at *
  generalize (Value.slice (some ⟨w.heap.size, 0, none⟩) 1 1) = s3 at *
  clear hc0 hc2 hN hap0 zf zfl
  -- part 1
  generalize hbb : (o.iv != 0) = bb
  have HBB := Lib.hid hbb; clear hbb
  go_cut [3] from 19 to 27 (fun s3 wx => StrOwn wx w.heap.size s3 (q1 o) ∧ Below w.heap.size w wx)
  case first =>
    cases bb with
    | false =>
      go_wp2
      go_meet
      exact ⟨by rw [q1_nil HBB.out]; exact hown, hb⟩
    | true =>
      have hrow := (HO.out.below hb).row
      have hc3 := hrow.cell 3 rfl
      have zx := size_mkS (Lib.itoa o.iv)
      have zxl : (Lib.itoa o.iv).length ≤ 100 := Nat.le_trans (itoa_len _ HK.out.iv.1 HK.out.iv.2) (by decide)
      have hap : (⟨#[73, 78, 84, 69, 82, 86, 65, 76, 61]⟩ : ByteArray) ++ mkS (Lib.itoa o.iv) = mkS (kInt ++ (Lib.itoa o.iv)) := kapp kInt _
      have H := Lib.hid (fun w hG => itoa_any o.iv HK.out.iv.1 HK.out.iv.2 w hG)
      have HGx := hG.below hb
      clear hrow
      go_wp2_with (first
        | (go_at_call 101; go_must (refine (H.out _ HGx).mono ?_; rintro e w2 ⟨rfl, hb2⟩; have HB2 := hb.trans (hb2.mono hb.size); have hown2 := hown.below hb2; have hsz2 := HB2.size))
        | (at_builtin; go_must (refine app1 w.heap.size _ _ 56 (.string ByteArray.empty) 16 Tryz.underlying56 Tryz.info9 rfl rfl hown2 HB2 hsz2 (Nat.le_trans (q0_len o) (by decide)) (by omega) rfl rfl rfl rfl ?_); intro v' w5 hown5 hb5 hsz5))
      go_meet
      exact ⟨by rw [q1_cons HBB.out]; exact own_snoc hown5, hb5⟩
  case rest =>
  obtain ⟨hown, hb⟩ := hcut
  clear HBB
  have hrow := (HO.out.below hb).row
  have hc4 := hrow.cell 4 rfl
  have hc5 := hrow.cell 5 rfl
  clear hrow
  have hg0 : wc.cell? ⟨2, 0, none⟩ = some (.int .i64 0) := ((hG.below hb).days 0 (by omega)).1
  have hg1 : wc.cell? ⟨2, 1, none⟩ = some (.int .i64 0) := ((hG.below hb).days 0 (by omega)).2
  have hne := fun W => neq103 o.wk.1 o.wk.2 W
  have hgd : Tryz.prog.eqGuardType Tryz.prog.depth 103 = false := by kernel_rfl
  go_upto_region 4 with fail
  go_quiet (fail)
  go_upto_if 33 with fail
  have hown := hown.below (bdrewN (Below.refl _ _) nq)
  have hb := bdrewN hb nq
  generalize wc.drewN nq = W2 at *
  clear hc4 hc5 hg0 hg1 hne hgd
  -- part 2
  generalize hbb : (!(o.wk.1 == 0) || !(o.wk.2 == 0)) = bb
  have HBB := Lib.hid hbb; clear hbb
  go_cut [3] from 34 to 42 (fun s3 wx => StrOwn wx w.heap.size s3 (q2 o) ∧ Below w.heap.size w wx)
  case first =>
    cases bb with
    | false =>
      go_wp2
      go_meet
      exact ⟨by rw [q2_nil HBB.out]; exact hown, hb⟩
    | true =>
      have hrow := (HO.out.below hb).row
      have hc4 := hrow.cell 4 rfl
      have hc5 := hrow.cell 5 rfl
      have zx := size_mkS (dayStr o.wk.1.toNat o.wk.2)
      have zxl : (dayStr o.wk.1.toNat o.wk.2).length ≤ 100 := Nat.le_trans (dayStr_len _ _ HK.out.wk.2.2) (by decide)
      have hap : (⟨#[87, 75, 83, 84, 61]⟩ : ByteArray) ++ mkS (dayStr o.wk.1.toNat o.wk.2) = mkS (kWkst ++ (dayStr o.wk.1.toNat o.wk.2)) := kapp kWkst _
      have H := Lib.hid (fun w hG => dayStr_any o.wk.1.toNat (by have := HK.out.wk; omega) o.wk.2 HK.out.wk.2.2.1 HK.out.wk.2.2.2 w hG)
      have hwd : Hid (((o.wk.1.toNat : Nat) : Int) = o.wk.1) := Lib.hid (by have := HK.out.wk; omega)
      rw [hwd.out] at H
      clear hwd
      have HGx := hG.below hb
      clear hrow
      go_wp2_with (first
        | (go_at_call 71; go_must (refine (H.out _ HGx).mono ?_; rintro e w2 ⟨rfl, hb2⟩; have HB2 := hb.trans (hb2.mono hb.size); have hown2 := hown.below hb2; have hsz2 := HB2.size))
        | (at_builtin; go_must (refine app1 w.heap.size _ _ 56 (.string ByteArray.empty) 16 Tryz.underlying56 Tryz.info9 rfl rfl hown2 HB2 hsz2 (Nat.le_trans (q1_len o) (by decide)) (by omega) rfl rfl rfl rfl ?_); intro v' w5 hown5 hb5 hsz5))
      go_meet
      exact ⟨by rw [q2_cons HBB.out]; exact own_snoc hown5, hb5⟩
  case rest =>
  obtain ⟨hown, hb⟩ := hcut
  clear HBB
  have hrow := (HO.out.below hb).row
  have hc6 := hrow.cell 6 rfl
  clear hrow
  go_upto_if 47 with fail
  clear hc6
  -- part 3
  generalize hbb : (o.ct != 0) = bb
  have HBB := Lib.hid hbb; clear hbb
  go_cut [3] from 48 to 56 (fun s3 wx => StrOwn wx w.heap.size s3 (q3 o) ∧ Below w.heap.size w wx)
  case first =>
    cases bb with
    | false =>
      go_wp2
      go_meet
      exact ⟨by rw [q3_nil HBB.out]; exact hown, hb⟩
    | true =>
      have hrow := (HO.out.below hb).row
      have hc6 := hrow.cell 6 rfl
      have zx := size_mkS (Lib.itoa o.ct)
      have zxl : (Lib.itoa o.ct).length ≤ 100 := Nat.le_trans (itoa_len _ HK.out.ct.1 HK.out.ct.2) (by decide)
      have hap : (⟨#[67, 79, 85, 78, 84, 61]⟩ : ByteArray) ++ mkS (Lib.itoa o.ct) = mkS (kCount ++ (Lib.itoa o.ct)) := kapp kCount _
      have H := Lib.hid (fun w hG => itoa_any o.ct HK.out.ct.1 HK.out.ct.2 w hG)
      have HGx := hG.below hb
      clear hrow
      go_wp2_with (first
        | (go_at_call 101; go_must (refine (H.out _ HGx).mono ?_; rintro e w2 ⟨rfl, hb2⟩; have HB2 := hb.trans (hb2.mono hb.size); have hown2 := hown.below hb2; have hsz2 := HB2.size))
        | (at_builtin; go_must (refine app1 w.heap.size _ _ 56 (.string ByteArray.empty) 16 Tryz.underlying56 Tryz.info9 rfl rfl hown2 HB2 hsz2 (Nat.le_trans (q2_len o) (by decide)) (by omega) rfl rfl rfl rfl ?_); intro v' w5 hown5 hb5 hsz5))
      go_meet
      exact ⟨by rw [q3_cons HBB.out]; exact own_snoc hown5, hb5⟩
  case rest =>
  obtain ⟨hown, hb⟩ := hcut
  clear HBB
  have hrow := (HO.out.below hb).row
  have hc7 := hrow.cell 7 rfl
  have hc8 := hrow.cell 8 rfl
  clear hrow
  have H93 := Lib.hid (fun w => (isZero_any o.un.1 o.un.2 w : Calls Tryz.prog 93 #[.agg #[.int .i64 o.un.1, .int .i64 o.un.2]] w fun e w' => e = .returned (.bool (isZ o.un)) ∧ Below w.heap.size w w'))
  go_upto_if 62 with (go_at_call 93; go_must (refine (H93.out _).mono ?_; rintro e w2 ⟨rfl, hb2⟩; have HB2 := hb.trans (hb2.mono hb.size); have hown2 := hown.below hb2))
  clear hc7 hc8 hown hb hb2
  have hown := hown2
  have hb := HB2
  clear hown2 HB2
  -- part 4
  generalize hbb : (!(o.un.1 == 0) || !(o.un.2 == 0)) = bb
  have HBB := Lib.hid hbb; clear hbb
  go_cut [3] from 63 to 71 (fun s3 wx => StrOwn wx w.heap.size s3 (q4 o) ∧ Below w.heap.size w wx)
  case first =>
    cases bb with
    | false =>
      go_wp2
      go_meet
      exact ⟨by rw [q4_nil HBB.out]; exact hown, hb⟩
    | true =>
      have hrow := (HO.out.below hb).row
      have hc7 := hrow.cell 7 rfl
      have hc8 := hrow.cell 8 rfl
      have zx := size_mkS (stampS o.un.1)
      have zxl : (stampS o.un.1).length ≤ 100 := by rw [stampS_len _ HK.out.un]; decide
      have hap : (⟨#[85, 78, 84, 73, 76, 61]⟩ : ByteArray) ++ mkS (stampS o.un.1) = mkS (kUntil ++ (stampS o.un.1)) := kapp kUntil _
      have H := Lib.hid (fun w hG => timeStrS o.un.1 o.un.2 HK.out.un w hG)
      have HGx := hG.below hb
      clear hrow
      go_wp2_with (first
        | (go_at_call 102; go_must (refine (H.out _ HGx).mono ?_; rintro e w2 ⟨rfl, hb2⟩; have HB2 := hb.trans (hb2.mono hb.size); have hown2 := hown.below hb2; have hsz2 := HB2.size))
        | (at_builtin; go_must (refine app1 w.heap.size _ _ 56 (.string ByteArray.empty) 16 Tryz.underlying56 Tryz.info9 rfl rfl hown2 HB2 hsz2 (Nat.le_trans (q3_len o) (by decide)) (by omega) rfl rfl rfl rfl ?_); intro v' w5 hown5 hb5 hsz5))
      go_meet
      exact ⟨by rw [q4_cons HBB.out]; exact own_snoc hown5, hb5⟩
  case rest =>
  obtain ⟨hown, hb⟩ := hcut
  clear HBB
  have hA := HO.out.below hb
  have hc := hA.row.cell 9 rfl
  have hv := hA.l6
  have hGx := hG.below hb
  have H : Hid (Calls Tryz.prog 103 #[_, .string ⟨#[66, 89, 83, 69, 84, 80, 79, 83]⟩, _] _ (AppPost w (q5 o))) := Lib.hid (app103_any (q4 o) (keyNm 6) o.sp _ _ w _ hGx hown hb hv HK.out.sp (Nat.le_trans (keyNm_len _) (by decide)) (Nat.le_trans (q4_len o) (by decide)))
  clear hA hv hGx hown hb
  go_upto_region 11 with (go_at_call 103; go_must (refine H.out.mono ?_; rintro e wc ⟨s3, rfl, hown, hb⟩))
  clear hc H
  have hA := HO.out.below hb
  have hc := hA.row.cell 10 rfl
  have hv := hA.l7
  have hGx := hG.below hb
  have H : Hid (Calls Tryz.prog 103 #[_, .string ⟨#[66, 89, 77, 79, 78, 84, 72]⟩, _] _ (AppPost w (q6 o))) := Lib.hid (app103_any (q5 o) (keyNm 7) o.mo _ _ w _ hGx hown hb hv HK.out.mo (Nat.le_trans (keyNm_len _) (by decide)) (Nat.le_trans (q5_len o) (by decide)))
  clear hA hv hGx hown hb
  go_upto_region 12 with (go_at_call 103; go_must (refine H.out.mono ?_; rintro e wc ⟨s3, rfl, hown, hb⟩))
  clear hc H
  have hA := HO.out.below hb
  have hc := hA.row.cell 11 rfl
  have hv := hA.l8
  have hGx := hG.below hb
  have H : Hid (Calls Tryz.prog 103 #[_, .string ⟨#[66, 89, 77, 79, 78, 84, 72, 68, 65, 89]⟩, _] _ (AppPost w (q7 o))) := Lib.hid (app103_any (q6 o) (keyNm 8) o.md _ _ w _ hGx hown hb hv HK.out.md (Nat.le_trans (keyNm_len _) (by decide)) (Nat.le_trans (q6_len o) (by decide)))
  clear hA hv hGx hown hb
  go_upto_region 13 with (go_at_call 103; go_must (refine H.out.mono ?_; rintro e wc ⟨s3, rfl, hown, hb⟩))
  clear hc H
  have hA := HO.out.below hb
  have hc := hA.row.cell 12 rfl
  have hv := hA.l9
  have hGx := hG.below hb
  have H : Hid (Calls Tryz.prog 103 #[_, .string ⟨#[66, 89, 89, 69, 65, 82, 68, 65, 89]⟩, _] _ (AppPost w (q8 o))) := Lib.hid (app103_any (q7 o) (keyNm 9) o.yd _ _ w _ hGx hown hb hv HK.out.yd (Nat.le_trans (keyNm_len _) (by decide)) (Nat.le_trans (q7_len o) (by decide)))
  clear hA hv hGx hown hb
  go_upto_region 14 with (go_at_call 103; go_must (refine H.out.mono ?_; rintro e wc ⟨s3, rfl, hown, hb⟩))
  clear hc H
  have hA := HO.out.below hb
  have hc := hA.row.cell 13 rfl
  have hv := hA.l10
  have hGx := hG.below hb
  have H : Hid (Calls Tryz.prog 103 #[_, .string ⟨#[66, 89, 87, 69, 69, 75, 78, 79]⟩, _] _ (AppPost w (q9 o))) := Lib.hid (app103_any (q8 o) (keyNm 10) o.wn _ _ w _ hGx hown hb hv HK.out.wn (Nat.le_trans (keyNm_len _) (by decide)) (Nat.le_trans (q8_len o) (by decide)))
  clear hA hv hGx hown hb
  go_upto_region 15 with (go_at_call 103; go_must (refine H.out.mono ?_; rintro e wc ⟨s3, rfl, hown, hb⟩))
  clear hc H
  have hrow := (HO.out.below hb).row
  have hc := hrow.cell 14 rfl
  clear hrow
  go_upto_if 107 with fail
  clear hc
  generalize hbb : ((o.dy.length : Int) != 0) = bb
  have HBB := Lib.hid hbb; clear hbb
  go_cut [3, 4, 5, 6] from 108 to 135 (fun s3 _ _ _ wx => StrOwn wx w.heap.size s3 (q10 o) ∧ Below w.heap.size w wx)
  case first =>
    cases bb with
    | false =>
      go_wp2
      go_meet
      exact ⟨by rw [q10_nil HBB.out]; exact hown, hb⟩
    | true =>
      obtain ⟨hq10, hpos⟩ := q10_cons HBB.out
      have HQ10 := Lib.hid hq10; clear hq10
      obtain ⟨g, gq, rfl, hdr⟩ : ∃ g gq, a11 = some ⟨g, gq, none⟩ ∧ DayRowQ w g gq o.dy := by
        rcases HDY.out with h | h
        · rw [h] at hpos; simp at hpos
        · exact h
      have hdr := hdr.below hb
      have hrow := (HO.out.below hb).row
      have hc14 := hrow.cell 14 rfl
      clear hrow
      have hdl := HK.out.dy.len
      obtain ⟨i0, hi, hz0, hz1, hz2⟩ := info_parts Tryz.info9
      have hHO := Lib.hid (HO.out.below hb)
      go_wp2_with (at_make; go_must (refine wpList_make_full wc rfl _ _ 56 rfl wc.heap.size 9 i0 (.string ByteArray.empty) 1 Tryz.underlying56 hi hz0 hz1 .i64 .i64 _ _ o.dy.length rfl rfl rfl rfl (by rw [hz2]; omega) (by simp only [maxLen]; omega) (Nat.le_refl _) ?_; intro w2 hownm hgr; have hb2 := below_none (Below.refl wc.heap.size wc) hgr; have hr0 := RowAt.of_own hownm; have hc14' := ((hHO.out.below hb2).row).cell 14 rfl))
      rw [made_strs] at hr0
      have hi2 := hdr.below hb2
      have hgN : g ≠ wc.heap.size := Nat.ne_of_lt hdr.lt
      have hJ : Hid (Lib.join (o.dy.map fun p => dayStr p.1.toNat p.2) [44] = daysJ o.dy) := rfl
      have hJl : Hid ((daysJ o.dy).length ≤ 24000) := daysJ_len o.dy HK.out.dy
      have HIN := Lib.hid HK.out.dy.rng
      generalize hdyz : o.dy = ds at *
      have HDZ := Lib.hid hdyz; clear hdyz
      clear hownm hgr hc14 hc14' hdr
      generalize hNN : wc.heap.size = NN at *
      have HNN := Lib.hid hNN; clear hNN
      go_loopw [119] (fun i wr => ∃ k : Nat, k ≤ ds.length ∧ i = .int .i64 k ∧ RowAt wr NN 9 ((ds.take k).map (fun p => strV (dayStr p.1.toNat p.2)) ++ List.replicate (ds.length - k) (.string ByteArray.empty)) ∧ DayRowQ wr g gq ds ∧ Below NN wc wr) (fun i _ => ds.length - (intOf i).toNat)
      case atStart => exact ⟨0, by omega, rfl, by simpa using hr0, hi2, hb2⟩
      case round =>
        obtain ⟨k, hkl, rfl, hrw, hir, hbr⟩ := hrel
        have hszr : NN ≤ wr.heap.size := by rw [← HNN.out]; exact hbr.size
        by_cases hlt : k < ds.length
        · obtain ⟨hcd, hcn⟩ := hir.cell k ds[k] (by simp [hlt])
          have hst := snoc_take (fun p : Int × Int => strV (dayStr p.1.toNat p.2)) ds k hlt
          have hr := HIN.out _ (List.getElem_mem hlt)
          generalize ds[k] = p at hcd hcn hst hr
          obtain ⟨d, n⟩ := p
          simp only at hcd hcn hst hr
          obtain ⟨m, hm, rfl⟩ : ∃ m : Nat, m < 7 ∧ d = (m : Int) := ⟨d.toNat, by omega, by omega⟩
          rw [Int.toNat_natCast] at hst
          have HST := Lib.hid hst; clear hst
          have H71 := Lib.hid (fun w hG => dayStr_any m hm n hr.2.2.1 hr.2.2.2 w hG)
          clear hr
          have hal : Below wr.heap.size wr (wr.alloc (.cells #[.int .i64 m, .int .i64 n] 103)) := (Below.refl _ _).alloc (Nat.le_refl _) _
          have hrwa := hrw.below hal
          have hrc := hrwa.cell k (v := .string ByteArray.empty) (by rw [List.getElem?_append_right (by simp; omega)]; simp [List.getElem?_replicate]; omega)
          have hrf := hrwa.frozen k
          have hrl := hrwa.lt
          have hGr : Hid (Good (wr.alloc (.cells #[.int .i64 m, .int .i64 n] 103))) := Lib.hid ((hG.below (hb.trans (hbr.mono (by first | exact hb.size | (rw [← HNN.out]; exact hb.size))))).below hal)
          go_wp2_with (go_at_call 71; go_must (refine (H71.out _ hGr.out).mono ?_; rintro e w3 ⟨rfl, hb3⟩; have hrc3 := cell_below hb3 hrc; have hrf3 := frozen_below hb3 hrl hrf; have HB3 := hal.trans (hb3.mono hal.size)))
          have hr3 := (hrw.below HB3).set k (strV (dayStr m n))
          go_roundw
          case rel =>
            refine ⟨k + 1, by omega, by go_num, ?_, (hir.below HB3).set hgN _ _, (hbr.trans (HB3.mono hszr)).setCell (Nat.le_refl _) _⟩
            rw [HST.out]
            have hset : (List.map (fun p : Int × Int => strV (dayStr p.1.toNat p.2)) (ds.take k) ++ List.replicate (ds.length - k) (Value.string ByteArray.empty)).set k (strV (dayStr m n)) = List.map (fun p : Int × Int => strV (dayStr p.1.toNat p.2)) (ds.take k) ++ [strV (dayStr m n)] ++ List.replicate (ds.length - (k + 1)) (Value.string ByteArray.empty) := by
              rw [List.set_append_right _ _ (by simp; omega), show ds.length - k = (ds.length - (k + 1)) + 1 by omega, List.replicate_succ]
              simp [Nat.min_eq_left (Nat.le_of_lt hlt)]
            rw [hset] at hr3
            exact hr3
          case measure => simp [intOf]; omega
        · obtain rfl : k = ds.length := by omega
          rw [List.take_length, Nat.sub_self] at hrw
          have hjoin := fun w (h : RowAt w NN 9 (ds.map (fun p => strV (dayStr p.1.toNat p.2)) ++ List.replicate 0 (Value.string ByteArray.empty))) => Tryz.strings_Join NN 0 ds.length (ds.map fun p => mkS (dayStr p.1.toNat p.2)) ⟨#[44]⟩ w
            (fun j x hx => by rw [Nat.zero_add]; exact h.cell j (by rw [List.getElem?_append_left (by have := (List.getElem?_eq_some_iff.1 hx).1; simpa using this)]; rw [List.getElem?_map] at hx ⊢; cases hz : ds[j]? <;> rw [hz] at hx <;> simp at hx ⊢; rw [← hx]; rfl)) h.lt (by simp; omega) (by simp)
            (by rw [List.map_map]; show (Lib.join (ds.map fun p => dayStr p.1.toNat p.2) [44]).length ≤ _; rw [hJ.out]; have := hJl.out; omega)
          rw [List.length_map, List.map_map] at hjoin
          change ∀ w, _ → Calls Tryz.prog 104 _ w fun e w' => e = .returned (.string ⟨(Lib.join (ds.map fun p => dayStr p.1.toNat p.2) [44]).toArray⟩) ∧ _ at hjoin
          rw [hJ.out] at hjoin
          have HJN := Lib.hid hjoin; clear hjoin
          have zj := size_mkS (daysJ ds)
          have zjl := hJl.out
          have hap : (⟨#[66, 89, 68, 65, 89, 61]⟩ : ByteArray) ++ mkS (daysJ ds) = mkS (kDay ++ daysJ ds) := kapp kDay _
          generalize daysJ ds = J at *
          have hownr := Lib.hid (hown.below (w' := wr) (by rw [HNN.out]; exact hbr))
          have hbw := hb.trans (hbr.mono (by first | exact hb.size | (rw [← HNN.out]; exact hb.size)))
          go_wp2_with (first
            | (go_at_call 104; go_must (refine (HJN.out _ hrw).mono ?_; rintro e w4 ⟨rfl, hb4⟩; have hown4 := hownr.out.below hb4; have HB4 := hbw.trans (hb4.mono hbw.size); have hsz4 := HB4.size))
            | (at_builtin; go_must (refine app1 w.heap.size _ _ 56 (.string ByteArray.empty) 16 Tryz.underlying56 Tryz.info9 rfl rfl hown4 HB4 hsz4 (Nat.le_trans (q9_len o) (by decide)) (by omega) rfl rfl rfl rfl ?_); intro v' w5 hown5 hb5 hsz5))
          go_meet
          exact ⟨by rw [HQ10.out]; exact own_snoc hown5, hb5⟩
  case rest =>
  obtain ⟨hown, hb⟩ := hcut
  have hA := HO.out.below hb
  have hc := hA.row.cell 15 rfl
  have hv := hA.l12
  have hGx := hG.below hb
  have H : Hid (Calls Tryz.prog 103 #[_, .string ⟨#[66, 89, 72, 79, 85, 82]⟩, _] _ (AppPost w (q11 o))) := Lib.hid (app103_any (q10 o) (keyNm 12) o.ho _ _ w _ hGx hown hb hv HK.out.ho (Nat.le_trans (keyNm_len _) (by decide)) (Nat.le_trans (q10_len o) (by decide)))
  clear hA hv hGx hown hb
  go_upto_region 24 with (go_at_call 103; go_must (refine H.out.mono ?_; rintro e wc ⟨s3, rfl, hown, hb⟩))
  clear hc H
  have hA := HO.out.below hb
  have hc := hA.row.cell 16 rfl
  have hv := hA.l13
  have hGx := hG.below hb
  have H : Hid (Calls Tryz.prog 103 #[_, .string ⟨#[66, 89, 77, 73, 78, 85, 84, 69]⟩, _] _ (AppPost w (q12 o))) := Lib.hid (app103_any (q11 o) (keyNm 13) o.mi _ _ w _ hGx hown hb hv HK.out.mi (Nat.le_trans (keyNm_len _) (by decide)) (Nat.le_trans (q11_len o) (by decide)))
  clear hA hv hGx hown hb
  go_upto_region 25 with (go_at_call 103; go_must (refine H.out.mono ?_; rintro e wc ⟨s3, rfl, hown, hb⟩))
  clear hc H
  have hA := HO.out.below hb
  have hc := hA.row.cell 17 rfl
  have hv := hA.l14
  have hGx := hG.below hb
  have H : Hid (Calls Tryz.prog 103 #[_, .string ⟨#[66, 89, 83, 69, 67, 79, 78, 68]⟩, _] _ (AppPost w (q13 o))) := Lib.hid (app103_any (q12 o) (keyNm 14) o.se _ _ w _ hGx hown hb hv HK.out.se (Nat.le_trans (keyNm_len _) (by decide)) (Nat.le_trans (q12_len o) (by decide)))
  clear hA hv hGx hown hb
  go_upto_region 26 with (go_at_call 103; go_must (refine H.out.mono ?_; rintro e wc ⟨s3, rfl, hown, hb⟩))
  clear hc H
  have hA := HO.out.below hb
  have hc := hA.row.cell 18 rfl
  have hv := hA.l15
  have hGx := hG.below hb
  have H : Hid (Calls Tryz.prog 103 #[_, .string ⟨#[66, 89, 69, 65, 83, 84, 69, 82]⟩, _] _ (AppPost w (q14 o))) := Lib.hid (app103_any (q13 o) (keyNm 15) o.ea _ _ w _ hGx hown hb hv HK.out.ea (Nat.le_trans (keyNm_len _) (by decide)) (Nat.le_trans (q13_len o) (by decide)))
  clear hA hv hGx hown hb
  go_upto_region 27 with (go_at_call 103; go_must (refine H.out.mono ?_; rintro e wc ⟨s3, rfl, hown, hb⟩))
  clear hc H
  have H : Hid (Calls Tryz.prog 104 #[_, .string ⟨#[59]⟩] _ _) := Lib.hid (join_own (q14 o) 59 15 _ w.heap.size _ hown (by unfold q14 q13 q12 q11 q10 q9 q8 q7 q6 q5 q4 q3 q2 q1 q0 p0; simp) HSH.out (by decide))
  clear hown
  go_wp2_with (go_at_call 104; go_must (refine H.out.mono ?_; rintro e w9 ⟨rfl, hb9⟩))
  go_ret
  exact ⟨by rw [HRR.out]; rfl, hb.trans (hb9.mono hb.size)⟩
set_option maxRecDepth 100000 in
set_option maxHeartbeats 3200000 in
theorem optStrP_any (o : Opt) (N : Nat) (w : World) (hG : Good w) (ho : OptIsP w N o) (hk : OptOk o) :
    Calls Tryz.prog 67 #[.pointer (some ⟨N, 0, none⟩)] w fun e w' => e = .returned (.string (mkS (optL o))) ∧ Below w.heap.size w w' := by
  have H75 := Lib.hid (rrP_any o N w hG ho hk)
  have HO := Lib.hid ho
  have H97 := Lib.hid (fun w hG => rfcS o.st.1 o.st.2 hk.st w hG)
  have H93 := Lib.hid (fun w => isZero_any o.st.1 o.st.2 w)
  have zr := size_mkS (rrL o)
  have zrl := rrL_len o hk
  have zc : (mkS (rfcL (stampS o.st.1))).size = 17 := by rw [size_mkS]; unfold rfcL; rw [List.length_cons, stampS_len _ hk.st]
  have hZ := @optL_zero o
  have hS := @optL_some o
  have HZ : Hid ((o.st.1 == 0 && o.st.2 == 0) = true → optL o = rrL o) := hZ
  have HS : Hid ((o.st.1 == 0 && o.st.2 == 0) = false → optL o = dtL ++ rfcL (stampS o.st.1) ++ nlL ++ rrL o) := hS
  clear hZ hS hk ho
  generalize rrL o = rr at *
  generalize rfcL (stampS o.st.1) = rf at *
  have ha1 : (⟨#[68, 84, 83, 84, 65, 82, 84]⟩ : ByteArray) ++ mkS rf = mkS (dtL ++ rf) := kapp dtL rf
  have z1 : (mkS (dtL ++ rf)).size = 24 := by rw [size_mkS] at zc ⊢; rw [List.length_append, zc]; rfl
  generalize dtL ++ rf = X1 at *
  have ha2 : mkS X1 ++ (⟨#[10, 82, 82, 85, 76, 69, 58]⟩ : ByteArray) = mkS (X1 ++ nlL) := kapp _ nlL
  have z2 : (mkS (X1 ++ nlL)).size = 31 := by rw [size_mkS] at z1 ⊢; rw [List.length_append, z1]; rfl
  generalize X1 ++ nlL = X2 at *
  have ha3 : mkS X2 ++ mkS rr = mkS (X2 ++ rr) := kapp _ _
  go_enter Tryz.func67, Tryz.ntmps67
  go_upto_region 2 with (go_at_call 75; go_must (refine H75.out.mono ?_; rintro e w1 ⟨rfl, hb1⟩))
  have hc1 : w1.cell? ⟨N, 1, none⟩ = some (.int .i64 o.st.1) := by
    obtain ⟨v6, v7, v8, v9, v10, v11, v12, v13, v14, v15, h⟩ := HO.out.below hb1
    exact h.row.cell 1 rfl
  have hc2 : w1.cell? ⟨N, 2, none⟩ = some (.int .i64 o.st.2) := by
    obtain ⟨v6, v7, v8, v9, v10, v11, v12, v13, v14, v15, h⟩ := HO.out.below hb1
    exact h.row.cell 2 rfl
  go_upto_if 10 with (go_at_call 93; go_must (refine (H93.out _).mono ?_; rintro e w2 ⟨rfl, hb2⟩))
  have hc3 := cell_below hb2 hc1
  have hc4 := cell_below hb2 hc2
  have hB2 := hb1.trans (hb2.mono hb1.size)
  have hG2 := hG.below hB2
  clear hb1 hb2 hc1 hc2
  generalize hz : (o.st.1 == 0 && o.st.2 == 0) = z at *
  have HZZ := Lib.hid hz; clear hz
  cases z with
  | true =>
    have HZ1 := Lib.hid (HZ.out rfl)
    go_wp2
    go_ret
    exact ⟨by rw [HZ1.out]; rfl, hB2⟩
  | false =>
    have HS1 := Lib.hid (HS.out rfl)
    go_wp2_with (go_at_call 97; go_must (refine (H97.out _ hG2).mono ?_; rintro e w3 ⟨rfl, hb3⟩))
    go_ret
    exact ⟨by rw [HS1.out]; rfl, hB2.trans (hb3.mono hB2.size)⟩
end Go.Proofs.YtcfbkkcamiephaaGreatDoor
