import Derived.Test.YtcfbkkcamiephaaGreatDoorH2
import Derived.Test.YtcfbkkcamiephaaGreatDoorY1
import Derived.Test.YtcfbkkcamiephaaGreatDoorBv
namespace Go.Proofs.YtcfbkkcamiephaaGreatDoor
open Go.RowKit

/-! ### FnTextDates -/
theorem joinL_snocH (L : List (List UInt8)) (x : List UInt8) (c : UInt8) : Lib.join (L ++ [x]) [c] = if L = [] then x else Lib.join L [c] ++ c :: x := by
  induction L with
  | nil => exact join_one1 x c
  | cons y r ih =>
    rw [if_neg (by simp)]
    cases r with
    | nil => rw [List.cons_append, List.nil_append, join_cons2, join_one1, join_one1]
    | cons z t =>
      rw [if_neg (by simp)] at ih
      rw [List.cons_append, List.cons_append, join_cons2, ← List.cons_append, ih, join_cons2, List.append_assoc, List.cons_append]
set_option maxRecDepth 100000 in
set_option maxHeartbeats 1600000 in
/-- textForm: a moment in one of its forms. -/
theorem form_any (n : Int) (h : InTime n) (f : Nat) (w : World) : Calls Tryz.prog 48 #[.int .i64 n, .int .u8 (f : Int)] w fun e w' => e = .returned (.string (mkS (formT n f))) ∧ Below w.heap.size w w' := by
  have H33 := Lib.hid (fun w => textTime_any n w h)
  have hln := stampS_len n h
  have zt : (mkS (stampS n)).size = 16 := by rw [size_mkS, hln]
  have hx15 : (mkS (stampS n)).extract 0 15 = mkS ((stampS n).take 15) := by rw [extract_mkS, mkS_data]; simp
  have hx8 : (mkS (stampS n)).extract 0 8 = mkS ((stampS n).take 8) := by rw [extract_mkS, mkS_data]; simp
  have hx9 : (mkS (stampS n)).extract 8 16 = mkS ((stampS n).drop 8) := by rw [extract_mkS, mkS_data, List.take_of_length_le (show (List.drop 8 (stampS n)).length ≤ 16 - 8 by rw [List.length_drop]; omega)]
  unfold formT
  clear h hln
  generalize (stampS n).take 15 = t15 at *
  generalize (stampS n).take 8 = t8 at *
  generalize (stampS n).drop 8 = d8 at *
  generalize stampS n = st at *
  have tl := toList_mkS d8
  rcases (show f % 3 = 0 ∨ f % 3 = 1 ∨ f % 3 = 2 by omega) with hf | hf | hf
  · have hr : Int.tmod (f : Int) 3 = 0 := by show ((f % 3 : Nat) : Int) = 0; rw [hf]; rfl
    rw [if_neg (by omega), if_neg (fun h => by omega)]
    clear hf
    go_enter Tryz.func48, Tryz.ntmps48
    go_wp2_with (first
      | (go_at_call 33; go_must (refine (H33.out _).mono ?_; rintro e w1 ⟨rfl, hb1⟩))
      | (fail))
    go_ret
    exact ⟨rfl, hb1⟩
  · have hr : Int.tmod (f : Int) 3 = 1 := by show ((f % 3 : Nat) : Int) = 1; rw [hf]; rfl
    rw [if_pos hf]
    clear hf
    go_enter Tryz.func48, Tryz.ntmps48
    go_wp2_with (first
      | (go_at_call 33; go_must (refine (H33.out _).mono ?_; rintro e w1 ⟨rfl, hb1⟩))
      | (fail))
    go_ret
    exact ⟨rfl, hb1⟩
  · have hr : Int.tmod (f : Int) 3 = 2 := by show ((f % 3 : Nat) : Int) = 2; rw [hf]; rfl
    rw [if_neg (by omega)]
    by_cases hd : d8 = [84, 48, 48, 48, 48, 48, 48, 90]
    · rw [if_pos ⟨hf, hd⟩]
      subst hd
      clear hf
      go_enter Tryz.func48, Tryz.ntmps48
      go_wp2_with (first
        | (go_at_call 33; go_must (refine (H33.out _).mono ?_; rintro e w1 ⟨rfl, hb1⟩))
        | (fail))
      go_ret
      exact ⟨rfl, hb1⟩
    · rw [if_neg (fun h => hd h.2)]
      have hdb : (d8 == [84, 48, 48, 48, 48, 48, 48, 90]) = false := by rw [beq_eq_false_iff_ne]; exact hd
      clear hf hd
      go_enter Tryz.func48, Tryz.ntmps48
      go_wp2_with (first
        | (go_at_call 33; go_must (refine (H33.out _).mono ?_; rintro e w1 ⟨rfl, hb1⟩))
        | (fail))
      go_ret
      exact ⟨rfl, hb1⟩
def frontP (f : Nat) (ns : List Int) (fs : List Nat) (k : Nat) : List UInt8 := frontL f ++ Lib.join ((List.range k).map (gForm ns fs)) [44]
theorem frontP_succ (f : Nat) (ns : List Int) (fs : List Nat) (k : Nat) : frontP f ns fs (k + 1) = if k = 0 then frontP f ns fs k ++ gForm ns fs k else (frontP f ns fs k ++ [44]) ++ gForm ns fs k := by
  unfold frontP
  rw [List.range_succ, List.map_append, List.map_cons, List.map_nil, joinL_snocH]
  cases k with
  | zero => simp [Lib.join]
  | succ k =>
    rw [if_neg (by
      intro e
      have := congrArg List.length e
      simp at this), if_neg (by omega)]
    simp [List.append_assoc]
theorem front_len (f : Nat) : (frontL f).length ≤ 30 := by
  match f with
  | 0 => decide
  | 1 => decide
  | 2 => decide
  | 3 => decide
  | 4 => decide
  | 5 => decide
  | (n + 6) => show 0 ≤ 30; omega
theorem ix73 (k : Nat) (hk : k < 6) (W : World) : (Instr.index 73 (.agg #[.string ⟨#[]⟩, .string ⟨#[]⟩, .string ⟨#[86, 65, 76, 85, 69, 61, 68, 65, 84, 69, 45, 84, 73, 77, 69, 58]⟩, .string ⟨#[84, 90, 73, 68, 61, 85, 84, 67, 58]⟩, .string ⟨#[86, 65, 76, 85, 69, 61, 68, 65, 84, 69, 45, 84, 73, 77, 69, 59, 84, 90, 73, 68, 61, 85, 84, 67, 58]⟩, .string ⟨#[84, 90, 73, 68, 61, 85, 84, 67, 59, 86, 65, 76, 85, 69, 61, 68, 65, 84, 69, 58]⟩]) (.int .u8 k)).run Tryz.prog W = .ok (.string (mkS (frontL k))) W := by
  rcases (show k = 0 ∨ k = 1 ∨ k = 2 ∨ k = 3 ∨ k = 4 ∨ k = 5 by omega) with rfl | rfl | rfl | rfl | rfl | rfl <;> kernel_rfl
set_option maxRecDepth 100000 in
set_option maxHeartbeats 6400000 in
/-- FnTextDates: the walk. -/
theorem law_dates (hrule : RuleAny) (ns : List Int) (fs : List Nat) (f : Nat) (vl vf : Value) (w : World) (hG : Good w) (hvl : IntsV w vl ns) (hvf : BytesV w vf fs) :
    Calls Tryz.prog 17 #[vl, vf, .int .u8 (f : Int)] w fun e w' => e = .returned (.bool true) ∧ Below w.heap.size w w' := by
  obtain ⟨a, c, rfl, hr⟩ := hvl.form2
  have HVL := Lib.hid hvl
  obtain ⟨ao, co, rfl, hro⟩ := hvf
  have HR := Lib.hid hr
  have HRO := Lib.hid hro
  have HG := Lib.hid hG
  have H19 := Lib.hid (fun w hG => awake_any hrule option_any w hG)
  clear hG hrule hr hro hvl
  rcases Nat.lt_or_ge 2147483647 ns.length with hlong | hle
  · have hd : decide ((2147483647 : Int) < (ns.length : Int)) = true := by simp; omega
    clear H19 HR HRO HVL
    go_enter Tryz.func17, Tryz.ntmps17
    go_wp2
    go_ret
    exact ⟨rfl, Below.refl _ _⟩
  have hd : decide ((2147483647 : Int) < (ns.length : Int)) = false := by simp; omega
  rcases Nat.lt_or_ge 2147483647 fs.length with hlong | hlf
  · have hd2 : decide ((2147483647 : Int) < (fs.length : Int)) = true := by simp; omega
    clear H19 HR HRO HVL
    go_enter Tryz.func17, Tryz.ntmps17
    go_wp2
    go_ret
    exact ⟨rfl, Below.refl _ _⟩
  have hd2 : decide ((2147483647 : Int) < (fs.length : Int)) = false := by simp; omega
  by_cases h0 : ns.length = 0
  · have hd3 : ((ns.length : Int) == 0) = true := beq_iff_eq.2 (by omega)
    clear HR HRO HVL
    go_enter Tryz.func17, Tryz.ntmps17
    go_wp2_with (first
      | (go_at_call 19; go_must (refine (H19.out _ HG.out).mono ?_; rintro e w1 ⟨rfl, hb1⟩))
      | (fail))
    go_ret
    exact ⟨rfl, hb1⟩
  have hd3 : ((ns.length : Int) == 0) = false := beq_eq_false_iff_ne.2 (by omega)
  rcases Nat.lt_or_ge 50 ns.length with hlong | h50
  · have hd4 : decide ((50 : Int) < (ns.length : Int)) = true := by simp; omega
    clear HR HRO HVL
    go_enter Tryz.func17, Tryz.ntmps17
    go_wp2_with (first
      | (go_at_call 19; go_must (refine (H19.out _ HG.out).mono ?_; rintro e w1 ⟨rfl, hb1⟩))
      | (fail))
    go_ret
    exact ⟨rfl, hb1⟩
  have hd4 : decide ((50 : Int) < (ns.length : Int)) = false := by simp; omega
  obtain ⟨f6, hf6, hrem⟩ : ∃ q : Nat, q < 6 ∧ Int.tmod (f : Int) 6 = (q : Int) := ⟨f % 6, Nat.mod_lt _ (by omega), rfl⟩
  have hix := fun W => ix73 f6 hf6 W
  have hf0 : (0 : Int) ≤ (f6 : Int) := Int.natCast_nonneg _
  have hf1 : (f6 : Int) < 6 := by omega
  have hwf : IntKind.u8.wrap (f6 : Int) = (f6 : Int) := by
    rcases (show f6 = 0 ∨ f6 = 1 ∨ f6 = 2 ∨ f6 = 3 ∨ f6 = 4 ∨ f6 = 5 by omega) with h | h | h | h | h | h <;> rw [h] <;> decide
  go_enter Tryz.func17, Tryz.ntmps17
  go_upto_region 6 with fail
  have hfl := front_len f6
  have HW0 : Hid (frontL f6 = frontP f6 ns fs 0) := Lib.hid (by simp [frontP, Lib.join])
  clear hix hrem hd hd2 hd3 hd4 hwf hf0 hf1
  generalize frontL f6 = s0 at *
  go_wp2
  go_loopw [7, 36] (fun s i wr => ∃ (k : Nat) (t : List UInt8), k ≤ ns.length ∧ i = .int .i64 k ∧ s = .string (mkS t) ∧ t.length ≤ 30 + k * 17 ∧ Hid (t = frontP f6 ns fs k) ∧ Hid (Below w.heap.size w wr) ∧ Hid (∀ n ∈ ns.take k, InTime n)) (fun _ i _ => ns.length - (intOf i).toNat)
  case atStart => exact ⟨0, s0, by omega, rfl, rfl, by omega, HW0, Lib.hid (Below.refl _ _), Lib.hid (fun n hn => by simp at hn)⟩
  case round =>
  clear HW0 hfl
  obtain ⟨k, t, hk, rfl, rfl, htl, HT, HB, HIN⟩ := hrel
  by_cases hlt : k < ns.length
  case pos =>
    obtain ⟨g, gq, rfl, hg⟩ : ∃ g gq, a = some ⟨g, gq, none⟩ ∧ IntRowQ w g gq ns := by
      rcases HR.out with h | h
      · rw [h] at hlt; simp at hlt
      · exact h
    have hcx := (hg.below HB.out).cell k ns[k] (by simp [hlt])
    have HI2 : Hid (InTime ns[k] → ∀ n ∈ ns.take (k + 1), InTime n) := Lib.hid (fun h n hn => by
      rw [List.take_succ_eq_append_getElem hlt] at hn
      rcases List.mem_append.1 hn with hn | hn
      · exact HIN.out n hn
      · rw [List.mem_singleton] at hn; subst hn; exact h)
    have HGF : Hid (∀ x, fs.getD k 0 = x → gForm ns fs k = formT ns[k] x) := Lib.hid (fun x hx => by
      unfold gForm
      rw [hx, List.getD_eq_getElem?_getD, List.getElem?_eq_getElem hlt]; rfl)
    have hsn := frontP_succ f6 ns fs k
    have HSN := Lib.hid hsn
    clear hg HIN hsn
    generalize ns[k] = n at hcx HI2 HGF
    by_cases hin : InTime n
    case neg =>
      have hcase : n < -31622400 ∨ (¬ n < -31622400 ∧ 315537897599 < n) := by
        rcases Int.lt_or_le n (-31622400) with h | h
        · exact .inl h
        · refine .inr ⟨by omega, ?_⟩
          rcases Int.lt_or_le 315537897599 n with h2 | h2
          · exact h2
          · exact absurd ⟨h, h2⟩ hin
      clear hin
      rcases hcase with hc | ⟨hc, hc2⟩
      · have b1 : decide (n < -31622400) = true := decide_eq_true hc
        go_wp2_with (first
          | (go_at_call 19; go_must (refine (H19.out _ (HG.out.below HB.out)).mono ?_; rintro e w1 ⟨rfl, hb1⟩))
          | (fail))
        go_ret
        exact ⟨rfl, HB.out.trans (hb1.mono HB.out.size)⟩
      · have b1 : decide (n < -31622400) = false := decide_eq_false hc
        have b2 : decide (315537897599 < n) = true := decide_eq_true hc2
        go_wp2_with (first
          | (go_at_call 19; go_must (refine (H19.out _ (HG.out.below HB.out)).mono ?_; rintro e w1 ⟨rfl, hb1⟩))
          | (fail))
        go_ret
        exact ⟨rfl, HB.out.trans (hb1.mono HB.out.size)⟩
    have hin2 := hin
    obtain ⟨i1, i2⟩ := hin2
    have b1 : decide (n < -31622400) = false := decide_eq_false (by omega)
    have b2 : decide (315537897599 < n) = false := decide_eq_false (by omega)
    have HIA := Lib.hid (HI2.out hin)
    have HIN := Lib.hid hin
    clear i1 i2 hin HI2
    have zt := size_mkS t
    obtain ⟨x, hx⟩ : ∃ x, fs.getD k 0 = x := ⟨_, rfl⟩
    have HGX := Lib.hid (HGF.out x hx)
    have hfl := form_len n HIN.out x
    have H48 := Lib.hid (fun w => form_any n HIN.out x w)
    rw [HGX.out] at HSN
    have HXC : Hid (k < fs.length → ∃ g gq, ao = some ⟨g, gq, none⟩ ∧ wr.cell? ⟨g, gq + k, none⟩ = some (.int .u8 (x : Int))) := Lib.hid (fun hkf => by
      obtain ⟨go, gp, e1, hgo⟩ : ∃ g gq, ao = some ⟨g, gq, none⟩ ∧ ByteRowQ w g gq fs := by
        rcases HRO.out with h | h
        · rw [h] at hkf; cases hkf
        · exact h
      refine ⟨go, gp, e1, ?_⟩
      rw [List.getD_eq_getElem?_getD, List.getElem?_eq_getElem hkf] at hx
      exact (hgo.below HB.out).cell k x (by rw [List.getElem?_eq_getElem hkf]; exact congrArg some hx))
    have HX0 : Hid (¬ k < fs.length → x = 0) := Lib.hid (fun hkf => by
      rw [List.getD_eq_getElem?_getD, List.getElem?_eq_none (by omega)] at hx
      exact hx.symm)
    clear hx HGF HGX
    generalize formT n x = y at *
    have zy := size_mkS y
    by_cases hk0 : k = 0
    case pos =>
      rw [if_pos hk0] at HSN
      subst hk0
      simp only [Nat.add_zero] at hcx
      obtain ⟨u, hu⟩ : ∃ u, u = t ++ y := ⟨_, rfl⟩
      have kk : mkS t ++ mkS y = mkS u := by rw [hu]; exact str_app t y
      have HU : Hid (u = frontP f6 ns fs (0 + 1)) := Lib.hid (by rw [HSN.out, ← HT.out, hu])
      have hul : u.length ≤ 30 + (0 + 1) * 17 := by rw [hu, List.length_append]; omega
      clear hu HSN
      by_cases hkf : 0 < fs.length
      · obtain ⟨go, gp, rfl, hcy⟩ := HXC.out hkf
        simp only [Nat.add_zero] at hcy
        clear HXC HX0
        go_wp2_with (first
          | (go_at_call 48; go_must (refine (H48.out _).mono ?_; rintro e w4 ⟨rfl, hb4⟩; have HB4 := Lib.hid (HB.out.trans (hb4.mono HB.out.size)); clear hb4))
          | (fail))
        go_roundw
        case rel => exact ⟨0 + 1, u, by omega, by go_num, rfl, hul, HU, HB4, HIA⟩
        case measure => simp [intOf]; omega
      · obtain rfl := HX0.out hkf
        have H48 : Hid (∀ w : World, Calls Tryz.prog 48 #[.int .i64 n, .int .u8 0] w fun e w' => e = .returned (.string (mkS y)) ∧ Below w.heap.size w w') := H48
        clear HXC HX0
        go_wp2_with (first
          | (go_at_call 48; go_must (refine (H48.out _).mono ?_; rintro e w4 ⟨rfl, hb4⟩; have HB4 := Lib.hid (HB.out.trans (hb4.mono HB.out.size)); clear hb4))
          | (fail))
        go_roundw
        case rel => exact ⟨0 + 1, u, by omega, by go_num, rfl, hul, HU, HB4, HIA⟩
        case measure => simp [intOf]; omega
    case neg =>
      rw [if_neg hk0] at HSN
      have hkp : 0 < k := by omega
      obtain ⟨t2, ht2⟩ : ∃ u, u = t ++ [44] := ⟨_, rfl⟩
      obtain ⟨u, hu⟩ : ∃ u, u = t2 ++ y := ⟨_, rfl⟩
      have kk1 : mkS t ++ ({ data := #[44] } : ByteArray) = mkS t2 := by rw [ht2]; exact str_app t [44]
      have kk : mkS t2 ++ mkS y = mkS u := by rw [hu]; exact str_app t2 y
      have zt2 := size_mkS t2
      have lt2 : t2.length = t.length + 1 := by rw [ht2, List.length_append]; rfl
      have HU : Hid (u = frontP f6 ns fs (k + 1)) := Lib.hid (by rw [HSN.out, ← HT.out, hu, ht2])
      have hul : u.length ≤ 30 + (k + 1) * 17 := by rw [hu, List.length_append]; omega
      clear hu ht2 HSN hk0
      by_cases hkf : k < fs.length
      · obtain ⟨go, gp, rfl, hcy⟩ := HXC.out hkf
        clear HXC HX0
        go_wp2_with (first
          | (go_at_call 48; go_must (refine (H48.out _).mono ?_; rintro e w4 ⟨rfl, hb4⟩; have HB4 := Lib.hid (HB.out.trans (hb4.mono HB.out.size)); clear hb4))
          | (fail))
        refine ⟨⟨k + 1, u, by omega, by go_num, rfl, hul, HU, HB4, HIA⟩, ?_⟩
        simp [intOf]; omega
      · obtain rfl := HX0.out hkf
        have H48 : Hid (∀ w : World, Calls Tryz.prog 48 #[.int .i64 n, .int .u8 0] w fun e w' => e = .returned (.string (mkS y)) ∧ Below w.heap.size w w') := H48
        clear HXC HX0
        go_wp2_with (first
          | (go_at_call 48; go_must (refine (H48.out _).mono ?_; rintro e w4 ⟨rfl, hb4⟩; have HB4 := Lib.hid (HB.out.trans (hb4.mono HB.out.size)); clear hb4))
          | (fail))
        refine ⟨⟨k + 1, u, by omega, by go_num, rfl, hul, HU, HB4, HIA⟩, ?_⟩
        simp [intOf]; omega
  case neg =>
  obtain rfl : k = ns.length := by omega
  rw [List.take_length] at HIN
  have hdb : datesT t = some (ns.map fun n => (n, 0)) := by
    rw [HT.out]
    exact dates_back ns fs (fun e => h0 (by rw [e]; rfl)) HIN.out f6
  have h49 := fun w => datesOf_any t w (by omega)
  rw [hdb] at h49
  have H49 : Hid (∀ w, Calls Tryz.prog 49 #[.string (mkS t)] w fun e w' => Below w.heap.size w w' ∧ ∃ v, e = .returned (.tuple #[v, .bool true]) ∧ IntsV w' v ns) := Lib.hid (fun w => (h49 w).mono fun e w' ⟨a, v, b, c⟩ => ⟨a, v, b, by rw [List.map_map] at c; simpa [Function.comp_def] using c⟩)
  have hnl : ns.length ≤ 1000000001 := by omega
  clear h49 hdb HT HIN hlt hk htl HRO HR
  go_wp2_with (first
    | (go_at_call 49; go_must (refine (H49.out _).mono ?_; rintro e w3 ⟨hb3, v3, rfl, hv3⟩; have HB3 := Lib.hid (HB.out.trans (hb3.mono HB.out.size)); have HV3 := Lib.hid hv3; clear hb3 hv3))
    | (go_at_call 19; go_must (refine (H19.out _ (HG.out.below HB3.out)).mono ?_; rintro e w2 ⟨rfl, hb2⟩; have HB2 := Lib.hid (HB3.out.trans (hb2.mono HB3.out.size)); have HV3b := Lib.hid (HV3.out.below hb2); clear hb2))
    | (go_at_call 50; go_must (refine (sameMoms_any ns _ _ _ HV3b.out (HVL.out.below HB2.out) hnl).mono ?_; rintro e w4 ⟨rfl, q, rfl⟩))
    | (fail))
  go_ret
  exact ⟨rfl, bdrewN HB2.out _⟩
end Go.Proofs.YtcfbkkcamiephaaGreatDoor
