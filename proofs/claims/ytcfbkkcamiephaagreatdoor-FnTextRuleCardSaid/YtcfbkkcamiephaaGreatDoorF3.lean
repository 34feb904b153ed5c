import Derived.Test.YtcfbkkcamiephaaGreatDoorF1
import Derived.Deep.RegionHeld3
import Derived.Deep.DrawnRows
namespace Go.Proofs.YtcfbkkcamiephaaGreatDoor
open Go.RowKit
attribute [local go_sem ↓] Go.wp_at_zero Go.wp_at_succ

/-! ### moments written -/
def padL (wd : Nat) (n : Int) : List UInt8 := List.replicate (wd - (Lib.itoa n).length) 48 ++ Lib.itoa n
theorem pad_step (k : Nat) (s : List UInt8) : (⟨#[48]⟩ : ByteArray) ++ mkS (List.replicate k 48 ++ s) = mkS (List.replicate (k + 1) 48 ++ s) := by
  rw [List.replicate_succ]; exact str_app [48] _
set_option maxRecDepth 100000 in
set_option maxHeartbeats 1600000 in
/-- pad. -/
theorem pad_any (n : Int) (wd : Nat) (h0 : 0 ≤ n) (h1 : n ≤ 9999) (hw : wd ≤ 4) (w : World) (hG : Good w) :
    Calls Tryz.prog 157 #[.int .i64 n, .int .i64 wd] w fun e w' => e = .returned (.string (mkS (padL wd n))) ∧ Below w.heap.size w w' := by
  have H := Lib.hid (fun w hG => itoa_any n (by omega) (by omega) w hG)
  have hl := itoa_len n (by omega) (by omega)
  have hP : Hid (padL wd n = List.replicate (wd - (Lib.itoa n).length) 48 ++ Lib.itoa n) := rfl
  have hz0 := size_mkS (Lib.itoa n)
  generalize Lib.itoa n = s at *
  generalize padL wd n = P at *
  go_enter Tryz.func157, Tryz.ntmps157
  go_wp2_with (go_at_call 101; go_must (refine (H.out _ hG).mono ?_; rintro e w1 ⟨rfl, hb⟩))
  go_loop [6] (fun v => ∃ k : Nat, k ≤ wd - s.length ∧ v = .string (mkS (List.replicate k 48 ++ s))) (fun v => 4 - strLen v)
  case atStart => exact ⟨0, by omega, rfl⟩
  case round =>
    obtain ⟨k, hk, rfl⟩ := hrel
    have hz : (mkS (List.replicate k 48 ++ s)).size = k + s.length := by rw [size_mkS]; simp
    have hz2 : (mkS (List.replicate (k + 1) 48 ++ s)).size = k + 1 + s.length := by rw [size_mkS]; simp
    have hst := pad_step k s
    by_cases hlt : k + s.length < wd
    · go_wp2
      go_round
      case rel => exact ⟨k + 1, by omega, rfl⟩
      case measure => simp [strLen, hz, hz2]; omega
    · have HK : Hid (k = wd - s.length) := Lib.hid (by omega)
      have hem : (⟨#[]⟩ : ByteArray) ++ mkS (List.replicate k 48 ++ s) = mkS (List.replicate k 48 ++ s) := str_app [] _
      clear hst hz2
      go_wp2
      go_ret
      exact ⟨by rw [hP.out, ← HK.out]; first | rfl | rw [hem], hb⟩
end Go.Proofs.YtcfbkkcamiephaaGreatDoor
namespace Go.Proofs.YtcfbkkcamiephaaGreatDoor
open Go.RowKit
attribute [local go_sem ↓] Go.wp_at_zero Go.wp_at_succ

theorem dec_len (k : Nat) (u : Nat) (h : u < 10 ^ (k + 1)) : (Lib.decDigits u).length ≤ k + 1 := by
  induction k generalizing u with
  | zero => rw [Lib.decDigits, dif_pos (by simpa using h)]; simp
  | succ k ih =>
    rw [Lib.decDigits]
    split
    · simp
    · rw [List.length_append]
      have := ih (u / 10) (by rw [Nat.pow_succ] at h; omega)
      simp; omega
theorem padL_len4 (n : Int) (h0 : 0 ≤ n) (h1 : n ≤ 9999) : (padL 4 n).length = 4 := by
  have : (Lib.itoa n).length ≤ 4 := by
    unfold Lib.itoa; rw [if_neg (by omega)]; exact dec_len 3 _ (by omega)
  unfold padL; rw [List.length_append, List.length_replicate]; omega
theorem padL_len2 (n : Int) (h0 : 0 ≤ n) (h1 : n ≤ 99) : (padL 2 n).length = 2 := by
  have : (Lib.itoa n).length ≤ 2 := by
    unfold Lib.itoa; rw [if_neg (by omega)]; exact dec_len 1 _ (by omega)
  unfold padL; rw [List.length_append, List.length_replicate]; omega
theorem pad_keep {w W : World} (h : Good W ∧ Below w.heap.size w W) (n : Int) (wd : Nat) (h0 : 0 ≤ n) (h1 : n ≤ 9999) (hw : wd ≤ 4) :
    Calls Tryz.prog 157 #[.int .i64 n, .int .i64 wd] W fun e w' => e = .returned (.string (mkS (padL wd n))) ∧ Good w' ∧ Below w.heap.size w w' :=
  (pad_any n wd h0 h1 hw W h.1).mono fun _ _ ⟨a, b⟩ => ⟨a, h.1.below b, h.2.trans (b.mono h.2.size)⟩
theorem pad_keep4 {w W : World} (h : Good W ∧ Below w.heap.size w W) (n : Int) (h0 : 0 ≤ n ∧ n ≤ 9999) :
    Calls Tryz.prog 157 #[.int .i64 n, .int .i64 4] W fun e w' => e = .returned (.string (mkS (padL 4 n))) ∧ Good w' ∧ Below w.heap.size w w' := pad_keep h n 4 h0.1 h0.2 (by omega)
theorem pad_keep2 {w W : World} (h : Good W ∧ Below w.heap.size w W) (n : Int) (h0 : 0 ≤ n ∧ n ≤ 99) :
    Calls Tryz.prog 157 #[.int .i64 n, .int .i64 2] W fun e w' => e = .returned (.string (mkS (padL 2 n))) ∧ Good w' ∧ Below w.heap.size w w' := pad_keep h n 2 h0.1 (by omega) (by omega)
def stampL (y m d hh mm ss : Int) : List UInt8 := padL 4 y ++ padL 2 m ++ padL 2 d ++ [84] ++ padL 2 hh ++ padL 2 mm ++ padL 2 ss ++ [90]
theorem good_drew {w W : World} (h : Good W ∧ Below w.heap.size w W) : Good W.drew ∧ Below w.heap.size w W.drew := ⟨h.1.drew, h.2.drew⟩
set_option maxRecDepth 100000 in
set_option maxHeartbeats 6400000 in
/-- (Time).Format at the layout with a Z. -/
theorem format_any (s y m d hh mm ss : Int) (v : Value) (w : World) (hG : Good w) (c : Civ s y m d hh mm ss) (hy : 0 ≤ y ∧ y ≤ 9999) :
    Calls Tryz.prog 122 #[.agg #[.int .i64 s, v], .string ⟨#[50, 48, 48, 54, 48, 49, 48, 50, 84, 49, 53, 48, 52, 48, 53, 90]⟩] w fun e w' => e = .returned (.string (mkS (stampL y m d hh mm ss))) ∧ Below w.heap.size w w' := by
  have H155 := Lib.hid (fun w => date3_any s y m d hh mm ss v w c)
  have H156 := Lib.hid (fun w => clock_any s y m d hh mm ss v w c)
  have hm : 0 ≤ m ∧ m ≤ 99 := by have := c.m0; have := c.m1; omega
  have hd : 0 ≤ d ∧ d ≤ 99 := by have := c.d0; have := c.d1; have := mdays_bd m y; omega
  have hhh : 0 ≤ hh ∧ hh ≤ 99 := by have := c.h0; have := c.h1; omega
  have hmm : 0 ≤ mm ∧ mm ≤ 99 := by have := c.n0; have := c.n1; omega
  have hss : 0 ≤ ss ∧ ss ≤ 99 := by have := c.s0; have := c.s1; omega
  have z1 : (mkS (padL 4 y)).size = 4 := by rw [size_mkS]; exact padL_len4 y hy.1 hy.2
  have z2 : (mkS (padL 2 m)).size = 2 := by rw [size_mkS]; exact padL_len2 m hm.1 hm.2
  have z3 : (mkS (padL 2 d)).size = 2 := by rw [size_mkS]; exact padL_len2 d hd.1 hd.2
  have z4 : (mkS (padL 2 hh)).size = 2 := by rw [size_mkS]; exact padL_len2 hh hhh.1 hhh.2
  have z5 : (mkS (padL 2 mm)).size = 2 := by rw [size_mkS]; exact padL_len2 mm hmm.1 hmm.2
  have z6 : (mkS (padL 2 ss)).size = 2 := by rw [size_mkS]; exact padL_len2 ss hss.1 hss.2
  have hR : Hid (mkS (padL 4 y) ++ mkS (padL 2 m) ++ mkS (padL 2 d) ++ ⟨#[84]⟩ ++ mkS (padL 2 hh) ++ mkS (padL 2 mm) ++ mkS (padL 2 ss) ++ ⟨#[90]⟩ = mkS (stampL y m d hh mm ss)) := by
    refine Lib.hid ?_
    rw [show (⟨#[84]⟩ : ByteArray) = mkS [84] from rfl, show (⟨#[90]⟩ : ByteArray) = mkS [90] from rfl]
    simp only [str_app]
    rfl
  have hex : (⟨#[50, 48, 48, 54, 48, 49, 48, 50, 84, 49, 53, 48, 52, 48, 53, 90]⟩ : ByteArray).extract 15 16 = ⟨#[90]⟩ := rfl
  clear c
  go_enter Tryz.func122, Tryz.ntmps122
  go_wp2_with (first
    | (go_at_call 155; go_must (refine (H155.out _).mono ?_; rintro e w1 ⟨rfl, hb1⟩; have hc1 := cell_below hb1 (a := ⟨w.heap.size, 0, none⟩) (v := .int .i64 s) (by simp); have hd1 := cell_below hb1 (a := ⟨w.heap.size, 1, none⟩) (v := v) (by simp)))
    | (go_at_call 156; go_must (refine (H156.out _).mono ?_; rintro e w2 ⟨rfl, hb2⟩)))
  have hK : Good w2 ∧ Below w.heap.size w w2 := by
    have h1 : Below w.heap.size w w1 := ((Below.refl _ _).alloc (Nat.le_refl _) _).trans (hb1.mono (by simp))
    have h2 := h1.trans (hb2.mono h1.size)
    exact ⟨hG.below h2, h2⟩
  clear hb1 hb2 hc1 hd1 hG H155 H156
  go_region_held3 (fun w' => Good w' ∧ Below w.heap.size w w') (first
    | assumption
    | exact good_drew (by assumption))
    (first
    | (go_at_call_of 157 (Value.int .i64 y); refine (pad_keep4 (w := w) (by assumption) y hy).mono ?_; rintro e w3 ⟨rfl, hK3⟩)
    | (go_at_call_of 157 (Value.int .i64 m); refine (pad_keep2 (w := w) (by assumption) m hm).mono ?_; rintro e w3 ⟨rfl, hK3⟩)
    | (go_at_call_of 157 (Value.int .i64 d); refine (pad_keep2 (w := w) (by assumption) d hd).mono ?_; rintro e w3 ⟨rfl, hK3⟩)
    | (go_at_call_of 157 (Value.int .i64 hh); refine (pad_keep2 (w := w) (by assumption) hh hhh).mono ?_; rintro e w3 ⟨rfl, hK3⟩)
    | (go_at_call_of 157 (Value.int .i64 mm); refine (pad_keep2 (w := w) (by assumption) mm hmm).mono ?_; rintro e w3 ⟨rfl, hK3⟩)
    | (go_at_call_of 157 (Value.int .i64 ss); refine (pad_keep2 (w := w) (by assumption) ss hss).mono ?_; rintro e w3 ⟨rfl, hK3⟩))
  all_goals
    go_wp2
    go_ret
    exact ⟨by rw [← hR.out]; rfl, by first | assumption | exact (by assumption : Good _ ∧ Below w.heap.size w _).2⟩
end Go.Proofs.YtcfbkkcamiephaaGreatDoor
namespace Go.Proofs.YtcfbkkcamiephaaGreatDoor
open Go.RowKit

/-! ### the texts of moments -/
set_option maxRecDepth 100000 in
set_option maxHeartbeats 1600000 in
/-- (Time).UTC. -/
theorem utcT_any (s n : Int) (w : World) : Calls Tryz.prog 137 #[.agg #[.int .i64 s, .int .i64 n]] w fun e w' => e = .returned (.agg #[.int .i64 s, .int .i64 n]) ∧ Below w.heap.size w w' := by
  go_enter Tryz.func137, Tryz.ntmps137
  go_wp2
  refine bodyPost_ret (v := .agg #[.int .i64 s, .int .i64 n]) (by simp [results, Tryz.results137, go_sem]) rfl ⟨rfl, ?_⟩
  repeat (first | exact Below.refl _ _ | refine Below.setCell ?_ (by simp) _ | refine Below.alloc ?_ (by simp) _)
set_option maxRecDepth 100000 in
set_option maxHeartbeats 1600000 in
/-- (Time).Location. -/
theorem locT_any (s n : Int) (w : World) : Calls Tryz.prog 120 #[.agg #[.int .i64 s, .int .i64 n]] w fun e w' => e = .returned (.agg #[]) ∧ Below w.heap.size w w' := by
  go_enter Tryz.func120, Tryz.ntmps120
  go_wp2
  refine bodyPost_ret (v := .agg #[]) (by simp [results, Tryz.results120, go_sem]) rfl ⟨rfl, ?_⟩
  repeat (first | exact Below.refl _ _ | refine Below.setCell ?_ (by simp) _ | refine Below.alloc ?_ (by simp) _)
set_option maxRecDepth 100000 in
set_option maxHeartbeats 1600000 in
/-- (Location).String. -/
theorem locS_any (w : World) : Calls Tryz.prog 121 #[.agg #[]] w fun e w' => e = .returned (.string ⟨#[85, 84, 67]⟩) ∧ Below w.heap.size w w' := by
  go_enter Tryz.func121, Tryz.ntmps121
  go_wp2
  go_ret
  refine ⟨rfl, ?_⟩
  repeat (first | exact Below.refl _ _ | refine Below.setCell ?_ (by simp) _ | refine Below.alloc ?_ (by simp) _)
set_option maxRecDepth 100000 in
set_option maxHeartbeats 1600000 in
/-- zztime.Of. -/
theorem of_any (s : Int) (w : World) : Calls Tryz.prog 96 #[.int .i64 s] w fun e w' => e = .returned (.agg #[.int .i64 s, .int .i64 0]) ∧ Below w.heap.size w w' := by
  go_enter Tryz.func96, Tryz.ntmps96
  go_wp2
  refine bodyPost_ret (v := .agg #[.int .i64 s, .int .i64 0]) (by simp [results, Tryz.results96, go_sem]) rfl ⟨rfl, ?_⟩
  repeat (first | exact Below.refl _ _ | refine Below.setCell ?_ (by simp) _ | refine Below.alloc ?_ (by simp) _)
set_option maxRecDepth 100000 in
set_option maxHeartbeats 1600000 in
/-- ZZWeekday. -/
theorem zzDay_any (d n : Int) (w : World) : Calls Tryz.prog 70 #[.int .i64 d, .int .i64 n] w fun e w' => e = .returned (.agg #[.int .i64 d, .int .i64 n]) ∧ Below w.heap.size w w' := by
  go_enter Tryz.func70, Tryz.ntmps70
  go_wp2
  refine bodyPost_ret (v := .agg #[.int .i64 d, .int .i64 n]) (by simp [results, Tryz.results70, go_sem]) rfl ⟨rfl, ?_⟩
  repeat (first | exact Below.refl _ _ | refine Below.setCell ?_ (by simp) _ | refine Below.alloc ?_ (by simp) _)
set_option maxRecDepth 100000 in
set_option maxHeartbeats 1600000 in
/-- timeToStr. -/
theorem timeStr_any (s n y m d hh mm ss : Int) (w : World) (hG : Good w) (c : Civ s y m d hh mm ss) (hy : 0 ≤ y ∧ y ≤ 9999) :
    Calls Tryz.prog 102 #[.agg #[.int .i64 s, .int .i64 n]] w fun e w' => e = .returned (.string (mkS (stampL y m d hh mm ss))) ∧ Below w.heap.size w w' := by
  have H := Lib.hid (fun w hG => format_any s y m d hh mm ss (.int .i64 n) w hG c hy)
  clear c hy
  go_enter Tryz.func102, Tryz.ntmps102
  go_wp2_with (first
    | (go_at_call 137; go_must (refine (utcT_any _ _ _).mono ?_; rintro e w1 ⟨rfl, hb1⟩; have hB1 : Below w.heap.size w w1 := ((Below.refl _ _).alloc (Nat.le_refl _) _).trans (hb1.mono (by simp)); have hG1 := hG.below hB1))
    | (go_at_call 122; go_must (refine (H.out _ hG1).mono ?_; rintro e w2 ⟨rfl, hb2⟩)))
  go_ret
  exact ⟨rfl, hB1.trans (hb2.mono hB1.size)⟩
def rfcL (st : List UInt8) : List UInt8 := 58 :: st
theorem stamp_len (y m d hh mm ss : Int) (hy : 0 ≤ y ∧ y ≤ 9999) (hm : 0 ≤ m ∧ m ≤ 99) (hd : 0 ≤ d ∧ d ≤ 99) (h1 : 0 ≤ hh ∧ hh ≤ 99) (h2 : 0 ≤ mm ∧ mm ≤ 99) (h3 : 0 ≤ ss ∧ ss ≤ 99) : (stampL y m d hh mm ss).length = 16 := by
  unfold stampL
  simp only [List.length_append, padL_len4 y hy.1 hy.2, padL_len2 m hm.1 hm.2, padL_len2 d hd.1 hd.2, padL_len2 hh h1.1 h1.2, padL_len2 mm h2.1 h2.2, padL_len2 ss h3.1 h3.2]
  rfl
theorem Civ.len {s y m d hh mm ss : Int} (c : Civ s y m d hh mm ss) (hy : 0 ≤ y ∧ y ≤ 9999) : (stampL y m d hh mm ss).length = 16 := by
  have := c.m0; have := c.m1; have := c.d0; have := c.d1; have := mdays_bd m y; have := c.h0; have := c.h1; have := c.n0; have := c.n1; have := c.s0; have := c.s1
  exact stamp_len _ _ _ _ _ _ hy (by omega) (by omega) (by omega) (by omega) (by omega)
set_option maxRecDepth 100000 in
set_option maxHeartbeats 1600000 in
/-- timeToRFCDatetimeStr. -/
theorem rfc_any (s n y m d hh mm ss : Int) (w : World) (hG : Good w) (c : Civ s y m d hh mm ss) (hy : 0 ≤ y ∧ y ≤ 9999) :
    Calls Tryz.prog 97 #[.agg #[.int .i64 s, .int .i64 n]] w fun e w' => e = .returned (.string (mkS (rfcL (stampL y m d hh mm ss)))) ∧ Below w.heap.size w w' := by
  have H := Lib.hid (fun w hG => format_any s y m d hh mm ss (.int .i64 n) w hG c hy)
  have hl := c.len hy
  clear c hy
  generalize stampL y m d hh mm ss = st at *
  have zl := size_mkS st
  rw [hl] at zl
  have happ : (⟨#[58]⟩ : ByteArray) ++ mkS st = mkS (rfcL st) := str_app [58] st
  clear hl
  go_enter Tryz.func97, Tryz.ntmps97
  go_wp2_with (first
    | (go_at_call 120; go_must (refine (locT_any _ _ _).mono ?_; rintro e w1 ⟨rfl, hb1⟩; have hc1 := cell_below hb1 (a := ⟨w.heap.size, 0, none⟩) (v := .int .i64 s) (by simp); have hd1 := cell_below hb1 (a := ⟨w.heap.size, 1, none⟩) (v := .int .i64 n) (by simp); have hB1 : Below w.heap.size w w1 := ((Below.refl _ _).alloc (Nat.le_refl _) _).trans (hb1.mono (by simp))))
    | (go_at_call 121; go_must (refine (locS_any _).mono ?_; rintro e w2 ⟨rfl, hb2⟩; have hc2 := cell_below hb2 hc1; have hd2 := cell_below hb2 hd1; have hB2 := hB1.trans (hb2.mono hB1.size); have hG2 := hG.below hB2))
    | (go_at_call 122; go_must (refine (H.out _ hG2).mono ?_; rintro e w3 ⟨rfl, hb3⟩)))
  go_ret
  exact ⟨rfl, hB2.trans (hb3.mono hB2.size)⟩
end Go.Proofs.YtcfbkkcamiephaaGreatDoor
