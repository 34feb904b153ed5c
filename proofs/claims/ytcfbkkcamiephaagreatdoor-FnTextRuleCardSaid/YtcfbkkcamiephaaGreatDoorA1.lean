import Derived.Test.YtcfbkkcamiephaaGreatDoorProg
import Derived.WalkKit
import Derived.KernelRfl
import Derived.Lib.Hide
import Derived.Deep.QuietTactic
import Derived.BigQuiet
namespace Go.Proofs.YtcfbkkcamiephaaGreatDoor
open Go.RowKit

theorem ret_int {k : IntKind} {a b : Int} (h : a = b) : Ending.returned (.int k a) = .returned (.int k b) := by rw [h]
theorem ret_bool {a b : Bool} (h : a = b) : Ending.returned (.bool a) = .returned (.bool b) := by rw [h]

theorem tq (a b : Int) (hb : 0 < b) : b * a.tdiv b + a.tmod b = a ∧ -b < a.tmod b ∧ a.tmod b < b ∧ (0 ≤ a → 0 ≤ a.tmod b) ∧ (a ≤ 0 → a.tmod b ≤ 0) := by
  refine ⟨Int.mul_tdiv_add_tmod a b, Int.lt_tmod_of_pos a hb, Int.tmod_lt_of_pos a hb, fun h => Int.tmod_nonneg b h, fun h => ?_⟩
  have := Int.tmod_nonneg b (show 0 ≤ -a by omega)
  rw [Int.neg_tmod] at this
  omega
theorem tdiv_in (a b : Int) (ha : -9223372036854775807 ≤ a) (ha2 : a ≤ 9223372036854775807) : -9223372036854775807 ≤ a.tdiv b ∧ a.tdiv b ≤ 9223372036854775807 := by
  have h := Int.natAbs_tdiv_le_natAbs a b
  omega
theorem ediv_of_tdiv_neg (a b : Int) (hb : 0 < b) (h : a.tmod b < 0) : a.tdiv b - 1 = a / b := by
  obtain ⟨h1, h2, h3, _, _⟩ := tq a b hb
  exact ((Int.ediv_emod_unique (r := a.tmod b + b) (q := a.tdiv b - 1) hb).2 ⟨by rw [Int.mul_sub]; omega, by omega, by omega⟩).1.symm
theorem ediv_of_tdiv_pos (a b : Int) (hb : 0 < b) (h : ¬ a.tmod b < 0) : a.tdiv b = a / b := by
  obtain ⟨h1, h2, h3, _, _⟩ := tq a b hb
  exact ((Int.ediv_emod_unique (r := a.tmod b) (q := a.tdiv b) hb).2 ⟨by omega, by omega, by omega⟩).1.symm

theorem floor_pos (a b : Int) (w : World) (hb : 0 < b) (ha : -9223372036854775807 ≤ a) (ha2 : a ≤ 9223372036854775807) :
    Calls Tryz.prog 158 #[.int .i64 a, .int .i64 b] w fun e w' => e = .returned (.int .i64 (a / b)) ∧ w = w' := by
  obtain ⟨hd, hd2⟩ := tdiv_in a b ha ha2
  by_cases h : Int.tmod a b < 0
  · have hq := ediv_of_tdiv_neg a b hb h
    have H := Lib.hid hq
    clear hq
    have hd3 : -9223372036854775808 ≤ a.tdiv b - 1 := by omega
    go_enter Tryz.func158, Tryz.ntmps158
    go_wp2
    go_ret
    exact ⟨ret_int H.out, rfl⟩
  · have hq := ediv_of_tdiv_pos a b hb h
    have H := Lib.hid hq
    clear hq
    go_enter Tryz.func158, Tryz.ntmps158
    go_wp2
    go_ret
    exact ⟨ret_int H.out, rfl⟩

def leapB (y : Int) : Bool := y % 4 == 0 && (y % 100 != 0 || y % 400 == 0)
theorem leap_any (y : Int) (w : World) : Calls Tryz.prog 181 #[.int .i64 y] w fun e w' => e = .returned (.bool (leapB y)) ∧ w = w' := by
  have h4 := tq y 4 (by omega)
  have h100 := tq y 100 (by omega)
  have h400 := tq y 400 (by omega)
  by_cases c4 : y.tmod 4 = 0
  · by_cases c100 : y.tmod 100 = 0
    · by_cases c400 : y.tmod 400 = 0
      · have e : leapB y = true := by unfold leapB; simp; omega
        have H := Lib.hid e; clear e
        clear h4 h100 h400
        go_enter Tryz.func181, Tryz.ntmps181
        go_wp2
        go_ret
        exact ⟨ret_bool H.out.symm, rfl⟩
      · have e : leapB y = false := by unfold leapB; simp; omega
        have H := Lib.hid e; clear e
        clear h4 h100 h400
        go_enter Tryz.func181, Tryz.ntmps181
        go_wp2
        go_ret
        exact ⟨ret_bool (by rw [H.out]; simpa using c400), rfl⟩
    · have e : leapB y = true := by unfold leapB; simp; omega
      have H := Lib.hid e; clear e
      clear h4 h100 h400
      go_enter Tryz.func181, Tryz.ntmps181
      go_wp2
      go_ret
      exact ⟨ret_bool H.out.symm, rfl⟩
  · have e : leapB y = false := by unfold leapB; simp; omega
    have H := Lib.hid e; clear e
    clear h4 h100 h400
    go_enter Tryz.func181, Tryz.ntmps181
    go_wp2
    go_ret
    exact ⟨ret_bool H.out.symm, rfl⟩

def daysTo (y : Int) : Int := 365 * (y - 1) + (y - 1) / 4 - (y - 1) / 100 + (y - 1) / 400
theorem daysTo_any (y : Int) (w : World) (h1 : -100000000 ≤ y) (h2 : y ≤ 100000000) :
    Calls Tryz.prog 159 #[.int .i64 y] w fun e w' => e = .returned (.int .i64 (daysTo y)) ∧ w = w' := by
  go_enter Tryz.func159, Tryz.ntmps159
  go_wp2_with (go_at_call 158; refine (floor_pos _ _ _ (by omega) (by omega) (by omega)).mono ?_; rintro e w' ⟨rfl, rfl⟩)
  go_ret
  exact ⟨ret_int (by unfold daysTo; rfl), rfl⟩

def mdays (m y : Int) : Int := if m = 2 then (if leapB y then 29 else 28) else if m = 4 ∨ m = 6 ∨ m = 9 ∨ m = 11 then 30 else 31
theorem mdays_bd (m y : Int) : 28 ≤ mdays m y ∧ mdays m y ≤ 31 := by unfold mdays; repeat (first | split | omega)
theorem monthDays_any (m y : Int) (w : World) : Calls Tryz.prog 160 #[.int .i64 m, .int .i64 y] w fun e w' => e = .returned (.int .i64 (mdays m y)) ∧ w = w' := by
  by_cases c2 : m = 2
  · subst c2
    cases hl : leapB y
    all_goals
      have H := Lib.hid hl; clear hl
      go_enter Tryz.func160, Tryz.ntmps160
      go_wp2_with (go_at_call 181; refine (leap_any _ _).mono ?_; rintro e w' ⟨rfl, rfl⟩; rw [H.out])
      go_ret
      exact ⟨ret_int (by simp [mdays, H.out]), rfl⟩
  · by_cases c4 : m = 4 ∨ m = 6 ∨ m = 9 ∨ m = 11
    · rcases c4 with rfl | rfl | rfl | rfl
      all_goals
        go_enter Tryz.func160, Tryz.ntmps160
        go_wp2
        go_ret
        exact ⟨rfl, rfl⟩
    · have h : mdays m y = 31 := by simp [mdays, c2, c4]
      have H := Lib.hid h; clear h
      have a4 : m ≠ 4 := by omega
      have a6 : m ≠ 6 := by omega
      have a9 : m ≠ 9 := by omega
      have a11 : m ≠ 11 := by omega
      clear c4
      go_enter Tryz.func160, Tryz.ntmps160
      go_wp2
      go_ret
      exact ⟨ret_int H.out.symm, rfl⟩

/-- days ahead of month m (1 to 13) in year y -/
def mcum (y : Int) : Nat → Int
  | 0 => 0
  | k + 1 => mcum y k + mdays (k + 1) y
theorem mcum_bd (y : Int) (k : Nat) : 0 ≤ mcum y k ∧ mcum y k ≤ 31 * k := by
  induction k with
  | zero => simp [mcum]
  | succ k ih => have := mdays_bd (k + 1) y; simp only [mcum]; omega
def dayNum (y m d : Int) : Int := daysTo y + mcum y (m - 1).toNat + d - 1
theorem daysTo_bd (y : Int) (h1 : -100000000 ≤ y) (h2 : y ≤ 100000000) : -100000000000 ≤ daysTo y ∧ daysTo y ≤ 100000000000 := by unfold daysTo; omega
theorem mcum_succ (y : Int) (k : Nat) : mcum y (k + 1) = mcum y k + mdays (k + 1) y := rfl
set_option maxHeartbeats 800000 in
theorem date_any (y m d hh mm ss : Int) (w : World) (y1 : -1000000 ≤ y) (y2 : y ≤ 1000000) (m1 : 1 ≤ m) (m2 : m ≤ 12) (d1 : -1000000 ≤ d) (d2 : d ≤ 1000000)
    (h1 : 0 ≤ hh) (h2 : hh ≤ 1000000) (n1 : 0 ≤ mm) (n2 : mm ≤ 1000000) (s1 : 0 ≤ ss) (s2 : ss ≤ 1000000) (nn : Int) (nn0 : 0 ≤ nn) (nn1 : nn ≤ 999999999) :
    Calls Tryz.prog 134 #[.int .i64 y, .int .i64 m, .int .i64 d, .int .i64 hh, .int .i64 mm, .int .i64 ss, .int .i64 nn, .agg #[]] w fun e w' =>
      e = .returned (.agg #[.int .i64 (dayNum y m d * 86400 + hh * 3600 + mm * 60 + ss), .int .i64 nn]) ∧ Below w.heap.size w w' := by
  obtain ⟨hdb, hdb2⟩ := daysTo_bd y (by omega) (by omega)
  obtain ⟨M, rfl⟩ : ∃ M : Nat, m = M + 1 := ⟨(m - 1).toNat, by omega⟩
  have hz : (M : Int) / 12 = 0 := by omega
  have hM2 : M ≤ 11 := by omega
  go_enter Tryz.func134, Tryz.ntmps134
  go_wp2_with (first | (go_at_call 158; refine (floor_pos _ _ _ (by omega) (by omega) (by omega)).mono ?_; rintro e w' ⟨rfl, rfl⟩) | (go_at_call 159; refine (daysTo_any _ _ (by omega) (by omega)).mono ?_; rintro e w' ⟨rfl, rfl⟩))
  have HZ := Lib.hid hz; clear hz
  go_loop [19, 20] (fun a i => ∃ k : Nat, k ≤ M ∧ i = .int .i64 (k + 1) ∧ a = .int .i64 (daysTo y + d - 1 + mcum y k)) (fun _ i => M + 1 - (intOf i).toNat)
  case atStart => exact ⟨0, by omega, rfl, by simp [mcum]⟩
  case round =>
    obtain ⟨k, hk, rfl, rfl⟩ := hrel
    obtain ⟨b1, b2⟩ := mcum_bd y k
    obtain ⟨b3, b4⟩ := mdays_bd (k + 1) y
    by_cases hlt : k < M
    · go_wp2_with (go_at_call 160; refine (monthDays_any _ _ _).mono ?_; rintro e w' ⟨rfl, rfl⟩)
      go_round
      case rel => exact ⟨k + 1, by omega, by go_num, by rw [mcum_succ]; go_num⟩
      case measure => simp [intOf]; omega
    · obtain rfl : k = M := by omega
      have hzz : nn / 1000000000 = 0 := by omega
      go_wp2_with (first | (go_at_call 158; refine (floor_pos _ _ _ (by omega) (by omega) (by omega)).mono ?_; rintro e w' ⟨rfl, rfl⟩))
      refine bodyPost_ret (v := .agg #[.int .i64 (dayNum y (k + 1) d * 86400 + hh * 3600 + mm * 60 + ss), .int .i64 nn]) ?_ rfl ⟨rfl, ((Below.refl _ _).alloc (Nat.le_refl _) _).alloc (by simp) _⟩
      have e : dayNum y (k + 1) d = daysTo y + d - 1 + mcum y k := by unfold dayNum; simp; omega
      simp [results, Tryz.results134, go_sem, e]
end Go.Proofs.YtcfbkkcamiephaaGreatDoor
namespace Go.Proofs.YtcfbkkcamiephaaGreatDoor
open Go.RowKit

/-! the year and the day of the year of a number of days since 0001-01-01 -/
def spC (n : Int) : Int := if (n - n / 146097 * 146097) / 36524 = 4 then 3 else (n - n / 146097 * 146097) / 36524
def spB (n : Int) : Int := n - n / 146097 * 146097 - spC n * 36524
def spE (n : Int) : Int := spB n - spB n / 1461 * 1461
def spO (n : Int) : Int := if spE n / 365 = 4 then 3 else spE n / 365
def yearOf (n : Int) : Int := 400 * (n / 146097) + 100 * spC n + 4 * (spB n / 1461) + spO n + 1
def ydayOf (n : Int) : Int := spE n - spO n * 365
theorem spC_bd (n : Int) : 0 ≤ spC n ∧ spC n ≤ 3 := by unfold spC; split <;> omega
theorem spB_bd (n : Int) : 0 ≤ spB n ∧ spB n ≤ 36524 ∧ (spB n = 36524 → spC n = 3) := by unfold spB spC; split <;> omega
theorem spE_bd (n : Int) : 0 ≤ spE n ∧ spE n ≤ 1460 := by unfold spE; omega
theorem spO_bd (n : Int) : 0 ≤ spO n ∧ spO n ≤ 3 := by have := spE_bd n; unfold spO; split <;> omega
theorem ydayOf_eq (n : Int) : daysTo (yearOf n) + ydayOf n = n := by
  have c := spC_bd n
  have b := spB_bd n
  have e := spE_bd n
  have o := spO_bd n
  have hb : spB n = n - n / 146097 * 146097 - spC n * 36524 := rfl
  have he : spE n = spB n - spB n / 1461 * 1461 := rfl
  have f1 : 0 ≤ spB n / 1461 := by omega
  have f2 : spB n / 1461 ≤ 24 := by omega
  unfold daysTo yearOf ydayOf
  generalize hf : spB n / 1461 = f at *
  generalize hq : n / 146097 = q at *
  have y0 : 400 * q + 100 * spC n + 4 * f + spO n + 1 - 1 = 400 * q + 100 * spC n + 4 * f + spO n := by omega
  rw [y0]
  have y1 : (400 * q + 100 * spC n + 4 * f + spO n) / 4 = 100 * q + 25 * spC n + f := by omega
  have y2 : (400 * q + 100 * spC n + 4 * f + spO n) / 100 = 4 * q + spC n := by omega
  have y3 : (400 * q + 100 * spC n + 4 * f + spO n) / 400 = q := by omega
  rw [y1, y2, y3]
  omega
theorem ydayOf_bd (n : Int) : 0 ≤ ydayOf n ∧ ydayOf n < (if leapB (yearOf n) then 366 else 365) := by
  have c := spC_bd n
  have b := spB_bd n
  have e := spE_bd n
  have o := spO_bd n
  have hb : spB n = n - n / 146097 * 146097 - spC n * 36524 := rfl
  have he : spE n = spB n - spB n / 1461 * 1461 := rfl
  have ho : spO n = if spE n / 365 = 4 then 3 else spE n / 365 := rfl
  have hl : leapB (yearOf n) = decide (spO n = 3 ∧ (¬ spB n / 1461 = 24 ∨ spC n = 3)) := by
    rw [Bool.eq_iff_iff]
    unfold leapB yearOf
    simp
    omega
  rw [hl]
  unfold ydayOf
  by_cases h4 : spE n / 365 = 4
  · rw [if_pos h4] at ho
    rw [if_pos (by simp; omega)]
    omega
  · rw [if_neg h4] at ho
    by_cases h3 : spO n = 3 ∧ (¬ spB n / 1461 = 24 ∨ spC n = 3)
    · rw [if_pos (by simpa using h3)]; omega
    · rw [if_neg (by simpa using h3)]; omega

set_option maxHeartbeats 800000 in
theorem split_any (s : Int) (v : Value) (w : World) (h1 : -1000000000000 ≤ s) (h2 : s ≤ 1000000000000) :
    Calls Tryz.prog 180 #[.agg #[.int .i64 s, v]] w fun e w' => e = .returned (.tuple #[.int .i64 (yearOf (s / 86400)), .int .i64 (ydayOf (s / 86400)), .int .i64 (s - s / 86400 * 86400)]) ∧ Below w.heap.size w w' := by
  by_cases c4 : (s / 86400 - s / 86400 / 146097 * 146097) / 36524 = 4
  all_goals
    have hc := c4
    first | replace hc : spC (s / 86400) = 3 := if_pos c4 | replace hc : spC (s / 86400) = (s / 86400 - s / 86400 / 146097 * 146097) / 36524 := if_neg c4
    by_cases o4 : spE (s / 86400) / 365 = 4
  all_goals
    have ho := o4
    first | replace ho : spO (s / 86400) = 3 := if_pos o4 | replace ho : spO (s / 86400) = spE (s / 86400) / 365 := if_neg o4
    unfold spE spB at o4
    rw [hc] at o4
    have hf1 : yearOf (s / 86400) = 400 * (s / 86400 / 146097) + 100 * spC (s / 86400) + 4 * (spB (s / 86400) / 1461) + spO (s / 86400) + 1 := rfl
    have hf2 : ydayOf (s / 86400) = spE (s / 86400) - spO (s / 86400) * 365 := rfl
    rw [ho] at hf1 hf2
    try unfold spE at hf1
    unfold spE at hf2
    unfold spB at hf1 hf2
    rw [hc] at hf1 hf2
    try simp only [Int.reduceMul] at hf1
    try simp only [Int.reduceMul] at hf2
    try simp only [Int.reduceMul] at o4
    have F1 := Lib.hid hf1.symm
    have F2 := Lib.hid hf2.symm
    clear hf1 hf2 hc ho
    have lo : 0 ≤ s / 86400 - s / 86400 / 146097 * 146097 := by omega
    try have lo2 : 146096 ≤ s / 86400 - s / 86400 / 146097 * 146097 := by omega
    first | have c4b := beq_iff_eq.2 c4 | have c4b := beq_eq_false_iff_ne.2 c4
    first | have o4b := beq_iff_eq.2 o4 | have o4b := beq_eq_false_iff_ne.2 o4
    have C4 := Lib.hid c4
    have O4 := Lib.hid o4
    clear c4 o4
    go_enter Tryz.func180, Tryz.ntmps180
    go_wp2_with (first | (go_at_call 158; refine (floor_pos _ _ _ (by omega) (by omega) (by omega)).mono ?_; rintro e w' ⟨rfl, rfl⟩))
    go_ret3
    refine ⟨?_, ((Below.refl _ _).alloc (Nat.le_refl _) _)⟩
    show Ending.returned (.tuple #[.int .i64 _, .int .i64 _, .int .i64 _]) = _
    rw [F1.out, F2.out]
end Go.Proofs.YtcfbkkcamiephaaGreatDoor
namespace Go.Proofs.YtcfbkkcamiephaaGreatDoor
open Go.RowKit

theorem mcum_mono (y : Int) {a b : Nat} (h : a ≤ b) : mcum y a ≤ mcum y b := by
  induction b with
  | zero => have : a = 0 := by omega
            subst this; omega
  | succ b ih =>
    by_cases e : a = b + 1
    · subst e; omega
    · have := ih (by omega)
      have := mdays_bd (b + 1) y
      simp only [mcum]; omega
theorem mcum_12 (y : Int) : mcum y 12 = if leapB y then 366 else 365 := by
  simp [mcum, mdays]
  split <;> rfl
theorem daysTo_succ (y : Int) : daysTo (y + 1) = daysTo y + mcum y 12 := by
  rw [mcum_12]
  unfold daysTo leapB
  by_cases h : (y % 4 == 0 && (y % 100 != 0 || y % 400 == 0)) = true
  · rw [if_pos h]; simp at h; omega
  · rw [if_neg h]; simp at h; omega
theorem daysTo_mono {a b : Int} (h : a ≤ b) : daysTo a ≤ daysTo b := by unfold daysTo; omega
/-- the year and the day of the year are found again -/
theorem year_unique (y e n : Int) (h : daysTo y + e = n) (h0 : 0 ≤ e) (h1 : e < mcum y 12) : yearOf n = y ∧ ydayOf n = e := by
  have a := ydayOf_eq n
  have b := ydayOf_bd n
  rw [← mcum_12] at b
  have hy : yearOf n = y := by
    rcases Int.lt_trichotomy (yearOf n) y with g | g | g
    · have := daysTo_mono (show yearOf n + 1 ≤ y by omega)
      rw [daysTo_succ] at this
      omega
    · exact g
    · have := daysTo_mono (show y + 1 ≤ yearOf n by omega)
      rw [daysTo_succ] at this
      omega
  refine ⟨hy, ?_⟩
  rw [hy] at a; omega

/-- A moment by its date and its time of day. -/
structure Civ (s y m d hh mm ss : Int) : Prop where
  eq : s = dayNum y m d * 86400 + hh * 3600 + mm * 60 + ss
  y0 : -1000 ≤ y
  y1 : y ≤ 20000
  m0 : 1 ≤ m
  m1 : m ≤ 12
  d0 : 1 ≤ d
  d1 : d ≤ mdays m y
  h0 : 0 ≤ hh
  h1 : hh ≤ 23
  n0 : 0 ≤ mm
  n1 : mm ≤ 59
  s0 : 0 ≤ ss
  s1 : ss ≤ 59
theorem Civ.day {s y m d hh mm ss : Int} (c : Civ s y m d hh mm ss) : s / 86400 = dayNum y m d := by
  obtain ⟨eq, _, _, _, _, _, _, _, _, _, _, _, _⟩ := c
  omega
theorem Civ.sec {s y m d hh mm ss : Int} (c : Civ s y m d hh mm ss) : s - s / 86400 * 86400 = hh * 3600 + mm * 60 + ss := by
  have := c.day
  rw [this]
  have := c.eq
  omega
theorem Civ.bd {s y m d hh mm ss : Int} (c : Civ s y m d hh mm ss) : -1000000000000 ≤ s ∧ s ≤ 1000000000000 := by
  obtain ⟨eq, a, b, m0, m1, d0, d1, _, _, _, _, _, _⟩ := c
  have h1 := mdays_bd m y
  have h2 := mcum_bd y (m - 1).toNat
  unfold dayNum daysTo at eq
  omega
theorem Civ.split {s y m d hh mm ss : Int} (c : Civ s y m d hh mm ss) : yearOf (s / 86400) = y ∧ ydayOf (s / 86400) = mcum y (m - 1).toNat + d - 1 := by
  have h := mdays_bd m y
  have b := mcum_bd y (m - 1).toNat
  have e : mcum y ((m - 1).toNat + 1) = mcum y (m - 1).toNat + mdays m y := by
    rw [show mcum y ((m - 1).toNat + 1) = mcum y (m - 1).toNat + mdays (((m - 1).toNat : Nat) + 1) y from rfl]
    have := c.m0
    rw [show (((m - 1).toNat : Nat) : Int) + 1 = m by omega]
  have m12 := mcum_mono y (show (m - 1).toNat + 1 ≤ 12 by have := c.m1; omega)
  have d0 := c.d0
  have d1 := c.d1
  refine year_unique y _ _ ?_ (by omega) (by omega)
  rw [c.day]; unfold dayNum; omega

theorem bcell {W w1 : World} (hb : Below W.heap.size W w1) : (∀ b o, b < W.heap.size → w1.cell? ⟨b, o, none⟩ = W.cell? ⟨b, o, none⟩) ∧ (∀ b o, b < W.heap.size → w1.frozen? ⟨b, o, none⟩ = W.frozen? ⟨b, o, none⟩) :=
  ⟨fun b o h => hb.cell (p := ⟨b, o, none⟩) h, fun b o h => hb.frozen (p := ⟨b, o, none⟩) h⟩

theorem cell_below {w w' : World} (hb : Below w.heap.size w w') {a : Addr} {v : Value} (h : w.cell? a = some v) : w'.cell? a = some v :=
  (hb.cell (World.block_lt_of_cell? w a h)).trans h
theorem frozen_below {w w' : World} (hb : Below w.heap.size w w') {a : Addr} (hlt : a.block < w.heap.size) (h : w.frozen? a = false) : w'.frozen? a = false := (hb.frozen hlt).trans h

set_option maxHeartbeats 800000 in
theorem clock_any (s y m d hh mm ss : Int) (v : Value) (w : World) (c : Civ s y m d hh mm ss) :
    Calls Tryz.prog 156 #[.agg #[.int .i64 s, v]] w fun e w' => e = .returned (.tuple #[.int .i64 hh, .int .i64 mm, .int .i64 ss]) ∧ Below w.heap.size w w' := by
  obtain ⟨b1, b2⟩ := c.bd
  obtain ⟨g1, g2⟩ := c.split
  have g3 := c.sec
  obtain ⟨eq0, _, _, _, _, _, _, h0, h1, n0, n1, s0, s1⟩ := c
  clear eq0
  have e1 : (hh * 3600 + mm * 60 + ss) / 3600 = hh := by omega
  have e2 : (hh * 3600 + mm * 60 + ss) / 60 % 60 = mm := by omega
  have e3 : (hh * 3600 + mm * 60 + ss) % 60 = ss := by omega
  have E1 := Lib.hid e1
  have E2 := Lib.hid e2
  have E3 := Lib.hid e3
  have G1 := Lib.hid g1
  have G2 := Lib.hid g2
  have G3 := Lib.hid g3
  clear e1 e2 e3 g1 g2 g3
  go_enter Tryz.func156, Tryz.ntmps156
  go_wp2_with (first | (go_at_call 180; refine (split_any s v _ b1 b2).mono ?_; rintro e w' ⟨rfl, hb⟩; rw [G1.out, G2.out, G3.out]))
  go_ret3
  refine ⟨?_, ((Below.refl _ _).alloc (Nat.le_refl _) _).trans (hb.mono (by simp))⟩
  show Ending.returned (.tuple #[.int .i64 _, .int .i64 _, .int .i64 _]) = _
  rw [E1.out, E2.out, E3.out]

set_option maxHeartbeats 800000 in
theorem date3_any (s y m d hh mm ss : Int) (v : Value) (w : World) (c : Civ s y m d hh mm ss) :
    Calls Tryz.prog 155 #[.agg #[.int .i64 s, v]] w fun e w' => e = .returned (.tuple #[.int .i64 y, .int .i64 m, .int .i64 d]) ∧ Below w.heap.size w w' := by
  obtain ⟨b1, b2⟩ := c.bd
  obtain ⟨g1, g2⟩ := c.split
  obtain ⟨eq0, _, _, m0, m1, d0, d1, _, _, _, _, _, _⟩ := c
  clear eq0
  obtain ⟨M, rfl⟩ : ∃ M : Nat, m = M + 1 := ⟨(m - 1).toNat, by omega⟩
  rw [show ((M : Int) + 1 - 1).toNat = M by omega] at g2
  have hm := mdays_bd (M + 1) y
  have G1 := Lib.hid g1
  have G2 := Lib.hid g2
  clear g1 g2
  go_enter Tryz.func155, Tryz.ntmps155
  go_wp2_with (first | (go_at_call 180; refine (split_any s v _ b1 b2).mono ?_; rintro e w' ⟨rfl, hb⟩; rw [G1.out, G2.out]))
  go_loop [6, 8] (fun a i => ∃ k : Nat, k ≤ M ∧ i = .int .i64 (k + 1) ∧ a = .int .i64 (mcum y M + d - 1 - mcum y k)) (fun _ i => M + 1 - (intOf i).toNat)
  case atStart => exact ⟨0, by omega, rfl, by simp [mcum]⟩
  case round =>
    obtain ⟨k, hk, rfl, rfl⟩ := hrel
    obtain ⟨b1, b2⟩ := mcum_bd y k
    obtain ⟨b3, b4⟩ := mcum_bd y M
    obtain ⟨b5, b6⟩ := mdays_bd (k + 1) y
    by_cases hlt : k < M
    · have hmono := mcum_mono y (show k + 1 ≤ M by omega)
      rw [mcum_succ] at hmono
      have ht : decide (mdays (↑k + 1) y ≤ mcum y M + d - 1 - mcum y k) = true := by simp; omega
      go_wp2_with (go_at_call 160; refine (monthDays_any _ _ _).mono ?_; rintro e w' ⟨rfl, rfl⟩)
      go_round
      case rel => exact ⟨k + 1, by omega, by go_num, by rw [mcum_succ]; go_num⟩
      case measure => simp [intOf]; omega
    · obtain rfl : k = M := by omega
      have ht : decide (mdays (↑k + 1) y ≤ mcum y k + d - 1 - mcum y k) = false := by simp; omega
      go_wp2_with (go_at_call 160; refine (monthDays_any _ _ _).mono ?_; rintro e w' ⟨rfl, rfl⟩)
      go_ret3
      refine ⟨?_, ((Below.refl _ _).alloc (Nat.le_refl _) _).trans (hb.mono (by simp))⟩
      show Ending.returned (.tuple #[.int .i64 _, .int .i64 _, .int .i64 _]) = _
      rw [show mcum y k + d - 1 - mcum y k + 1 = d by omega]
