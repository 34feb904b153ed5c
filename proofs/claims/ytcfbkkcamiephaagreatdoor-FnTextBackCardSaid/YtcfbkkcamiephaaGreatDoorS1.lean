import Derived.Test.YtcfbkkcamiephaaGreatDoorA1
import Derived.WalkSpells
import Derived.WalkLawsBesides
namespace Go.Proofs.YtcfbkkcamiephaaGreatDoor
open Go.RowKit

/-! ### the reference's calendar -/
theorem leapS_any (y : Int) (w : World) : Calls Tryz.prog 146 #[.int .i64 y] w fun e w' => e = .returned (.bool (leapB y)) ∧ w = w' := by
  have h4 := tq y 4 (by omega)
  have h100 := tq y 100 (by omega)
  have h400 := tq y 400 (by omega)
  by_cases c4 : y.tmod 4 = 0
  · by_cases c100 : y.tmod 100 = 0
    · by_cases c400 : y.tmod 400 = 0
      · have e : leapB y = true := by unfold leapB; simp; omega
        have H := Lib.hid e; clear e
        clear h4 h100 h400
        go_enter Tryz.func146, Tryz.ntmps146
        go_wp2
        go_ret
        exact ⟨ret_bool H.out.symm, rfl⟩
      · have e : leapB y = false := by unfold leapB; simp; omega
        have H := Lib.hid e; clear e
        clear h4 h100 h400
        go_enter Tryz.func146, Tryz.ntmps146
        go_wp2
        go_ret
        exact ⟨ret_bool (by rw [H.out]; simpa using c400), rfl⟩
    · have e : leapB y = true := by unfold leapB; simp; omega
      have H := Lib.hid e; clear e
      clear h4 h100 h400
      go_enter Tryz.func146, Tryz.ntmps146
      go_wp2
      go_ret
      exact ⟨ret_bool H.out.symm, rfl⟩
  · have e : leapB y = false := by unfold leapB; simp; omega
    have H := Lib.hid e; clear e
    clear h4 h100 h400
    go_enter Tryz.func146, Tryz.ntmps146
    go_wp2
    go_ret
    exact ⟨ret_bool H.out.symm, rfl⟩

def ydays (y : Int) : Int := if leapB y then 366 else 365
theorem yearDays_any (y : Int) (w : World) : Calls Tryz.prog 112 #[.int .i64 y] w fun e w' => e = .returned (.int .i64 (ydays y)) ∧ w = w' := by
  cases hl : leapB y
  all_goals
    have H := Lib.hid hl; clear hl
    go_enter Tryz.func112, Tryz.ntmps112
    go_wp2_with (go_at_call 146; refine (leapS_any _ _).mono ?_; rintro e w' ⟨rfl, rfl⟩; rw [H.out])
    go_ret
    exact ⟨ret_int (by simp [ydays, H.out]), rfl⟩
theorem monthDaysS_any (m y : Int) (w : World) : Calls Tryz.prog 85 #[.int .i64 y, .int .i64 m] w fun e w' => e = .returned (.int .i64 (mdays m y)) ∧ w = w' := by
  by_cases c2 : m = 2
  · subst c2
    have hb : 365 ≤ ydays y ∧ ydays y ≤ 366 := by unfold ydays; split <;> omega
    have H : Hid (ydays y - 337 = mdays 2 y) := Lib.hid (by unfold ydays mdays; cases leapB y <;> rfl)
    go_enter Tryz.func85, Tryz.ntmps85
    go_wp2_with (go_at_call 112; go_must (refine (yearDays_any _ _).mono ?_; rintro e w' ⟨rfl, rfl⟩))
    go_ret
    exact ⟨ret_int H.out, rfl⟩
  · by_cases c4 : m = 4 ∨ m = 6 ∨ m = 9 ∨ m = 11
    · rcases c4 with rfl | rfl | rfl | rfl
      all_goals
        go_enter Tryz.func85, Tryz.ntmps85
        go_wp2
        go_ret
        exact ⟨rfl, rfl⟩
    · have h : mdays m y = 31 := by simp [mdays, c2, c4]
      have H := Lib.hid h; clear h
      have a4 : m ≠ 4 := by omega
      have a6 : m ≠ 6 := by omega
      have a9 : m ≠ 9 := by omega
      have a11 : m ≠ 11 := by omega
      clear c4
      go_enter Tryz.func85, Tryz.ntmps85
      go_wp2
      go_ret
      exact ⟨ret_int H.out.symm, rfl⟩

theorem newYear_any (y : Int) (w : World) (h1 : 1 ≤ y) (h2 : y ≤ 1000000) : Calls Tryz.prog 84 #[.int .i64 y] w fun e w' => e = .returned (.int .i64 (daysTo y)) ∧ w = w' := by
  go_enter Tryz.func84, Tryz.ntmps84
  go_wp2
  go_ret
  exact ⟨ret_int (by unfold daysTo; omega), rfl⟩
set_option maxHeartbeats 800000 in
theorem daysOf_any (y d : Int) (m : Nat) (w : World) (h1 : 1 ≤ y) (h2 : y ≤ 1000000) (hm : 1 ≤ m) (hm2 : m ≤ 12) (hd : 0 ≤ d ∧ d ≤ 1000) : Calls Tryz.prog 52 #[.int .i64 y, .int .i64 m, .int .i64 d] w fun e w' => e = .returned (.int .i64 (daysTo y + d - 1 + mcum y (m - 1))) ∧ w = w' := by
  have hb := daysTo_bd y (by omega) (by omega)
  go_enter Tryz.func52, Tryz.ntmps52
  go_wp2_with (go_at_call 84; go_must (refine (newYear_any y _ h1 h2).mono ?_; rintro e w' ⟨rfl, rfl⟩))
  go_loop [7, 8] (fun n k => ∃ j : Nat, 1 ≤ j ∧ j ≤ m ∧ k = .int .i64 j ∧ n = .int .i64 (daysTo y + d - 1 + mcum y (j - 1))) (fun _ k => m - (intOf k).toNat)
  case atStart => exact ⟨1, by omega, hm, rfl, by simp [mcum]⟩
  case round =>
    obtain ⟨j, hj, hjm, rfl, rfl⟩ := hrel
    by_cases hlt : j < m
    · have hms := mcum_succ y (j - 1)
      have hcb := mcum_bd y (j - 1)
      have hmb := mdays_bd (j : Int) y
      have hj1 : j - 1 + 1 = j := by omega
      have hj2 : ((j - 1 : Nat) : Int) + 1 = j := by omega
      rw [hj1, hj2] at hms
      have HMS := Lib.hid hms
      clear hms hj1 hj2
      go_wp2_with (go_at_call 85; go_must (refine (monthDaysS_any (j : Int) y _).mono ?_; rintro e w' ⟨rfl, rfl⟩))
      go_round
      case rel => exact ⟨j + 1, by omega, by omega, by go_num, by rw [Nat.add_sub_cancel, HMS.out]; go_num⟩
      case measure => simp [intOf]; omega
    · obtain rfl : j = m := by omega
      go_wp2
      go_ret
      exact ⟨rfl, rfl⟩
end Go.Proofs.YtcfbkkcamiephaaGreatDoor
