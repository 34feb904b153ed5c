import Derived.Test.YtcfbkkcamiephaaGreatDoorW2
import Derived.Test.YtcfbkkcamiephaaGreatDoorF13
namespace Go.Proofs.YtcfbkkcamiephaaGreatDoor
open Go.RowKit

theorem freqT_freqL (j : Nat) (hj : j < 7) : freqT (freqL j) = some (j : Int) := by
  rcases freq_cases (freqL j) with ⟨k, hk, hl, hf⟩ | ⟨h, -⟩
  · rw [hf]
    have : ∀ a : Fin 7, ∀ b : Fin 7, freqL a.1 = freqL b.1 → a = b := by decide
    have := this ⟨j, hj⟩ ⟨k, hk⟩ hl
    rw [Fin.mk.injEq] at this
    rw [this]
  · have := h j hj
    simp at this
set_option maxRecDepth 100000 in
set_option maxHeartbeats 1600000 in
/-- FnTextFreq: the walk. -/
theorem law_freq (hrule : RuleAny) (l : List UInt8) (w : World) (hG : Good w) (hF : Freqs w) :
    Calls Tryz.prog 16 #[.string (mkS l)] w fun e w' => e = .returned (.bool true) ∧ Below w.heap.size w w' := by
  have zl := size_mkS l
  have HG := Lib.hid hG
  have HF := Lib.hid hF
  have H19 := Lib.hid (fun w hG => awake_any hrule option_any w hG)
  have H46 := Lib.hid freqName_any
  have H47 := Lib.hid freqNameS_any
  have H44 := Lib.hid (fun w hG => freqOfS_any l w hG)
  have H45j : Hid (∀ (j : Nat) (_ : j < 7) (w : World), Calls Tryz.prog 45 #[.string (mkS (freqL j))] w (FreqOfPost w (some (j : Int)))) := Lib.hid (fun j hj w => by
    have := freqOf_any (freqL j) w (by have : ∀ a : Fin 7, (freqL a.1).length ≤ 3000000000 := by decide
                                       exact this ⟨j, hj⟩)
    rw [freqT_freqL j hj] at this; exact this)
  clear hG hF hrule
  rcases Nat.lt_or_ge 2147483647 l.length with hlong | hlen
  · have hd : decide ((2147483647 : Int) < (l.length : Int)) = true := by simp; omega
    go_enter Tryz.func16, Tryz.ntmps16
    go_wp2
    go_ret
    exact ⟨rfl, Below.refl _ _⟩
  have H45 := Lib.hid (fun w => freqOf_any l w (by omega))
  have hd : decide ((2147483647 : Int) < (l.length : Int)) = false := by simp; omega
  have hR : ∀ j, freqT l = some j → 0 ≤ j ∧ j < 7 := fun j hj => by
    rcases freq_cases l with ⟨k, hk, -, hf⟩ | ⟨-, hf⟩
    · rw [hf] at hj; cases hj; omega
    · rw [hf] at hj; cases hj
  clear hR
  generalize freqT l = R at H44 H45
  cases R
  all_goals
    go_enter Tryz.func16, Tryz.ntmps16
    go_wp2_with (first
      | (go_at_call 44; go_must (refine (H44.out _ HF.out).mono ?_; rintro e w1 ⟨hb1, rfl⟩; have HB1 := Lib.hid hb1; clear hb1))
      | (go_at_call 45; go_must (refine (H45.out _).mono ?_; rintro e w2 ⟨hb2, rfl⟩; have HB2 := Lib.hid (HB1.out.trans (hb2.mono HB1.out.size)); clear hb2))
      | (fail))
    go_loopw [34] (fun i wr => ∃ k : Nat, k ≤ 7 ∧ i = .int .u8 k ∧ Below w.heap.size w wr) (fun i _ => 7 - (intOf i).toNat)
    case atStart => exact ⟨0, by omega, rfl, HB2.out⟩
    case round =>
      obtain ⟨k, hk, rfl, hb⟩ := hrel
      have HB := Lib.hid hb
      clear hb
      by_cases hlt : k < 7
      · have hk0 : (0 : Int) ≤ (k : Int) := Int.natCast_nonneg _
        have hk1 : (k : Int) < 7 := by omega
        go_wp2_with (first
          | (go_at_call 46; go_must (refine (H46.out k hlt _).mono ?_; rintro e w4 ⟨rfl, rfl⟩))
          | (go_at_call 47; go_must (refine (H47.out k hlt _ (HF.out.below HB.out)).mono ?_; rintro e w5 ⟨rfl, rfl⟩))
          | (go_at_call 45; go_must (refine (H45j.out k hlt _).mono ?_; rintro e w6 ⟨hb6, rfl⟩; have HB6 := Lib.hid (HB.out.trans (hb6.mono HB.out.size)); clear hb6 HB; have HB := HB6; clear HB6))
          | (fail))
        go_roundw
        case rel => exact ⟨k + 1, by omega, by go_num, HB.out⟩
        case measure => simp [intOf]; omega
      · obtain rfl : k = 7 := by omega
        go_wp2_with (first
          | (go_at_call 19; go_must (refine (H19.out _ (HG.out.below HB.out)).mono ?_; rintro e w7 ⟨rfl, hb7⟩; have HB7 := Lib.hid (HB.out.trans (hb7.mono HB.out.size)); clear hb7))
          | (fail))
        go_ret
        exact ⟨rfl, HB7.out⟩
end Go.Proofs.YtcfbkkcamiephaaGreatDoor
