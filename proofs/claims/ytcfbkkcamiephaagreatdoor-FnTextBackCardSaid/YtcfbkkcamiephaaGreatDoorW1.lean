import Derived.Test.YtcfbkkcamiephaaGreatDoorF14
import Derived.Test.YtcfbkkcamiephaaGreatDoorS3
namespace Go.Proofs.YtcfbkkcamiephaaGreatDoor
open Go.RowKit

/-! ### the rule that textAwake writes and reads -/
def secs0 : Int := 62999856000
def rule0 : RuleD := ⟨3, true, secs0, 0, 0, 3, false, 0, [], [], [], [], [], [], [], [], [], []⟩
def text0 : List UInt8 := [68, 84, 83, 84, 65, 82, 84, 58, 49, 57, 57, 55, 48, 53, 50, 50, 84, 48, 48, 48, 48, 48, 48, 90, 10, 82, 82, 85, 76, 69, 58, 70, 82, 69, 81, 61, 68, 65, 73, 76, 89, 59, 67, 79, 85, 78, 84, 61, 51]
def text1 : List UInt8 := [70, 82, 69, 81, 61, 68, 65, 73, 76, 89, 59, 67, 79, 85, 78, 84, 61, 120]
def opt0 : Opt := ⟨3, (secs0, 0), 0, (0, 0), 3, (0, 0), [], [], [], [], [], [], [], [], [], []⟩
theorem days0 : daysTo 1997 + 22 - 1 + mcum 1997 (5 - 1) = 729165 := by decide +kernel
theorem read0 : optT text0 = some opt0 := by kernel_rfl
theorem read1 : optT text1 = none := by kernel_rfl
theorem dig1 (n : Nat) (h : n < 10) : Lib.decDigits n = [UInt8.ofNat (48 + n)] := by
  rw [Lib.decDigits, dif_pos h]
theorem dig2 (n : Nat) (h : ¬ n < 10) : Lib.decDigits n = Lib.decDigits (n / 10) ++ [UInt8.ofNat (48 + n % 10)] := by
  rw [Lib.decDigits, dif_neg h]
theorem itoa_1997 : Lib.itoa 1997 = [49, 57, 57, 55] := by
  show Lib.decDigits 1997 = _
  rw [dig2 1997 (by decide), dig2 (1997 / 10) (by decide), dig2 (1997 / 10 / 10) (by decide), dig1 (1997 / 10 / 10 / 10) (by decide)]; rfl
theorem itoa_5 : Lib.itoa 5 = [53] := by show Lib.decDigits 5 = _; rw [dig1 5 (by decide)]; rfl
theorem itoa_22 : Lib.itoa 22 = [50, 50] := by show Lib.decDigits 22 = _; rw [dig2 22 (by decide), dig1 (22 / 10) (by decide)]; rfl
theorem itoa_0 : Lib.itoa 0 = [48] := by show Lib.decDigits 0 = _; rw [dig1 0 (by decide)]; rfl
theorem itoa_3 : Lib.itoa 3 = [51] := by show Lib.decDigits 3 = _; rw [dig1 3 (by decide)]; rfl
theorem stamp0 : stampS secs0 = [49, 57, 57, 55, 48, 53, 50, 50, 84, 48, 48, 48, 48, 48, 48, 90] := by
  have h1 : yearS secs0 = 1997 := by decide +kernel
  have h2 : monS secs0 = 5 := by decide +kernel
  have h3 : dayS secs0 = 22 := by decide +kernel
  have h4 : secs0 % 86400 = 0 := by decide +kernel
  unfold stampS stampL padL
  rw [h1, h2, h3, h4, itoa_1997, itoa_5, itoa_22, show (0 : Int) / 3600 = 0 from rfl, show (0 : Int) / 60 % 60 = 0 from rfl, show (0 : Int) % 60 = 0 from rfl, itoa_0]
  rfl
theorem write0 : optL (optOf rule0) = text0 := by
  have h : optOf rule0 = opt0 := rfl
  rw [h]
  have hi : Lib.itoa opt0.ct = [51] := itoa_3
  have hs : stampS opt0.st.1 = _ := stamp0
  unfold optL rrL partsP p0 p1 p2 p3 p4 p10
  rw [hi, hs]
  rfl
theorem ok0 : OptOk (optOf rule0) := by
  refine ⟨by decide, ⟨by decide, by decide⟩, ⟨by decide, by decide⟩, ⟨by decide, by decide, by decide, by decide⟩, ⟨by decide, by decide⟩, ⟨by decide, by decide⟩, ?_, ?_, ?_, ?_, ?_, ?_, ?_, ?_, ?_, ?_⟩
  all_goals exact ⟨by simp [optOf, rule0], by simp [optOf, rule0]⟩
end Go.Proofs.YtcfbkkcamiephaaGreatDoor
