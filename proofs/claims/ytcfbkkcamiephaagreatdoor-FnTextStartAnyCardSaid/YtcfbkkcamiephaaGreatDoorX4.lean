import Derived.Test.YtcfbkkcamiephaaGreatDoorW2
import Derived.Test.YtcfbkkcamiephaaGreatDoorF13
import Derived.Test.YtcfbkkcamiephaaGreatDoorT1
import Derived.Test.YtcfbkkcamiephaaGreatDoorT5
namespace Go.Proofs.YtcfbkkcamiephaaGreatDoor
open Go.RowKit

set_option maxRecDepth 100000 in
set_option maxHeartbeats 1600000 in
/-- FnTextStartAny: the walk. -/
theorem law_startAny (hrule : RuleAny) (l : List UInt8) (w : World) (hG : Good w) :
    Calls Tryz.prog 15 #[.string (mkS l)] w fun e w' => e = .returned (.bool true) ∧ Below w.heap.size w w' := by
  have zl := size_mkS l
  have HG := Lib.hid hG
  have H19 := Lib.hid (fun w hG => awake_any hrule option_any w hG)
  clear hG hrule
  rcases Nat.lt_or_ge 2147483647 l.length with hlong | hle
  · have hd : decide ((2147483647 : Int) < (l.length : Int)) = true := by simp; omega
    go_enter Tryz.func15, Tryz.ntmps15
    go_wp2
    go_ret
    exact ⟨rfl, Below.refl _ _⟩
  have hd : decide ((2147483647 : Int) < (l.length : Int)) = false := by simp; omega
  rcases Nat.lt_or_ge 2000 l.length with hlong | hlen
  · have hd2 : decide ((2000 : Int) < (l.length : Int)) = true := by simp; omega
    go_enter Tryz.func15, Tryz.ntmps15
    go_wp2_with (first
      | (go_at_call 19; go_must (refine (H19.out _ HG.out).mono ?_; rintro e w1 ⟨rfl, hb1⟩))
      | (fail))
    go_ret
    exact ⟨rfl, hb1⟩
  have hd2 : decide ((2000 : Int) < (l.length : Int)) = false := by simp; omega
  have h42 := fun w => startS_any l w (by omega)
  have h43 := fun w => startOf_any l w (by omega)
  have hag := start_eq l
  have hO : startO l = .opn ∨ (startO l = .wrong ∧ startT l = none) ∨ ∃ n, startO l = .right n ∧ startT l = some (n, 0) := by
    unfold startO
    cases ascL l with
    | false => exact .inl rfl
    | true =>
      rw [if_neg (by decide)]
      cases hs : startS l with
      | opn => exact .inl rfl
      | wrong => rw [hs] at hag; exact .inr (.inl ⟨rfl, hag⟩)
      | right n => rw [hs] at hag; exact .inr (.inr ⟨n, rfl, hag⟩)
  clear hag
  rcases hO with ho | ⟨ho, ht⟩ | ⟨n, ho, ht⟩
  · rw [ho] at h42
    have H42 := Lib.hid h42
    clear h42 h43 ho
    go_enter Tryz.func15, Tryz.ntmps15
    go_wp2_with (first
      | (go_at_call 42; go_must (refine (H42.out _).mono ?_; rintro e w1 ⟨rfl, hb1⟩; have HB1 := Lib.hid hb1; clear hb1))
      | (go_at_call 19; go_must (refine (H19.out _ (HG.out.below HB1.out)).mono ?_; rintro e w2 ⟨rfl, hb2⟩; have HB2 := Lib.hid (HB1.out.trans (hb2.mono HB1.out.size)); clear hb2))
      | (fail))
    go_ret
    exact ⟨rfl, HB2.out⟩
  · rw [ho] at h42
    rw [ht] at h43
    have H42 := Lib.hid h42
    have H43 := Lib.hid h43
    clear h42 h43 ho ht
    go_enter Tryz.func15, Tryz.ntmps15
    go_wp2_with (first
      | (go_at_call 42; go_must (refine (H42.out _).mono ?_; rintro e w1 ⟨rfl, hb1⟩; have HB1 := Lib.hid hb1; clear hb1))
      | (go_at_call 43; go_must (refine (H43.out _).mono ?_; rintro e w3 ⟨hb3, rfl⟩; have HB3 := Lib.hid (HB1.out.trans (hb3.mono HB1.out.size)); clear hb3))
      | (go_at_call 19; go_must (refine (H19.out _ (HG.out.below HB3.out)).mono ?_; rintro e w2 ⟨rfl, hb2⟩; have HB2 := Lib.hid (HB3.out.trans (hb2.mono HB3.out.size)); clear hb2))
      | (fail))
    go_ret
    exact ⟨rfl, HB2.out⟩
  · rw [ho] at h42
    rw [ht] at h43
    replace h42 : ∀ w, Calls Tryz.prog 42 #[.string (mkS l)] w (fun e w' => e = .returned (.tuple #[.int .i64 n, .int .u8 0]) ∧ Below w.heap.size w w') := h42
    have hnn : (n == n) = true := by simp
    have H42 := Lib.hid h42
    have H43 := Lib.hid h43
    clear h42 h43 ho ht
    go_enter Tryz.func15, Tryz.ntmps15
    go_wp2_with (first
      | (go_at_call 42; go_must (refine (H42.out _).mono ?_; rintro e w1 ⟨rfl, hb1⟩; have HB1 := Lib.hid hb1; clear hb1))
      | (go_at_call 43; go_must (refine (H43.out _).mono ?_; rintro e w3 ⟨hb3, rfl⟩; have HB3 := Lib.hid (HB1.out.trans (hb3.mono HB1.out.size)); clear hb3))
      | (go_at_call 19; go_must (refine (H19.out _ (HG.out.below HB3.out)).mono ?_; rintro e w2 ⟨rfl, hb2⟩; have HB2 := Lib.hid (HB3.out.trans (hb2.mono HB3.out.size)); clear hb2))
      | (fail))
    go_ret
    exact ⟨rfl, HB2.out⟩
end Go.Proofs.YtcfbkkcamiephaaGreatDoor
