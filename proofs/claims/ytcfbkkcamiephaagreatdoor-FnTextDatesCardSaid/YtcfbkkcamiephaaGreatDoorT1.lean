import Derived.Test.YtcfbkkcamiephaaGreatDoorE3
import Derived.Test.YtcfbkkcamiephaaGreatDoorE4
namespace Go.Proofs.YtcfbkkcamiephaaGreatDoor
open Go.RowKit

/-! ### impl.StartOf -/
def StartPost (w : World) (R : Option (Int × Int)) (e : Ending) (w' : World) : Prop := Below w.heap.size w w' ∧ match R with
  | none => e = .returned (.tuple #[.int .i64 0, .bool false])
  | some (s, _) => e = .returned (.tuple #[.int .i64 s, .bool true])
set_option maxRecDepth 100000 in
set_option maxHeartbeats 1600000 in
theorem startOf_any (l : List UInt8) (w : World) (hl : l.length ≤ 1000000) : Calls Tryz.prog 43 #[.string (mkS l)] w (StartPost w (startT l)) := by
  have h := fun w => start_any l w hl
  cases hR : startT l with
  | none =>
    rw [hR] at h
    have H := Lib.hid h; clear h hR
    go_enter Tryz.func43, Tryz.ntmps43
    go_wp2_with (first
      | (go_at_call 78; go_must (refine (utc_any _).mono ?_; rintro e w0 ⟨rfl, rfl⟩))
      | (go_at_call 77; go_must (refine (H.out _).mono ?_; rintro e w1 ⟨s, n, ev, rfl, hb, hs, hn, T, p, rfl⟩)))
    go_ret2
    have hb' : Below w.heap.size w w1 := ((Below.refl _ _).alloc (Nat.le_refl _) _).trans (hb.mono (by simp))
    exact ⟨hb'.alloc (by have := hb'.size; omega) _, rfl⟩
  | some x =>
    obtain ⟨a, b⟩ := x
    rw [hR] at h
    have H := Lib.hid h; clear h hR
    go_enter Tryz.func43, Tryz.ntmps43
    go_wp2_with (first
      | (go_at_call 78; go_must (refine (utc_any _).mono ?_; rintro e w0 ⟨rfl, rfl⟩))
      | (go_at_call 77; go_must (refine (H.out _).mono ?_; rintro e w1 ⟨s, n, ev, rfl, hb, rfl, rfl, rfl⟩))
      | (go_at_call 79; go_must (refine (seconds_any _ _ _).mono ?_; rintro e w2 ⟨rfl, hb2⟩)))
    go_ret2
    have hb' : Below w.heap.size w w1 := ((Below.refl _ _).alloc (Nat.le_refl _) _).trans (hb.mono (by simp))
    have hb'' : Below w.heap.size w (w1.alloc (.cells #[.int .i64 s, .int .i64 n] 101)) := hb'.alloc (by have := hb'.size; omega) _
    exact ⟨hb''.trans (hb2.mono hb''.size), rfl⟩
end Go.Proofs.YtcfbkkcamiephaaGreatDoor
