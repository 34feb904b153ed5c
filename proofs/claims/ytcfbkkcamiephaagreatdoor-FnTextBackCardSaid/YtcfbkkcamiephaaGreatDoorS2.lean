import Derived.Test.YtcfbkkcamiephaaGreatDoorF10
namespace Go.Proofs.YtcfbkkcamiephaaGreatDoor
open Go.RowKit

/-! ### SameRule's lists -/
theorem IntsV.form2 {w : World} {v : Value} {xs : List Int} (h : IntsV w v xs) : ∃ a c, v = .slice a xs.length c ∧ (xs = [] ∨ ∃ g gq, a = some ⟨g, gq, none⟩ ∧ IntRowQ w g gq xs) := by
  rcases h with ⟨h0, h⟩ | ⟨g, gq, c, h, _, h2⟩
  · subst h0; exact ⟨_, _, h, .inl rfl⟩
  · exact ⟨_, _, h, .inr ⟨g, gq, rfl, h2⟩⟩
theorem cell_drewN (w : World) (q : Nat) (a : Addr) : (w.drewN q).cell? a = w.cell? a := by simp
set_option maxRecDepth 100000 in
set_option maxHeartbeats 1600000 in
theorem sameInts_any (xs : List Int) (v v' : Value) (w : World) (hv : IntsV w v xs) (hv' : IntsV w v' xs) (hl : xs.length ≤ 1000000000) :
    Calls Tryz.prog 61 #[v, v'] w fun e w' => e = .returned (.bool true) ∧ ∃ q, w' = w.drewN q := by
  obtain ⟨a, c, rfl, hr⟩ := hv.form2
  obtain ⟨a', c', rfl, hr'⟩ := hv'.form2
  have HR := Lib.hid hr
  have HR' := Lib.hid hr'
  clear hr hr' hv hv'
  go_enter Tryz.func61, Tryz.ntmps61
  go_wp2
  go_loopw [13] (fun i wr => ∃ k q : Nat, k ≤ xs.length ∧ i = .int .i64 k ∧ wr = w.drewN q) (fun i _ => xs.length - (intOf i).toNat)
  case atStart => exact ⟨0, 0, by omega, rfl, rfl⟩
  case round =>
    obtain ⟨k, q, hk, rfl, rfl⟩ := hrel
    by_cases hlt : k < xs.length
    · obtain ⟨g, gq, rfl, hg⟩ : ∃ g gq, a = some ⟨g, gq, none⟩ ∧ IntRowQ w g gq xs := by
        rcases HR.out with h | h
        · rw [h] at hlt; simp at hlt
        · exact h
      obtain ⟨g', gq', rfl, hg'⟩ : ∃ g gq, a' = some ⟨g, gq, none⟩ ∧ IntRowQ w g gq xs := by
        rcases HR'.out with h | h
        · rw [h] at hlt; simp at hlt
        · exact h
      have hc := hg.cell k xs[k] (by simp [hlt])
      have hc' := hg'.cell k xs[k] (by simp [hlt])
      generalize xs[k] = x at hc hc'
      have hk0 : (0 : Int) ≤ (k : Int) := Int.natCast_nonneg _
      have hk1 : (k : Int) < (xs.length : Int) := by omega
      clear hg hg'
      go_wp2
      go_quiet (fail)
      go_wp2
      go_roundw
      case rel => exact ⟨k + 1, _, by omega, by go_num, rfl⟩
      case measure => simp [intOf]; omega
    · obtain rfl : k = xs.length := by omega
      go_wp2
      go_ret
      exact ⟨rfl, q, rfl⟩
end Go.Proofs.YtcfbkkcamiephaaGreatDoor
