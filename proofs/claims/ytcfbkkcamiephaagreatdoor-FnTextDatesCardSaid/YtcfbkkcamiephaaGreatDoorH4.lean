import Derived.Test.YtcfbkkcamiephaaGreatDoorH3
import Derived.Test.YtcfbkkcamiephaaGreatDoorZ2
namespace Go.Proofs.YtcfbkkcamiephaaGreatDoor
open Go.RowKit
open Go.ChangeShapes Go.WideShapes Go.Deep

/-! ### a list of moments that is an argument -/
section
variable {H : Type} {enc : TypeId × Value → H}
theorem Tryz.u2 : Tryz.prog.underlying 2 = some (.int .i64) := by kernel_rfl
set_option maxRecDepth 100000 in
theorem moms_open {W : World} {base : Nat} {v : Value} {d : DataW H} {p : List MemPlace} (hval : Value.okWide Tryz.prog W .any base 49 v) (h : DataW.Trod enc Tryz.prog W 0 (fun _ => true) true 49 v d p) : ∃ xs, IntsV W v xs := by
  obtain ⟨a1, len1, cap1, rfl⟩ := okWide_slice Tryz.u49 hval
  obtain ⟨fuel, hf⟩ := h
  have hf : DataW.trod enc Tryz.prog W 0 (fun _ => true) true fuel 49 [.slice a1 len1 cap1] = some (d, p) := hf
  rcases open_ints Tryz.u49 Tryz.u2 ce2 hf with ⟨h1, _⟩ | ⟨a, len, cap, zs, h1, _, hl, _, hzl, _, hcell, hwf⟩
  · injection h1 with h1
    injection h1 with h1 h2 h3
    subst h1; subst h2; subst h3
    exact ⟨[], .inl ⟨rfl, rfl⟩⟩
  · injection h1 with h1
    injection h1 with h1 h2 h3
    subst h1; subst h2; subst h3
    have hc' : W.has Tryz.prog .any base a 2 cap1 := by
      simp only [Value.okWide, Cell.okWide, Tryz.u49, Cell.ok] at hval
      exact hval.2.2
    obtain ⟨g, gq, rfl, hg⟩ := has_addr hc'
    simp only [if_true] at hzl
    have hlen : (zs.take len1).length = len1 := by rw [List.length_take, Nat.min_eq_left (by omega)]
    refine ⟨zs.take len1, .inr ⟨g, gq, cap1, by rw [hlen], by rw [hlen]; exact hl, hg, fun i x hx => ?_⟩⟩
    rw [List.getElem?_take] at hx
    split at hx
    · have hi : i < zs.length := by omega
      have hq := List.getElem?_eq_getElem hi
      rw [hq] at hx
      simp only [Option.some.injEq] at hx
      have hc := hcell i hi
      rw [add_any] at hc
      rw [hc, List.getD_eq_getElem?_getD, hq]
      simp only [Option.getD_some, hx]
    · cases hx
end
end Go.Proofs.YtcfbkkcamiephaaGreatDoor
