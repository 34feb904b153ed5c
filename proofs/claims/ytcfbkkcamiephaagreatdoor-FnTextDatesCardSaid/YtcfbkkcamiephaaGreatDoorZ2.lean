import Derived.Test.YtcfbkkcamiephaaGreatDoorBv
import Derived.Test.YtcfbkkcamiephaaGreatDoorO1
namespace Go.Proofs.YtcfbkkcamiephaaGreatDoor
open Go.RowKit
open Go.ChangeShapes Go.WideShapes Go.Deep

/-! ### a list of bytes that is an argument -/
section
variable {H : Type} {enc : TypeId × Value → H}
set_option maxRecDepth 100000 in
theorem bytes_open {W : World} {base : Nat} {v : Value} {d : DataW H} {p : List MemPlace} (hval : Value.okWide Tryz.prog W .any base 37 v) (h : DataW.Trod enc Tryz.prog W 0 (fun _ => true) true 37 v d p) : ∃ xs, BytesV W v xs := by
  obtain ⟨a1, len1, cap1, rfl⟩ := okWide_slice Tryz.underlying37 hval
  obtain ⟨fuel, hf⟩ := h
  have hf : DataW.trod enc Tryz.prog W 0 (fun _ => true) true fuel 37 [.slice a1 len1 cap1] = some (d, p) := hf
  rcases open_ints Tryz.underlying37 Tryz.underlying5 ce5 hf with ⟨h1, _⟩ | ⟨a, len, cap, zs, h1, _, hl, _, hzl, _, hcell, hwf⟩
  · injection h1 with h1
    injection h1 with h1 h2 h3
    subst h1; subst h2; subst h3
    exact ⟨[], _, _, rfl, .inl rfl⟩
  · injection h1 with h1
    injection h1 with h1 h2 h3
    subst h1; subst h2; subst h3
    have hc' : W.has Tryz.prog .any base a 5 cap1 := by
      simp only [Value.okWide, Cell.okWide, Tryz.underlying37, Cell.ok] at hval
      exact hval.2.2
    obtain ⟨g, gq, rfl, hg⟩ := has_addr hc'
    simp only [if_true] at hzl
    refine ⟨(zs.take len1).map Int.toNat, some ⟨g, gq, none⟩, cap1, by rw [List.length_map, List.length_take, Nat.min_eq_left (by omega)], .inr ⟨g, gq, rfl, hg, fun i x hx => ?_⟩⟩
    rw [List.getElem?_map, List.getElem?_take] at hx
    split at hx
    · have hi : i < zs.length := by omega
      have hq := List.getElem?_eq_getElem hi
      rw [hq] at hx
      simp only [Option.map_some, Option.some.injEq] at hx
      have hc := hcell i hi
      rw [add_any] at hc
      rw [hc, List.getD_eq_getElem?_getD, hq]
      have hw := wf_8 (hwf _ (List.getElem_mem hi))
      rw [← hx]
      simp only [Option.getD_some, Option.some.injEq]
      rw [Int.toNat_of_nonneg hw.1]
    · cases hx
set_option maxRecDepth 100000 in
theorem bytes_open8 {W : World} {base : Nat} {v : Value} {d : DataW H} {p : List MemPlace} (hval : Value.okWide Tryz.prog W .any base 37 v) (h : DataW.Trod enc Tryz.prog W 0 (fun _ => true) true 37 v d p) : ∃ xs, BytesV W v xs ∧ ∀ x ∈ xs, x ≤ 255 := by
  obtain ⟨a1, len1, cap1, rfl⟩ := okWide_slice Tryz.underlying37 hval
  obtain ⟨fuel, hf⟩ := h
  have hf : DataW.trod enc Tryz.prog W 0 (fun _ => true) true fuel 37 [.slice a1 len1 cap1] = some (d, p) := hf
  rcases open_ints Tryz.underlying37 Tryz.underlying5 ce5 hf with ⟨h1, _⟩ | ⟨a, len, cap, zs, h1, _, hl, _, hzl, _, hcell, hwf⟩
  · injection h1 with h1
    injection h1 with h1 h2 h3
    subst h1; subst h2; subst h3
    exact ⟨[], ⟨_, _, rfl, .inl rfl⟩, fun x hx => by cases hx⟩
  · injection h1 with h1
    injection h1 with h1 h2 h3
    subst h1; subst h2; subst h3
    have hc' : W.has Tryz.prog .any base a 5 cap1 := by
      simp only [Value.okWide, Cell.okWide, Tryz.underlying37, Cell.ok] at hval
      exact hval.2.2
    obtain ⟨g, gq, rfl, hg⟩ := has_addr hc'
    simp only [if_true] at hzl
    refine ⟨(zs.take len1).map Int.toNat, ⟨some ⟨g, gq, none⟩, cap1, by rw [List.length_map, List.length_take, Nat.min_eq_left (by omega)], .inr ⟨g, gq, rfl, hg, fun i x hx => ?_⟩⟩, fun x hx => ?_⟩
    · rw [List.getElem?_map, List.getElem?_take] at hx
      split at hx
      · have hi : i < zs.length := by omega
        have hq := List.getElem?_eq_getElem hi
        rw [hq] at hx
        simp only [Option.map_some, Option.some.injEq] at hx
        have hc := hcell i hi
        rw [add_any] at hc
        rw [hc, List.getD_eq_getElem?_getD, hq]
        have hw := wf_8 (hwf _ (List.getElem_mem hi))
        rw [← hx]
        simp only [Option.getD_some, Option.some.injEq]
        rw [Int.toNat_of_nonneg hw.1]
      · cases hx
    · obtain ⟨z, hz, rfl⟩ := List.mem_map.1 hx
      have hw := wf_8 (hwf z (List.mem_of_mem_take hz))
      omega
end
end Go.Proofs.YtcfbkkcamiephaaGreatDoor
