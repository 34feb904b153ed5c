import Derived.Test.YtcfbkkcamiephaaGreatDoorV4
import Derived.Deep.SlicePairs
import Derived.OpenShut
namespace Go.Proofs.YtcfbkkcamiephaaGreatDoor
open Go.RowKit

open Go.ChangeShapes Go.WideShapes Go.Deep

/-! ### a rule that is an argument -/
section
variable {H : Type} {enc : TypeId × Value → H}
theorem has_addr {w : World} {P : Program} {r : Reach} {base : Nat} {a : Addr} {e n : Nat} (h : w.has P r base a e n) : ∃ g gq, a = ⟨g, gq, none⟩ ∧ g < w.heap.size := by
  obtain ⟨_, hs, row, cells, hsh, _⟩ := h
  obtain ⟨g, gq, sp⟩ := a
  simp only at hs
  subst hs
  refine ⟨g, gq, rfl, ?_⟩
  unfold World.shape? at hsh
  simp only at hsh
  split at hsh
  · rename_i hh; exact (Array.getElem?_eq_some_iff.1 hh).1
  · cases hsh
theorem wf_64 {n : Int} (h : (Lit.int .i64 n).wf = true) : In64 n := by
  simp [Lit.wf, IntKind.min, IntKind.max, IntKind.signed, IntKind.bits] at h
  exact ⟨by omega, by omega⟩
theorem wf_8 {n : Int} (h : (Lit.int .u8 n).wf = true) : 0 ≤ n ∧ n ≤ 255 := by
  simp [Lit.wf, IntKind.min, IntKind.max, IntKind.signed, IntKind.bits] at h
  exact ⟨by omega, by omega⟩
theorem ce3 : Tryz.prog.cellsOf 3 = 1 := by kernel_rfl
theorem ce59 : Tryz.prog.cellsOf 59 = 2 := by kernel_rfl
theorem add_any (g gq i : Nat) : (⟨g, gq, none⟩ : Addr).add i = ⟨g, gq + i, none⟩ := by unfold Addr.add; split <;> simp_all
set_option maxRecDepth 100000 in
theorem ints_field {W : World} {r : Reach} {base n : Nat} {c : Value} {y : DataW H × List MemPlace} (hc : Cell.okWide Tryz.prog W r base 23 c) (h : DataW.trod enc Tryz.prog W 0 (fun _ => true) true n 23 [c] = some y) : ∃ xs, IntsV W c xs ∧ ∀ z ∈ xs, In64 z := by
  rcases open_ints Tryz.underlying23 Tryz.underlying3 ce3 h with ⟨h1, _⟩ | ⟨a, len, cap, zs, h1, _, hl, _, hzl, _, hcell, hwf⟩
  · injection h1 with h1
    exact ⟨[], .inl ⟨rfl, h1⟩, fun z hz => by simp at hz⟩
  · injection h1 with h1
    subst h1
    have hc' : W.has Tryz.prog r base a 3 cap := by
      simp only [Cell.okWide, Tryz.underlying23, Cell.ok] at hc
      exact hc.2.2
    obtain ⟨g, gq, rfl, hg⟩ := has_addr hc'
    simp only [if_true] at hzl
    refine ⟨zs.take len, .inr ⟨g, gq, cap, by rw [List.length_take, Nat.min_eq_left (by omega)], by rw [List.length_take]; omega, hg, fun i x hx => ?_⟩, fun z hz => wf_64 (hwf z (List.mem_of_mem_take hz))⟩
    rw [List.getElem?_take] at hx
    split at hx
    · have hi : i < zs.length := (List.getElem?_eq_some_iff.1 hx).1
      have := hcell i hi
      rw [add_any] at this
      rw [this, List.getD_eq_getElem?_getD, hx]; rfl
    · cases hx
set_option maxRecDepth 100000 in
theorem days_field {W : World} {r : Reach} {base n : Nat} {c : Value} {y : DataW H × List MemPlace} (hc : Cell.okWide Tryz.prog W r base 24 c) (h : DataW.trod enc Tryz.prog W 0 (fun _ => true) true n 24 [c] = some y) : ∃ xs, DaysV W c xs ∧ ∀ p ∈ xs, In64 p.1 ∧ In64 p.2 := by
  rcases open_slice_pairs Tryz.underlying24 Tryz.underlying59 ce59 rfl rfl ce3 ce3 h with ⟨h1, _⟩ | ⟨a, len, cap, m, n', V0, V1, D0, D1, P0, P1, h1, _, hl, _, hm, _, hx⟩
  · injection h1 with h1
    exact ⟨[], .inl ⟨rfl, h1⟩, fun z hz => by simp at hz⟩
  · injection h1 with h1
    subst h1
    have hc' : W.has Tryz.prog r base a 59 cap := by
      simp only [Cell.okWide, Tryz.underlying24, Cell.ok] at hc
      exact hc.2.2
    obtain ⟨g, gq, rfl, hg⟩ := has_addr hc'
    simp only [if_true] at hm
    have each : ∀ i, i < len → ∃ p : Int × Int, W.cell? ⟨g, gq + i * 2, none⟩ = some (.int .i64 p.1) ∧ W.cell? ⟨g, gq + i * 2 + 1, none⟩ = some (.int .i64 p.2) ∧ In64 p.1 ∧ In64 p.2 := fun i hi => by
      obtain ⟨e0, e1, t0, t1⟩ := hx i (by omega)
      obtain ⟨x0, hv0, _, w0⟩ := DataW.trod_int Tryz.underlying3 t0
      obtain ⟨x1, hv1, _, w1⟩ := DataW.trod_int Tryz.underlying3 t1
      injection hv0 with hv0
      injection hv1 with hv1
      rw [add_any, hv0] at e0
      rw [add_any, hv1] at e1
      exact ⟨(x0, x1), e0, by rw [Nat.add_assoc]; exact e1, wf_64 w0, wf_64 w1⟩
    obtain ⟨f, hf⟩ := choose_lt each
    refine ⟨(List.range len).map f, .inr ⟨g, gq, cap, by rw [List.length_map, List.length_range], by rw [List.length_map, List.length_range]; exact hl, hg, fun i x hx => ?_⟩, fun p hp => ?_⟩
    · rw [List.getElem?_map] at hx
      by_cases hi : i < len
      · rw [List.getElem?_range hi] at hx
        simp only [Option.map_some, Option.some.injEq] at hx
        subst hx
        exact ⟨(hf i hi).1, (hf i hi).2.1⟩
      · rw [List.getElem?_eq_none (by simpa using hi)] at hx; cases hx
    · obtain ⟨i, hi, rfl⟩ := List.mem_map.1 hp
      exact (hf i (List.mem_range.1 hi)).2.2
theorem array18 {α : Type} {cs : Array α} (h : cs.size = 18) : ∃ c0 c1 c2 c3 c4 c5 c6 c7 c8 c9 c10 c11 c12 c13 c14 c15 c16 c17, cs = #[c0, c1, c2, c3, c4, c5, c6, c7, c8, c9, c10, c11, c12, c13, c14, c15, c16, c17] := by
  obtain ⟨l⟩ := cs
  match l, h with
  | [c0, c1, c2, c3, c4, c5, c6, c7, c8, c9, c10, c11, c12, c13, c14, c15, c16, c17], _ => exact ⟨c0, c1, c2, c3, c4, c5, c6, c7, c8, c9, c10, c11, c12, c13, c14, c15, c16, c17, rfl⟩
theorem ce26 : Tryz.prog.cellsOf 26 = 18 := by kernel_rfl
theorem ct26 : Tryz.prog.cellTypes Tryz.prog.depth 26 = some [5, 4, 2, 3, 3, 3, 4, 2, 23, 23, 23, 23, 23, 24, 23, 23, 23, 23] := by kernel_rfl
theorem ce5 : Tryz.prog.cellsOf 5 = 1 := by kernel_rfl
theorem ce4 : Tryz.prog.cellsOf 4 = 1 := by kernel_rfl
theorem ce2 : Tryz.prog.cellsOf 2 = 1 := by kernel_rfl
theorem ce23 : Tryz.prog.cellsOf 23 = 1 := by kernel_rfl
theorem ce24 : Tryz.prog.cellsOf 24 = 1 := by kernel_rfl
set_option maxRecDepth 100000 in
/-- What a rule that is an argument holds. -/
theorem rule_open {W : World} {base : Nat} {v : Value} {d : DataW H} {p : List MemPlace} (hval : Value.okWide Tryz.prog W .any base 26 v) (h : DataW.Trod enc Tryz.prog W 0 (fun _ => true) true 26 v d p) : ∃ r, RuleIs W v r ∧ RuleIn r := by
  simp only [Value.okWide, Tryz.underlying26] at hval
  obtain ⟨cs, rfl, hsz, ts, hts, _, hrow⟩ := hval
  rw [ct26] at hts
  injection hts with hts
  subst hts
  rw [ce26] at hsz
  obtain ⟨c0, c1, c2, c3, c4, c5, c6, c7, c8, c9, c10, c11, c12, c13, c14, c15, c16, c17, rfl⟩ := array18 hsz
  obtain ⟨fuel, hf⟩ := h
  obtain ⟨xs, n, _, _, _, hlen, hF⟩ := DataW.trod_struct Tryz.underlying26 hf
  have hlen : xs.length = 18 := hlen
  have hx : ∀ i, i < 18 → ∃ y, xs[i]? = some y := fun i hi => ⟨xs[i]'(by omega), List.getElem?_eq_getElem _⟩
  have ok : ∀ i (t : TypeId) (c : Value), #[c0, c1, c2, c3, c4, c5, c6, c7, c8, c9, c10, c11, c12, c13, c14, c15, c16, c17][i]? = some c → [5, 4, 2, 3, 3, 3, 4, 2, 23, 23, 23, 23, 23, 24, 23, 23, 23, 23][i % 18]? = some t → Cell.okWide Tryz.prog W .any base t c := fun i t c hc ht => by
    obtain ⟨u, hu, hk⟩ := hrow i c hc
    have : some u = some t := hu.symm.trans ht
    injection this with this
    subst this
    exact hk
  obtain ⟨y0, z0⟩ := hx 0 (by omega)
  have g0 : DataW.trod enc Tryz.prog W 0 (fun _ => true) true n 5 [c0] = some y0 := by
    have := hF 0 _ rfl
    rw [z0] at this
    simpa [Value.cells, ce5] using this
  obtain ⟨y1, z1⟩ := hx 1 (by omega)
  have g1 : DataW.trod enc Tryz.prog W 0 (fun _ => true) true n 4 [c1] = some y1 := by
    have := hF 1 _ rfl
    rw [z1] at this
    simpa [Value.cells, ce4] using this
  obtain ⟨y2, z2⟩ := hx 2 (by omega)
  have g2 : DataW.trod enc Tryz.prog W 0 (fun _ => true) true n 2 [c2] = some y2 := by
    have := hF 2 _ rfl
    rw [z2] at this
    simpa [Value.cells, ce2] using this
  obtain ⟨y3, z3⟩ := hx 3 (by omega)
  have g3 : DataW.trod enc Tryz.prog W 0 (fun _ => true) true n 3 [c3] = some y3 := by
    have := hF 3 _ rfl
    rw [z3] at this
    simpa [Value.cells, ce3] using this
  obtain ⟨y4, z4⟩ := hx 4 (by omega)
  have g4 : DataW.trod enc Tryz.prog W 0 (fun _ => true) true n 3 [c4] = some y4 := by
    have := hF 4 _ rfl
    rw [z4] at this
    simpa [Value.cells, ce3] using this
  obtain ⟨y5, z5⟩ := hx 5 (by omega)
  have g5 : DataW.trod enc Tryz.prog W 0 (fun _ => true) true n 3 [c5] = some y5 := by
    have := hF 5 _ rfl
    rw [z5] at this
    simpa [Value.cells, ce3] using this
  obtain ⟨y6, z6⟩ := hx 6 (by omega)
  have g6 : DataW.trod enc Tryz.prog W 0 (fun _ => true) true n 4 [c6] = some y6 := by
    have := hF 6 _ rfl
    rw [z6] at this
    simpa [Value.cells, ce4] using this
  obtain ⟨y7, z7⟩ := hx 7 (by omega)
  have g7 : DataW.trod enc Tryz.prog W 0 (fun _ => true) true n 2 [c7] = some y7 := by
    have := hF 7 _ rfl
    rw [z7] at this
    simpa [Value.cells, ce2] using this
  obtain ⟨y8, z8⟩ := hx 8 (by omega)
  have g8 : DataW.trod enc Tryz.prog W 0 (fun _ => true) true n 23 [c8] = some y8 := by
    have := hF 8 _ rfl
    rw [z8] at this
    simpa [Value.cells, ce23] using this
  obtain ⟨y9, z9⟩ := hx 9 (by omega)
  have g9 : DataW.trod enc Tryz.prog W 0 (fun _ => true) true n 23 [c9] = some y9 := by
    have := hF 9 _ rfl
    rw [z9] at this
    simpa [Value.cells, ce23] using this
  obtain ⟨y10, z10⟩ := hx 10 (by omega)
  have g10 : DataW.trod enc Tryz.prog W 0 (fun _ => true) true n 23 [c10] = some y10 := by
    have := hF 10 _ rfl
    rw [z10] at this
    simpa [Value.cells, ce23] using this
  obtain ⟨y11, z11⟩ := hx 11 (by omega)
  have g11 : DataW.trod enc Tryz.prog W 0 (fun _ => true) true n 23 [c11] = some y11 := by
    have := hF 11 _ rfl
    rw [z11] at this
    simpa [Value.cells, ce23] using this
  obtain ⟨y12, z12⟩ := hx 12 (by omega)
  have g12 : DataW.trod enc Tryz.prog W 0 (fun _ => true) true n 23 [c12] = some y12 := by
    have := hF 12 _ rfl
    rw [z12] at this
    simpa [Value.cells, ce23] using this
  obtain ⟨y13, z13⟩ := hx 13 (by omega)
  have g13 : DataW.trod enc Tryz.prog W 0 (fun _ => true) true n 24 [c13] = some y13 := by
    have := hF 13 _ rfl
    rw [z13] at this
    simpa [Value.cells, ce24] using this
  obtain ⟨y14, z14⟩ := hx 14 (by omega)
  have g14 : DataW.trod enc Tryz.prog W 0 (fun _ => true) true n 23 [c14] = some y14 := by
    have := hF 14 _ rfl
    rw [z14] at this
    simpa [Value.cells, ce23] using this
  obtain ⟨y15, z15⟩ := hx 15 (by omega)
  have g15 : DataW.trod enc Tryz.prog W 0 (fun _ => true) true n 23 [c15] = some y15 := by
    have := hF 15 _ rfl
    rw [z15] at this
    simpa [Value.cells, ce23] using this
  obtain ⟨y16, z16⟩ := hx 16 (by omega)
  have g16 : DataW.trod enc Tryz.prog W 0 (fun _ => true) true n 23 [c16] = some y16 := by
    have := hF 16 _ rfl
    rw [z16] at this
    simpa [Value.cells, ce23] using this
  obtain ⟨y17, z17⟩ := hx 17 (by omega)
  have g17 : DataW.trod enc Tryz.prog W 0 (fun _ => true) true n 23 [c17] = some y17 := by
    have := hF 17 _ rfl
    rw [z17] at this
    simpa [Value.cells, ce23] using this
  obtain ⟨fq, e0, _, w0⟩ := DataW.trod_int Tryz.underlying5 g0
  obtain ⟨hs, e1, _⟩ := DataW.trod_bool Tryz.underlying4 g1
  obtain ⟨st, e2, _, w2⟩ := DataW.trod_int Tryz.underlying2 g2
  obtain ⟨iv, e3, _, w3⟩ := DataW.trod_int Tryz.underlying3 g3
  obtain ⟨wk, e4, _, w4⟩ := DataW.trod_int Tryz.underlying3 g4
  obtain ⟨ct, e5, _, w5⟩ := DataW.trod_int Tryz.underlying3 g5
  obtain ⟨hu, e6, _⟩ := DataW.trod_bool Tryz.underlying4 g6
  obtain ⟨un, e7, _, w7⟩ := DataW.trod_int Tryz.underlying2 g7
  injection e0 with e0; injection e1 with e1; injection e2 with e2; injection e3 with e3; injection e4 with e4; injection e5 with e5; injection e6 with e6; injection e7 with e7
  subst e0; subst e1; subst e2; subst e3; subst e4; subst e5; subst e6; subst e7
  obtain ⟨sp, k8, r8⟩ := ints_field (ok 8 23 c8 rfl rfl) g8
  obtain ⟨mo, k9, r9⟩ := ints_field (ok 9 23 c9 rfl rfl) g9
  obtain ⟨md, k10, r10⟩ := ints_field (ok 10 23 c10 rfl rfl) g10
  obtain ⟨yd, k11, r11⟩ := ints_field (ok 11 23 c11 rfl rfl) g11
  obtain ⟨wn, k12, r12⟩ := ints_field (ok 12 23 c12 rfl rfl) g12
  obtain ⟨dy, k13, r13⟩ := days_field (ok 13 24 c13 rfl rfl) g13
  obtain ⟨ho, k14, r14⟩ := ints_field (ok 14 23 c14 rfl rfl) g14
  obtain ⟨mi, k15, r15⟩ := ints_field (ok 15 23 c15 rfl rfl) g15
  obtain ⟨se, k16, r16⟩ := ints_field (ok 16 23 c16 rfl rfl) g16
  obtain ⟨ea, k17, r17⟩ := ints_field (ok 17 23 c17 rfl rfl) g17
  exact ⟨⟨fq, hs, st, iv, wk, ct, hu, un, sp, mo, md, yd, wn, dy, ho, mi, se, ea⟩, ⟨c8, c9, c10, c11, c12, c13, c14, c15, c16, c17, rfl, k8, k9, k10, k11, k12, k13, k14, k15, k16, k17⟩,
    ⟨wf_8 w0, wf_64 w3, wf_64 w5, r8, r9, r10, r11, r12, fun p hp => (r13 p hp).2, r14, r15, r16, r17⟩⟩
end
end Go.Proofs.YtcfbkkcamiephaaGreatDoor
