import Derived.Test.YtcfbkkcamiephaaGreatDoorV1
import Derived.Deep.SlicePairs
import Derived.OpenShut
import Derived.Test.YtcfbkkcamiephaaGreatDoorG1
import Derived.Lib.LaidCase
import Derived.Lib.LaidTab
import Derived.Stop.LaidErr
namespace Go.Proofs.YtcfbkkcamiephaaGreatDoor
open Go.RowKit

open Go.ChangeShapes Go.WideShapes Go.Deep

/-! ### a rule that is an argument -/
section
variable {H : Type} {enc : TypeId × Value → H}
theorem has_addr {w : World} {P : Program} {r : Reach} {base : Nat} {a : Addr} {e n : Nat} (h : w.has P r base a e n) : ∃ g gq, a = ⟨g, gq, none⟩ ∧ g < w.heap.size := by
  obtain ⟨_, hs, row, cells, hsh, _⟩ := h
  obtain ⟨g, gq, sp⟩ := a
  simp only at hs
  subst hs
  refine ⟨g, gq, rfl, ?_⟩
  unfold World.shape? at hsh
  simp only at hsh
  split at hsh
  · rename_i hh; exact (Array.getElem?_eq_some_iff.1 hh).1
  · cases hsh
theorem wf_64 {n : Int} (h : (Lit.int .i64 n).wf = true) : In64 n := by
  simp [Lit.wf, IntKind.min, IntKind.max, IntKind.signed, IntKind.bits] at h
  exact ⟨by omega, by omega⟩
theorem wf_8 {n : Int} (h : (Lit.int .u8 n).wf = true) : 0 ≤ n ∧ n ≤ 255 := by
  simp [Lit.wf, IntKind.min, IntKind.max, IntKind.signed, IntKind.bits] at h
  exact ⟨by omega, by omega⟩
theorem ce3 : Tryz.prog.cellsOf 3 = 1 := by kernel_rfl
theorem ce59 : Tryz.prog.cellsOf 59 = 2 := by kernel_rfl
theorem add_any (g gq i : Nat) : (⟨g, gq, none⟩ : Addr).add i = ⟨g, gq + i, none⟩ := by unfold Addr.add; split <;> simp_all
set_option maxRecDepth 100000 in
theorem ints_field {W : World} {r : Reach} {base n : Nat} {c : Value} {y : DataW H × List MemPlace} (hc : Cell.okWide Tryz.prog W r base 23 c) (h : DataW.trod enc Tryz.prog W 0 (fun _ => true) true n 23 [c] = some y) : ∃ xs, IntsV W c xs ∧ ∀ z ∈ xs, In64 z := by
  rcases open_ints Tryz.underlying23 Tryz.underlying3 ce3 h with ⟨h1, _⟩ | ⟨a, len, cap, zs, h1, _, hl, _, hzl, _, hcell, hwf⟩
  · injection h1 with h1
    exact ⟨[], .inl ⟨rfl, h1⟩, fun z hz => by simp at hz⟩
  · injection h1 with h1
    subst h1
    have hc' : W.has Tryz.prog r base a 3 cap := by
      simp only [Cell.okWide, Tryz.underlying23, Cell.ok] at hc
      exact hc.2.2
    obtain ⟨g, gq, rfl, hg⟩ := has_addr hc'
    simp only [if_true] at hzl
    refine ⟨zs.take len, .inr ⟨g, gq, cap, by rw [List.length_take, Nat.min_eq_left (by omega)], by rw [List.length_take]; omega, hg, fun i x hx => ?_⟩, fun z hz => wf_64 (hwf z (List.mem_of_mem_take hz))⟩
    rw [List.getElem?_take] at hx
    split at hx
    · have hi : i < zs.length := (List.getElem?_eq_some_iff.1 hx).1
      have := hcell i hi
      rw [add_any] at this
      rw [this, List.getD_eq_getElem?_getD, hx]; rfl
    · cases hx
set_option maxRecDepth 100000 in
theorem days_field {W : World} {r : Reach} {base n : Nat} {c : Value} {y : DataW H × List MemPlace} (hc : Cell.okWide Tryz.prog W r base 24 c) (h : DataW.trod enc Tryz.prog W 0 (fun _ => true) true n 24 [c] = some y) : ∃ xs, DaysV W c xs ∧ ∀ p ∈ xs, In64 p.1 ∧ In64 p.2 := by
  rcases open_slice_pairs Tryz.underlying24 Tryz.underlying59 ce59 rfl rfl ce3 ce3 h with ⟨h1, _⟩ | ⟨a, len, cap, m, n', V0, V1, D0, D1, P0, P1, h1, _, hl, _, hm, _, hx⟩
  · injection h1 with h1
    exact ⟨[], .inl ⟨rfl, h1⟩, fun z hz => by simp at hz⟩
  · injection h1 with h1
    subst h1
    have hc' : W.has Tryz.prog r base a 59 cap := by
      simp only [Cell.okWide, Tryz.underlying24, Cell.ok] at hc
      exact hc.2.2
    obtain ⟨g, gq, rfl, hg⟩ := has_addr hc'
    simp only [if_true] at hm
    have each : ∀ i, i < len → ∃ p : Int × Int, W.cell? ⟨g, gq + i * 2, none⟩ = some (.int .i64 p.1) ∧ W.cell? ⟨g, gq + i * 2 + 1, none⟩ = some (.int .i64 p.2) ∧ In64 p.1 ∧ In64 p.2 := fun i hi => by
      obtain ⟨e0, e1, t0, t1⟩ := hx i (by omega)
      obtain ⟨x0, hv0, _, w0⟩ := DataW.trod_int Tryz.underlying3 t0
      obtain ⟨x1, hv1, _, w1⟩ := DataW.trod_int Tryz.underlying3 t1
      injection hv0 with hv0
      injection hv1 with hv1
      rw [add_any, hv0] at e0
      rw [add_any, hv1] at e1
      exact ⟨(x0, x1), e0, by rw [Nat.add_assoc]; exact e1, wf_64 w0, wf_64 w1⟩
    obtain ⟨f, hf⟩ := choose_lt each
    refine ⟨(List.range len).map f, .inr ⟨g, gq, cap, by rw [List.length_map, List.length_range], by rw [List.length_map, List.length_range]; exact hl, hg, fun i x hx => ?_⟩, fun p hp => ?_⟩
    · rw [List.getElem?_map] at hx
      by_cases hi : i < len
      · rw [List.getElem?_range hi] at hx
        simp only [Option.map_some, Option.some.injEq] at hx
        subst hx
        exact ⟨(hf i hi).1, (hf i hi).2.1⟩
      · rw [List.getElem?_eq_none (by simpa using hi)] at hx; cases hx
    · obtain ⟨i, hi, rfl⟩ := List.mem_map.1 hp
      exact (hf i (List.mem_range.1 hi)).2.2
theorem array18 {α : Type} {cs : Array α} (h : cs.size = 18) : ∃ c0 c1 c2 c3 c4 c5 c6 c7 c8 c9 c10 c11 c12 c13 c14 c15 c16 c17, cs = #[c0, c1, c2, c3, c4, c5, c6, c7, c8, c9, c10, c11, c12, c13, c14, c15, c16, c17] := by
  obtain ⟨l⟩ := cs
  match l, h with
  | [c0, c1, c2, c3, c4, c5, c6, c7, c8, c9, c10, c11, c12, c13, c14, c15, c16, c17], _ => exact ⟨c0, c1, c2, c3, c4, c5, c6, c7, c8, c9, c10, c11, c12, c13, c14, c15, c16, c17, rfl⟩
theorem ce26 : Tryz.prog.cellsOf 26 = 18 := by kernel_rfl
theorem ct26 : Tryz.prog.cellTypes Tryz.prog.depth 26 = some [5, 4, 2, 3, 3, 3, 4, 2, 23, 23, 23, 23, 23, 24, 23, 23, 23, 23] := by kernel_rfl
theorem ce5 : Tryz.prog.cellsOf 5 = 1 := by kernel_rfl
theorem ce4 : Tryz.prog.cellsOf 4 = 1 := by kernel_rfl
theorem ce2 : Tryz.prog.cellsOf 2 = 1 := by kernel_rfl
theorem ce23 : Tryz.prog.cellsOf 23 = 1 := by kernel_rfl
theorem ce24 : Tryz.prog.cellsOf 24 = 1 := by kernel_rfl
set_option maxRecDepth 100000 in
/-- What a rule that is an argument holds. -/
theorem rule_open {W : World} {base : Nat} {v : Value} {d : DataW H} {p : List MemPlace} (hval : Value.okWide Tryz.prog W .any base 26 v) (h : DataW.Trod enc Tryz.prog W 0 (fun _ => true) true 26 v d p) : ∃ r, RuleIs W v r ∧ RuleIn r := by
  simp only [Value.okWide, Tryz.underlying26] at hval
  obtain ⟨cs, rfl, hsz, ts, hts, _, hrow⟩ := hval
  rw [ct26] at hts
  injection hts with hts
  subst hts
  rw [ce26] at hsz
  obtain ⟨c0, c1, c2, c3, c4, c5, c6, c7, c8, c9, c10, c11, c12, c13, c14, c15, c16, c17, rfl⟩ := array18 hsz
  obtain ⟨fuel, hf⟩ := h
  obtain ⟨xs, n, _, _, _, hlen, hF⟩ := DataW.trod_struct Tryz.underlying26 hf
  have hlen : xs.length = 18 := hlen
  have hx : ∀ i, i < 18 → ∃ y, xs[i]? = some y := fun i hi => ⟨xs[i]'(by omega), List.getElem?_eq_getElem _⟩
  have ok : ∀ i (t : TypeId) (c : Value), #[c0, c1, c2, c3, c4, c5, c6, c7, c8, c9, c10, c11, c12, c13, c14, c15, c16, c17][i]? = some c → [5, 4, 2, 3, 3, 3, 4, 2, 23, 23, 23, 23, 23, 24, 23, 23, 23, 23][i % 18]? = some t → Cell.okWide Tryz.prog W .any base t c := fun i t c hc ht => by
    obtain ⟨u, hu, hk⟩ := hrow i c hc
    have : some u = some t := hu.symm.trans ht
    injection this with this
    subst this
    exact hk
  obtain ⟨y0, z0⟩ := hx 0 (by omega)
  have g0 : DataW.trod enc Tryz.prog W 0 (fun _ => true) true n 5 [c0] = some y0 := by
    have := hF 0 _ rfl
    rw [z0] at this
    simpa [Value.cells, ce5] using this
  obtain ⟨y1, z1⟩ := hx 1 (by omega)
  have g1 : DataW.trod enc Tryz.prog W 0 (fun _ => true) true n 4 [c1] = some y1 := by
    have := hF 1 _ rfl
    rw [z1] at this
    simpa [Value.cells, ce4] using this
  obtain ⟨y2, z2⟩ := hx 2 (by omega)
  have g2 : DataW.trod enc Tryz.prog W 0 (fun _ => true) true n 2 [c2] = some y2 := by
    have := hF 2 _ rfl
    rw [z2] at this
    simpa [Value.cells, ce2] using this
  obtain ⟨y3, z3⟩ := hx 3 (by omega)
  have g3 : DataW.trod enc Tryz.prog W 0 (fun _ => true) true n 3 [c3] = some y3 := by
    have := hF 3 _ rfl
    rw [z3] at this
    simpa [Value.cells, ce3] using this
  obtain ⟨y4, z4⟩ := hx 4 (by omega)
  have g4 : DataW.trod enc Tryz.prog W 0 (fun _ => true) true n 3 [c4] = some y4 := by
    have := hF 4 _ rfl
    rw [z4] at this
    simpa [Value.cells, ce3] using this
  obtain ⟨y5, z5⟩ := hx 5 (by omega)
  have g5 : DataW.trod enc Tryz.prog W 0 (fun _ => true) true n 3 [c5] = some y5 := by
    have := hF 5 _ rfl
    rw [z5] at this
    simpa [Value.cells, ce3] using this
  obtain ⟨y6, z6⟩ := hx 6 (by omega)
  have g6 : DataW.trod enc Tryz.prog W 0 (fun _ => true) true n 4 [c6] = some y6 := by
    have := hF 6 _ rfl
    rw [z6] at this
    simpa [Value.cells, ce4] using this
  obtain ⟨y7, z7⟩ := hx 7 (by omega)
  have g7 : DataW.trod enc Tryz.prog W 0 (fun _ => true) true n 2 [c7] = some y7 := by
    have := hF 7 _ rfl
    rw [z7] at this
    simpa [Value.cells, ce2] using this
  obtain ⟨y8, z8⟩ := hx 8 (by omega)
  have g8 : DataW.trod enc Tryz.prog W 0 (fun _ => true) true n 23 [c8] = some y8 := by
    have := hF 8 _ rfl
    rw [z8] at this
    simpa [Value.cells, ce23] using this
  obtain ⟨y9, z9⟩ := hx 9 (by omega)
  have g9 : DataW.trod enc Tryz.prog W 0 (fun _ => true) true n 23 [c9] = some y9 := by
    have := hF 9 _ rfl
    rw [z9] at this
    simpa [Value.cells, ce23] using this
  obtain ⟨y10, z10⟩ := hx 10 (by omega)
  have g10 : DataW.trod enc Tryz.prog W 0 (fun _ => true) true n 23 [c10] = some y10 := by
    have := hF 10 _ rfl
    rw [z10] at this
    simpa [Value.cells, ce23] using this
  obtain ⟨y11, z11⟩ := hx 11 (by omega)
  have g11 : DataW.trod enc Tryz.prog W 0 (fun _ => true) true n 23 [c11] = some y11 := by
    have := hF 11 _ rfl
    rw [z11] at this
    simpa [Value.cells, ce23] using this
  obtain ⟨y12, z12⟩ := hx 12 (by omega)
  have g12 : DataW.trod enc Tryz.prog W 0 (fun _ => true) true n 23 [c12] = some y12 := by
    have := hF 12 _ rfl
    rw [z12] at this
    simpa [Value.cells, ce23] using this
  obtain ⟨y13, z13⟩ := hx 13 (by omega)
  have g13 : DataW.trod enc Tryz.prog W 0 (fun _ => true) true n 24 [c13] = some y13 := by
    have := hF 13 _ rfl
    rw [z13] at this
    simpa [Value.cells, ce24] using this
  obtain ⟨y14, z14⟩ := hx 14 (by omega)
  have g14 : DataW.trod enc Tryz.prog W 0 (fun _ => true) true n 23 [c14] = some y14 := by
    have := hF 14 _ rfl
    rw [z14] at this
    simpa [Value.cells, ce23] using this
  obtain ⟨y15, z15⟩ := hx 15 (by omega)
  have g15 : DataW.trod enc Tryz.prog W 0 (fun _ => true) true n 23 [c15] = some y15 := by
    have := hF 15 _ rfl
    rw [z15] at this
    simpa [Value.cells, ce23] using this
  obtain ⟨y16, z16⟩ := hx 16 (by omega)
  have g16 : DataW.trod enc Tryz.prog W 0 (fun _ => true) true n 23 [c16] = some y16 := by
    have := hF 16 _ rfl
    rw [z16] at this
    simpa [Value.cells, ce23] using this
  obtain ⟨y17, z17⟩ := hx 17 (by omega)
  have g17 : DataW.trod enc Tryz.prog W 0 (fun _ => true) true n 23 [c17] = some y17 := by
    have := hF 17 _ rfl
    rw [z17] at this
    simpa [Value.cells, ce23] using this
  obtain ⟨fq, e0, _, w0⟩ := DataW.trod_int Tryz.underlying5 g0
  obtain ⟨hs, e1, _⟩ := DataW.trod_bool Tryz.underlying4 g1
  obtain ⟨st, e2, _, w2⟩ := DataW.trod_int Tryz.underlying2 g2
  obtain ⟨iv, e3, _, w3⟩ := DataW.trod_int Tryz.underlying3 g3
  obtain ⟨wk, e4, _, w4⟩ := DataW.trod_int Tryz.underlying3 g4
  obtain ⟨ct, e5, _, w5⟩ := DataW.trod_int Tryz.underlying3 g5
  obtain ⟨hu, e6, _⟩ := DataW.trod_bool Tryz.underlying4 g6
  obtain ⟨un, e7, _, w7⟩ := DataW.trod_int Tryz.underlying2 g7
  injection e0 with e0; injection e1 with e1; injection e2 with e2; injection e3 with e3; injection e4 with e4; injection e5 with e5; injection e6 with e6; injection e7 with e7
  subst e0; subst e1; subst e2; subst e3; subst e4; subst e5; subst e6; subst e7
  obtain ⟨sp, k8, r8⟩ := ints_field (ok 8 23 c8 rfl rfl) g8
  obtain ⟨mo, k9, r9⟩ := ints_field (ok 9 23 c9 rfl rfl) g9
  obtain ⟨md, k10, r10⟩ := ints_field (ok 10 23 c10 rfl rfl) g10
  obtain ⟨yd, k11, r11⟩ := ints_field (ok 11 23 c11 rfl rfl) g11
  obtain ⟨wn, k12, r12⟩ := ints_field (ok 12 23 c12 rfl rfl) g12
  obtain ⟨dy, k13, r13⟩ := days_field (ok 13 24 c13 rfl rfl) g13
  obtain ⟨ho, k14, r14⟩ := ints_field (ok 14 23 c14 rfl rfl) g14
  obtain ⟨mi, k15, r15⟩ := ints_field (ok 15 23 c15 rfl rfl) g15
  obtain ⟨se, k16, r16⟩ := ints_field (ok 16 23 c16 rfl rfl) g16
  obtain ⟨ea, k17, r17⟩ := ints_field (ok 17 23 c17 rfl rfl) g17
  exact ⟨⟨fq, hs, st, iv, wk, ct, hu, un, sp, mo, md, yd, wn, dy, ho, mi, se, ea⟩, ⟨c8, c9, c10, c11, c12, c13, c14, c15, c16, c17, rfl, k8, k9, k10, k11, k12, k13, k14, k15, k16, k17⟩,
    ⟨wf_8 w0, wf_64 w3, wf_64 w5, r8, r9, r10, r11, r12, fun p hp => (r13 p hp).2, r14, r15, r16, r17⟩⟩
end
end Go.Proofs.YtcfbkkcamiephaaGreatDoor
namespace Go.Proofs.YtcfbkkcamiephaaGreatDoor
open Go.RowKit Go.Lib Go.ChangeShapes

theorem y0 : (Tryz.prog.globals[0]?).map (·.type) = some 96 := by kernel_rfl
theorem y1 : (Tryz.prog.globals[1]?).map (·.type) = some 96 := by kernel_rfl
theorem y3 : (Tryz.prog.globals[3]?).map (·.type) = some 202 := by kernel_rfl
theorem y11 : (Tryz.prog.globals[11]?).map (·.type) = some 89 := by kernel_rfl
theorem y12 : (Tryz.prog.globals[12]?).map (·.type) = some 89 := by kernel_rfl
theorem y13 : (Tryz.prog.globals[13]?).map (·.type) = some 281 := by kernel_rfl
theorem u8_of {w : World} (h3 : VarReads Tryz.prog w "unicode/utf8.first" firstData) (h4 : VarReads Tryz.prog w "unicode/utf8.acceptRanges" acceptData) : Lib.Utf8Tabs 15 16 w :=
  utf8Tabs_of_reads { Tryz.lays163 with } ⟨by kernel_rfl, by kernel_rfl, by kernel_rfl, by kernel_rfl, by kernel_rfl, by kernel_rfl, by kernel_rfl⟩ h3 h4
theorem ws_of {w : World} (h : VarReads Tryz.prog w "unicode.White_Space" whiteData) : Lib.WhiteTab 10 w :=
  whiteTab_of_reads { Tryz.lays163 with } ⟨by kernel_rfl, by kernel_rfl, by kernel_rfl, by kernel_rfl, by kernel_rfl, by kernel_rfl, by kernel_rfl, by kernel_rfl⟩ h
theorem cv_of {w : World} (h : VarReads Tryz.prog w "unicode.CaseRanges" caseData) : Lib.CaseVar 17 Lib.caseA w :=
  caseVar_of_reads { Tryz.lays158 with } Tryz.lays158.t206 ⟨by kernel_rfl, by kernel_rfl, by kernel_rfl, by kernel_rfl, by kernel_rfl, by kernel_rfl⟩ h
theorem tab_of {w : World} {name : String} {k : IntKind} {zs : List Int} {g : Nat} {t e : TypeId} {n : Nat} (hg : Tryz.prog.globalNamed name = some g) (hty : (Tryz.prog.globals[g]?).map (·.type) = some t)
    (ht : Tryz.prog.underlying t = some (.array n e)) (he : Tryz.prog.underlying e = some (.int k)) (hce : Tryz.prog.cellsOf e = 1) (hct : Tryz.prog.cellsOf t = n)
    (h : VarReads Tryz.prog w name (tabData k zs)) : Lib.TabIs Tryz.prog w name k zs := by
  obtain ⟨g', t', cs, fuel, p, hg', ht', hvar, hd⟩ := h
  obtain rfl := Option.some.inj (hg.symm.trans hg')
  obtain rfl := Option.some.inj (hty.symm.trans ht')
  have := cells_of_tab ht he hce hct hd
  unfold Lib.TabIs
  rw [hvar, ← this]
theorem pow_of {w : World} (h : VarReads Tryz.prog w "internal/strconv.uint64pow10" (tabData .u64 Lib.pow10Tab)) : Lib.TabIs Tryz.prog w "internal/strconv.uint64pow10" .u64 Lib.pow10Tab :=
  tab_of (g := 13) (t := 281) (n := 20) (e := 145) (by kernel_rfl) y13 (by kernel_rfl) (by kernel_rfl) (by kernel_rfl) (by kernel_rfl) h
theorem sp_of {w : World} (h : VarReads Tryz.prog w "strings.asciiSpace" (tabData .u8 Lib.asciiSpaceTab)) : Lib.TabIs Tryz.prog w "strings.asciiSpace" .u8 Lib.asciiSpaceTab :=
  tab_of (g := 3) (t := 202) (n := 256) (e := 5) (by kernel_rfl) y3 (by kernel_rfl) (by kernel_rfl) (by kernel_rfl) (by kernel_rfl) h
theorem err_of {w : World} {name nm : String} {d : DataW Unit} {g : Nat} {t : TypeId} {ms : Array (String × TypeId)} (hg : Tryz.prog.globalNamed name = some g) (hty : (Tryz.prog.globals[g]?).map (·.type) = some t) (hi : Tryz.prog.underlying t = some (.interface ms))
    (h : VarReads Tryz.prog w name (.iface nm d)) : ∃ tp p, w.var? Tryz.prog name = some #[.iface tp p] := by
  obtain ⟨g', t', cs, fuel, p, hg', ht', hvar, hd⟩ := h
  obtain rfl := Option.some.inj (hg.symm.trans hg')
  obtain rfl := Option.some.inj (hty.symm.trans ht')
  obtain ⟨f1, u, v, hcs, hn, h1⟩ := iface_of_trod hi hd
  obtain ⟨l⟩ := cs
  simp only at hcs
  subst hcs
  exact ⟨u, v, hvar⟩
theorem day_of {w : World} {name : String} {g : Nat} {a b : Int} (hg : Tryz.prog.globalNamed name = some g) (hty : (Tryz.prog.globals[g]?).map (·.type) = some 103)
    (h : VarReads Tryz.prog w name (.agg [.lit (.int .i64 a), .lit (.int .i64 b)])) : w.cell? ⟨g, 0, none⟩ = some (.int .i64 a) ∧ w.cell? ⟨g, 1, none⟩ = some (.int .i64 b) := by
  obtain ⟨g', t', cs, fuel, p, hg', ht', hvar, hd⟩ := h
  obtain rfl := Option.some.inj (hg.symm.trans hg')
  obtain rfl := Option.some.inj (hty.symm.trans ht')
  have hcs := ints_of_struct (k := .i64) (zs := [a, b]) Tryz.underlying103 (fun i f hf => by
    match i, hf with
    | 0, hf => simp at hf; subst hf; exact ⟨Tryz.underlying3, rfl, by kernel_rfl⟩
    | 1, hf => simp at hf; subst hf; exact ⟨Tryz.underlying3, rfl, by kernel_rfl⟩
    | j + 2, hf => simp at hf) (by kernel_rfl) hd
  constructor
  · rw [World.var?_cell hg hvar 0, ← Array.getElem?_toList, hcs]; rfl
  · rw [World.var?_cell hg hvar 1, ← Array.getElem?_toList, hcs]; rfl
theorem lit_of {w : World} {fuel : Nat} {cs : List Value} {l : List UInt8} {q : List MemPlace} (h : DataW.trod (fun _ => ()) Tryz.prog w 0 (fun _ => true) false fuel 9 cs = some (.lit (.string l), q)) :
    cs = [.string ⟨l.toArray⟩] := by
  cases fuel with
  | zero => simp [DataW.trod] at h
  | succ fuel =>
    simp only [DataW.trod, Tryz.underlying9] at h
    split at h
    all_goals first | (simp at h; done) | skip
    all_goals (rename_i heq; cases heq)
    split at h
    · simp at h
      obtain ⟨h, -⟩ := h
      rw [← h]
    · cases h
theorem strs_of {w : World} {name : String} {g : Nat} {ls : List (List UInt8)} (hg : Tryz.prog.globalNamed name = some g) (hty : (Tryz.prog.globals[g]?).map (·.type) = some 96)
    (h : VarReads Tryz.prog w name (.agg (ls.map fun l => .lit (.string l)))) (hl : ls.length = 7) (i : Nat) (hi : i < 7) : w.cell? ⟨g, i, none⟩ = some (.string ⟨(ls.getD i []).toArray⟩) := by
  obtain ⟨g', t', cs, fuel, p, hg', ht', hvar, hd⟩ := h
  obtain rfl := Option.some.inj (hg.symm.trans hg')
  obtain rfl := Option.some.inj (hty.symm.trans ht')
  obtain ⟨fuel', d, q, hdi, he⟩ := array_elem Tryz.underlying96 hd i hi
  have hc9 : Tryz.prog.cellsOf 9 = 1 := by kernel_rfl
  rw [hc9, Nat.mul_one] at he
  simp only [List.getElem?_map] at hdi
  rw [List.getElem?_eq_getElem (by omega)] at hdi
  simp only [Option.map_some, Option.some.injEq] at hdi
  subst hdi
  have hcs := lit_of he
  rw [World.var?_cell hg hvar i, ← Array.getElem?_toList]
  have e0 := congrArg (·[0]?) hcs
  simp only [List.getElem?_take, List.getElem?_drop] at e0
  simp [hl, hi] at e0 ⊢
  exact e0
/-- What the package-level variables hold, out of what a row lists. -/
theorem good_of {l : List (String × DataW Unit)} {w : World} (hL : laidMet Tryz.prog l w)
    (m1 : ("internal/strconv.uint64pow10", tabData .u64 Lib.pow10Tab) ∈ l) (m2 : ("strings.asciiSpace", tabData .u8 Lib.asciiSpaceTab) ∈ l) (m3 : ("unicode/utf8.first", firstData) ∈ l) (m4 : ("unicode/utf8.acceptRanges", acceptData) ∈ l)
    (m5 : ("unicode.White_Space", whiteData) ∈ l) (m6 : ("unicode.CaseRanges", caseData) ∈ l) {nm nm' : String} {d d' : DataW Unit} (m7 : ("strconv.ErrSyntax", .iface nm d) ∈ l) (m8 : ("strconv.ErrRange", .iface nm' d') ∈ l)
    (d0 : ("pub-ferial/pub/rrule.MO", .agg [.lit (.int .i64 0), .lit (.int .i64 0)]) ∈ l) (d1 : ("pub-ferial/pub/rrule.TU", .agg [.lit (.int .i64 1), .lit (.int .i64 0)]) ∈ l) (d2 : ("pub-ferial/pub/rrule.WE", .agg [.lit (.int .i64 2), .lit (.int .i64 0)]) ∈ l)
    (d3 : ("pub-ferial/pub/rrule.TH", .agg [.lit (.int .i64 3), .lit (.int .i64 0)]) ∈ l) (d4 : ("pub-ferial/pub/rrule.FR", .agg [.lit (.int .i64 4), .lit (.int .i64 0)]) ∈ l) (d5 : ("pub-ferial/pub/rrule.SA", .agg [.lit (.int .i64 5), .lit (.int .i64 0)]) ∈ l)
    (d6 : ("pub-ferial/pub/rrule.SU", .agg [.lit (.int .i64 6), .lit (.int .i64 0)]) ∈ l) : Good w where
  pow := pow_of (laidMet.reads hL m1)
  sp := sp_of (laidMet.reads hL m2)
  u8 := u8_of (laidMet.reads hL m3) (laidMet.reads hL m4)
  ws := ws_of (laidMet.reads hL m5)
  cv := cv_of (laidMet.reads hL m6)
  es := err_of (g := 11) (t := 89) (by kernel_rfl) y11 Tryz.underlying89 (laidMet.reads hL m7)
  er := err_of (g := 12) (t := 89) (by kernel_rfl) y12 Tryz.underlying89 (laidMet.reads hL m8)
  days := fun i hi => by
    match i, hi with
    | 0, _ => exact day_of (g := 2) (by kernel_rfl) (by kernel_rfl) (laidMet.reads hL d0)
    | 1, _ => exact day_of (g := 4) (by kernel_rfl) (by kernel_rfl) (laidMet.reads hL d1)
    | 2, _ => exact day_of (g := 5) (by kernel_rfl) (by kernel_rfl) (laidMet.reads hL d2)
    | 3, _ => exact day_of (g := 6) (by kernel_rfl) (by kernel_rfl) (laidMet.reads hL d3)
    | 4, _ => exact day_of (g := 7) (by kernel_rfl) (by kernel_rfl) (laidMet.reads hL d4)
    | 5, _ => exact day_of (g := 8) (by kernel_rfl) (by kernel_rfl) (laidMet.reads hL d5)
    | 6, _ => exact day_of (g := 9) (by kernel_rfl) (by kernel_rfl) (laidMet.reads hL d6)
theorem freqs_of {l : List (String × DataW Unit)} {w : World} (hL : laidMet Tryz.prog l w)
    (m : ("pub-ferial/spec.textFreqs", .agg [.lit (.string [89, 69, 65, 82, 76, 89]), .lit (.string [77, 79, 78, 84, 72, 76, 89]), .lit (.string [87, 69, 69, 75, 76, 89]), .lit (.string [68, 65, 73, 76, 89]), .lit (.string [72, 79, 85, 82, 76, 89]), .lit (.string [77, 73, 78, 85, 84, 69, 76, 89]), .lit (.string [83, 69, 67, 79, 78, 68, 76, 89])]) ∈ l) : Freqs w := ⟨fun i hi => by
  have := strs_of (g := 1) (ls := [[89, 69, 65, 82, 76, 89], [77, 79, 78, 84, 72, 76, 89], [87, 69, 69, 75, 76, 89], [68, 65, 73, 76, 89], [72, 79, 85, 82, 76, 89], [77, 73, 78, 85, 84, 69, 76, 89], [83, 69, 67, 79, 78, 68, 76, 89]]) (by kernel_rfl) y1 (laidMet.reads hL m) rfl i hi
  match i, hi with
  | 0, _ => exact this
  | 1, _ => exact this
  | 2, _ => exact this
  | 3, _ => exact this
  | 4, _ => exact this
  | 5, _ => exact this
  | 6, _ => exact this⟩
theorem dayNms_of {l : List (String × DataW Unit)} {w : World} (hL : laidMet Tryz.prog l w)
    (m : ("pub-ferial/spec.textDayNames", .agg [.lit (.string [77, 79]), .lit (.string [84, 85]), .lit (.string [87, 69]), .lit (.string [84, 72]), .lit (.string [70, 82]), .lit (.string [83, 65]), .lit (.string [83, 85])]) ∈ l) : DayNms w := ⟨fun i hi => by
  have := strs_of (g := 0) (ls := [[77, 79], [84, 85], [87, 69], [84, 72], [70, 82], [83, 65], [83, 85]]) (by kernel_rfl) y0 (laidMet.reads hL m) rfl i hi
  match i, hi with
  | 0, _ => exact this
  | 1, _ => exact this
  | 2, _ => exact this
  | 3, _ => exact this
  | 4, _ => exact this
  | 5, _ => exact this
  | 6, _ => exact this⟩
end Go.Proofs.YtcfbkkcamiephaaGreatDoor
