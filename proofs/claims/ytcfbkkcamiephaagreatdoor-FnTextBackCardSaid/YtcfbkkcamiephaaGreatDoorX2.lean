import Derived.Test.YtcfbkkcamiephaaGreatDoorG1
import Derived.Lib.LaidCase
import Derived.Lib.LaidTab
import Derived.Stop.LaidErr
namespace Go.Proofs.YtcfbkkcamiephaaGreatDoor
open Go.RowKit Go.Lib Go.ChangeShapes

theorem y0 : (Tryz.prog.globals[0]?).map (·.type) = some 96 := by kernel_rfl
theorem y1 : (Tryz.prog.globals[1]?).map (·.type) = some 96 := by kernel_rfl
theorem y3 : (Tryz.prog.globals[3]?).map (·.type) = some 202 := by kernel_rfl
theorem y11 : (Tryz.prog.globals[11]?).map (·.type) = some 89 := by kernel_rfl
theorem y12 : (Tryz.prog.globals[12]?).map (·.type) = some 89 := by kernel_rfl
theorem y13 : (Tryz.prog.globals[13]?).map (·.type) = some 281 := by kernel_rfl
theorem u8_of {w : World} (h3 : VarReads Tryz.prog w "unicode/utf8.first" firstData) (h4 : VarReads Tryz.prog w "unicode/utf8.acceptRanges" acceptData) : Lib.Utf8Tabs 15 16 w :=
  utf8Tabs_of_reads { Tryz.lays163 with } ⟨by kernel_rfl, by kernel_rfl, by kernel_rfl, by kernel_rfl, by kernel_rfl, by kernel_rfl, by kernel_rfl⟩ h3 h4
theorem ws_of {w : World} (h : VarReads Tryz.prog w "unicode.White_Space" whiteData) : Lib.WhiteTab 10 w :=
  whiteTab_of_reads { Tryz.lays163 with } ⟨by kernel_rfl, by kernel_rfl, by kernel_rfl, by kernel_rfl, by kernel_rfl, by kernel_rfl, by kernel_rfl, by kernel_rfl⟩ h
theorem cv_of {w : World} (h : VarReads Tryz.prog w "unicode.CaseRanges" caseData) : Lib.CaseVar 17 Lib.caseA w :=
  caseVar_of_reads { Tryz.lays158 with } Tryz.lays158.t206 ⟨by kernel_rfl, by kernel_rfl, by kernel_rfl, by kernel_rfl, by kernel_rfl, by kernel_rfl⟩ h
theorem tab_of {w : World} {name : String} {k : IntKind} {zs : List Int} {g : Nat} {t e : TypeId} {n : Nat} (hg : Tryz.prog.globalNamed name = some g) (hty : (Tryz.prog.globals[g]?).map (·.type) = some t)
    (ht : Tryz.prog.underlying t = some (.array n e)) (he : Tryz.prog.underlying e = some (.int k)) (hce : Tryz.prog.cellsOf e = 1) (hct : Tryz.prog.cellsOf t = n)
    (h : VarReads Tryz.prog w name (tabData k zs)) : Lib.TabIs Tryz.prog w name k zs := by
  obtain ⟨g', t', cs, fuel, p, hg', ht', hvar, hd⟩ := h
  obtain rfl := Option.some.inj (hg.symm.trans hg')
  obtain rfl := Option.some.inj (hty.symm.trans ht')
  have := cells_of_tab ht he hce hct hd
  unfold Lib.TabIs
  rw [hvar, ← this]
theorem pow_of {w : World} (h : VarReads Tryz.prog w "internal/strconv.uint64pow10" (tabData .u64 Lib.pow10Tab)) : Lib.TabIs Tryz.prog w "internal/strconv.uint64pow10" .u64 Lib.pow10Tab :=
  tab_of (g := 13) (t := 281) (n := 20) (e := 145) (by kernel_rfl) y13 (by kernel_rfl) (by kernel_rfl) (by kernel_rfl) (by kernel_rfl) h
theorem sp_of {w : World} (h : VarReads Tryz.prog w "strings.asciiSpace" (tabData .u8 Lib.asciiSpaceTab)) : Lib.TabIs Tryz.prog w "strings.asciiSpace" .u8 Lib.asciiSpaceTab :=
  tab_of (g := 3) (t := 202) (n := 256) (e := 5) (by kernel_rfl) y3 (by kernel_rfl) (by kernel_rfl) (by kernel_rfl) (by kernel_rfl) h
theorem err_of {w : World} {name nm : String} {d : DataW Unit} {g : Nat} {t : TypeId} {ms : Array (String × TypeId)} (hg : Tryz.prog.globalNamed name = some g) (hty : (Tryz.prog.globals[g]?).map (·.type) = some t) (hi : Tryz.prog.underlying t = some (.interface ms))
    (h : VarReads Tryz.prog w name (.iface nm d)) : ∃ tp p, w.var? Tryz.prog name = some #[.iface tp p] := by
  obtain ⟨g', t', cs, fuel, p, hg', ht', hvar, hd⟩ := h
  obtain rfl := Option.some.inj (hg.symm.trans hg')
  obtain rfl := Option.some.inj (hty.symm.trans ht')
  obtain ⟨f1, u, v, hcs, hn, h1⟩ := iface_of_trod hi hd
  obtain ⟨l⟩ := cs
  simp only at hcs
  subst hcs
  exact ⟨u, v, hvar⟩
theorem day_of {w : World} {name : String} {g : Nat} {a b : Int} (hg : Tryz.prog.globalNamed name = some g) (hty : (Tryz.prog.globals[g]?).map (·.type) = some 103)
    (h : VarReads Tryz.prog w name (.agg [.lit (.int .i64 a), .lit (.int .i64 b)])) : w.cell? ⟨g, 0, none⟩ = some (.int .i64 a) ∧ w.cell? ⟨g, 1, none⟩ = some (.int .i64 b) := by
  obtain ⟨g', t', cs, fuel, p, hg', ht', hvar, hd⟩ := h
  obtain rfl := Option.some.inj (hg.symm.trans hg')
  obtain rfl := Option.some.inj (hty.symm.trans ht')
  have hcs := ints_of_struct (k := .i64) (zs := [a, b]) Tryz.underlying103 (fun i f hf => by
    match i, hf with
    | 0, hf => simp at hf; subst hf; exact ⟨Tryz.underlying3, rfl, by kernel_rfl⟩
    | 1, hf => simp at hf; subst hf; exact ⟨Tryz.underlying3, rfl, by kernel_rfl⟩
    | j + 2, hf => simp at hf) (by kernel_rfl) hd
  constructor
  · rw [World.var?_cell hg hvar 0, ← Array.getElem?_toList, hcs]; rfl
  · rw [World.var?_cell hg hvar 1, ← Array.getElem?_toList, hcs]; rfl
theorem lit_of {w : World} {fuel : Nat} {cs : List Value} {l : List UInt8} {q : List MemPlace} (h : DataW.trod (fun _ => ()) Tryz.prog w 0 (fun _ => true) false fuel 9 cs = some (.lit (.string l), q)) :
    cs = [.string ⟨l.toArray⟩] := by
  cases fuel with
  | zero => simp [DataW.trod] at h
  | succ fuel =>
    simp only [DataW.trod, Tryz.underlying9] at h
    split at h
    all_goals first | (simp at h; done) | skip
    all_goals (rename_i heq; cases heq)
    split at h
    · simp at h
      obtain ⟨h, -⟩ := h
      rw [← h]
    · cases h
theorem strs_of {w : World} {name : String} {g : Nat} {ls : List (List UInt8)} (hg : Tryz.prog.globalNamed name = some g) (hty : (Tryz.prog.globals[g]?).map (·.type) = some 96)
    (h : VarReads Tryz.prog w name (.agg (ls.map fun l => .lit (.string l)))) (hl : ls.length = 7) (i : Nat) (hi : i < 7) : w.cell? ⟨g, i, none⟩ = some (.string ⟨(ls.getD i []).toArray⟩) := by
  obtain ⟨g', t', cs, fuel, p, hg', ht', hvar, hd⟩ := h
  obtain rfl := Option.some.inj (hg.symm.trans hg')
  obtain rfl := Option.some.inj (hty.symm.trans ht')
  obtain ⟨fuel', d, q, hdi, he⟩ := array_elem Tryz.underlying96 hd i hi
  have hc9 : Tryz.prog.cellsOf 9 = 1 := by kernel_rfl
  rw [hc9, Nat.mul_one] at he
  simp only [List.getElem?_map] at hdi
  rw [List.getElem?_eq_getElem (by omega)] at hdi
  simp only [Option.map_some, Option.some.injEq] at hdi
  subst hdi
  have hcs := lit_of he
  rw [World.var?_cell hg hvar i, ← Array.getElem?_toList]
  have e0 := congrArg (·[0]?) hcs
  simp only [List.getElem?_take, List.getElem?_drop] at e0
  simp [hl, hi] at e0 ⊢
  exact e0
/-- What the package-level variables hold, out of what a row lists. -/
theorem good_of {l : List (String × DataW Unit)} {w : World} (hL : laidMet Tryz.prog l w)
    (m1 : ("internal/strconv.uint64pow10", tabData .u64 Lib.pow10Tab) ∈ l) (m2 : ("strings.asciiSpace", tabData .u8 Lib.asciiSpaceTab) ∈ l) (m3 : ("unicode/utf8.first", firstData) ∈ l) (m4 : ("unicode/utf8.acceptRanges", acceptData) ∈ l)
    (m5 : ("unicode.White_Space", whiteData) ∈ l) (m6 : ("unicode.CaseRanges", caseData) ∈ l) {nm nm' : String} {d d' : DataW Unit} (m7 : ("strconv.ErrSyntax", .iface nm d) ∈ l) (m8 : ("strconv.ErrRange", .iface nm' d') ∈ l)
    (d0 : ("pub-ferial/pub/rrule.MO", .agg [.lit (.int .i64 0), .lit (.int .i64 0)]) ∈ l) (d1 : ("pub-ferial/pub/rrule.TU", .agg [.lit (.int .i64 1), .lit (.int .i64 0)]) ∈ l) (d2 : ("pub-ferial/pub/rrule.WE", .agg [.lit (.int .i64 2), .lit (.int .i64 0)]) ∈ l)
    (d3 : ("pub-ferial/pub/rrule.TH", .agg [.lit (.int .i64 3), .lit (.int .i64 0)]) ∈ l) (d4 : ("pub-ferial/pub/rrule.FR", .agg [.lit (.int .i64 4), .lit (.int .i64 0)]) ∈ l) (d5 : ("pub-ferial/pub/rrule.SA", .agg [.lit (.int .i64 5), .lit (.int .i64 0)]) ∈ l)
    (d6 : ("pub-ferial/pub/rrule.SU", .agg [.lit (.int .i64 6), .lit (.int .i64 0)]) ∈ l) : Good w where
  pow := pow_of (laidMet.reads hL m1)
  sp := sp_of (laidMet.reads hL m2)
  u8 := u8_of (laidMet.reads hL m3) (laidMet.reads hL m4)
  ws := ws_of (laidMet.reads hL m5)
  cv := cv_of (laidMet.reads hL m6)
  es := err_of (g := 11) (t := 89) (by kernel_rfl) y11 Tryz.underlying89 (laidMet.reads hL m7)
  er := err_of (g := 12) (t := 89) (by kernel_rfl) y12 Tryz.underlying89 (laidMet.reads hL m8)
  days := fun i hi => by
    match i, hi with
    | 0, _ => exact day_of (g := 2) (by kernel_rfl) (by kernel_rfl) (laidMet.reads hL d0)
    | 1, _ => exact day_of (g := 4) (by kernel_rfl) (by kernel_rfl) (laidMet.reads hL d1)
    | 2, _ => exact day_of (g := 5) (by kernel_rfl) (by kernel_rfl) (laidMet.reads hL d2)
    | 3, _ => exact day_of (g := 6) (by kernel_rfl) (by kernel_rfl) (laidMet.reads hL d3)
    | 4, _ => exact day_of (g := 7) (by kernel_rfl) (by kernel_rfl) (laidMet.reads hL d4)
    | 5, _ => exact day_of (g := 8) (by kernel_rfl) (by kernel_rfl) (laidMet.reads hL d5)
    | 6, _ => exact day_of (g := 9) (by kernel_rfl) (by kernel_rfl) (laidMet.reads hL d6)
theorem freqs_of {l : List (String × DataW Unit)} {w : World} (hL : laidMet Tryz.prog l w)
    (m : ("pub-ferial/spec.textFreqs", .agg [.lit (.string [89, 69, 65, 82, 76, 89]), .lit (.string [77, 79, 78, 84, 72, 76, 89]), .lit (.string [87, 69, 69, 75, 76, 89]), .lit (.string [68, 65, 73, 76, 89]), .lit (.string [72, 79, 85, 82, 76, 89]), .lit (.string [77, 73, 78, 85, 84, 69, 76, 89]), .lit (.string [83, 69, 67, 79, 78, 68, 76, 89])]) ∈ l) : Freqs w := ⟨fun i hi => by
  have := strs_of (g := 1) (ls := [[89, 69, 65, 82, 76, 89], [77, 79, 78, 84, 72, 76, 89], [87, 69, 69, 75, 76, 89], [68, 65, 73, 76, 89], [72, 79, 85, 82, 76, 89], [77, 73, 78, 85, 84, 69, 76, 89], [83, 69, 67, 79, 78, 68, 76, 89]]) (by kernel_rfl) y1 (laidMet.reads hL m) rfl i hi
  match i, hi with
  | 0, _ => exact this
  | 1, _ => exact this
  | 2, _ => exact this
  | 3, _ => exact this
  | 4, _ => exact this
  | 5, _ => exact this
  | 6, _ => exact this⟩
theorem dayNms_of {l : List (String × DataW Unit)} {w : World} (hL : laidMet Tryz.prog l w)
    (m : ("pub-ferial/spec.textDayNames", .agg [.lit (.string [77, 79]), .lit (.string [84, 85]), .lit (.string [87, 69]), .lit (.string [84, 72]), .lit (.string [70, 82]), .lit (.string [83, 65]), .lit (.string [83, 85])]) ∈ l) : DayNms w := ⟨fun i hi => by
  have := strs_of (g := 0) (ls := [[77, 79], [84, 85], [87, 69], [84, 72], [70, 82], [83, 65], [83, 85]]) (by kernel_rfl) y0 (laidMet.reads hL m) rfl i hi
  match i, hi with
  | 0, _ => exact this
  | 1, _ => exact this
  | 2, _ => exact this
  | 3, _ => exact this
  | 4, _ => exact this
  | 5, _ => exact this
  | 6, _ => exact this⟩
end Go.Proofs.YtcfbkkcamiephaaGreatDoor
