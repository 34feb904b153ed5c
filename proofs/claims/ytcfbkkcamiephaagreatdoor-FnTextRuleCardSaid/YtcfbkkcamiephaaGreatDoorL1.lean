import Derived.Test.YtcfbkkcamiephaaGreatDoorRows
import Derived.Test.YtcfbkkcamiephaaGreatDoorShelf
import Derived.Lib.LaidCaseMet
import Derived.Lib.LaidIn
namespace Go.Proofs.YtcfbkkcamiephaaGreatDoor
open Go.Lib Go.Shelf

set_option maxRecDepth 100000 in
/-- unicode.CaseRanges, as a piece of a list. -/
theorem laid_case {w : World} {R : Nat} {t : TypeId} (hR : 17 ≠ R) (hvar : w.heap[17]? = some (.cells #[.slice (some ⟨R, 0, none⟩) caseA.size caseA.size] (Tryz.lays158_ren.t 162) (0, 0)))
    (hblk : w.heap[R]? = some (.cells caseCells5 t (0, 0))) : LaidIn Tryz.prog w [("unicode.CaseRanges", caseData)] [17, R] := by
  have hT := caseTab_of_block hblk
  have X : CaseExtra Tryz.prog Tryz.lays158_ren := ⟨by kernel_rfl, by kernel_rfl, by kernel_rfl, by kernel_rfl, by kernel_rfl, by kernel_rfl⟩
  have hread := case_slice_reads (P := Tryz.prog) (ρ := Tryz.lays158_ren) { Tryz.lays158 with } Tryz.lays158.t206 X hT caseA_wf (by rw [caseA_size]; unfold maxLen; omega) 0
  rw [case_rows_data] at hread
  have hv : w.var? Tryz.prog "unicode.CaseRanges" = some #[.slice (some ⟨R, 0, none⟩) caseA.size caseA.size] := by
    have := X.n13
    change Tryz.prog.globalNamed "unicode.CaseRanges" = some 17 at this
    simp [World.var?, this, hvar]
  have hn := rows_nodup [(⟨17, 0, none⟩, 1), (⟨R, 0, none⟩, caseA.size * 5)] (by simp [hR])
  have hb := rows_block [(⟨17, 0, none⟩, 1), (⟨R, 0, none⟩, caseA.size * 5)]
  simp only [List.flatMap_cons, List.flatMap_nil, List.append_nil, List.map_cons, List.map_nil] at hn hb
  refine LaidIn.one [17, R] (g := 17) X.n13 X.y13 hv hread hn ?_ hb
  intro b off hp
  rcases List.mem_append.1 hp with hp | hp
  · obtain ⟨i, hi, e⟩ := MemPlace.mem_row.1 hp
    cases e
    refine ⟨⟨_, _, hvar⟩, fun u v hc => ?_⟩
    obtain rfl : i = 0 := by simp at hi; omega
    rw [Lib.cell_of_heap hvar] at hc
    simp at hc
  · obtain ⟨i, hi, e⟩ := MemPlace.mem_row.1 hp
    cases e
    refine ⟨⟨_, _, hblk⟩, fun u v hc => ?_⟩
    obtain ⟨c0, c1, c2, c3, c4⟩ := hT (i / 5) (by omega)
    have hi5 : 0 + i = 0 + i / 5 * 5 + i % 5 := by omega
    simp only at hc
    rw [hi5] at hc
    have hm : i % 5 < 5 := Nat.mod_lt _ (by omega)
    match hk : i % 5, hm with
    | 0, _ => rw [hk, Nat.add_zero, c0] at hc; cases hc
    | 1, _ => rw [hk, c1] at hc; cases hc
    | 2, _ => rw [hk, c2] at hc; cases hc
    | 3, _ => rw [hk, c3] at hc; cases hc
    | 4, _ => rw [hk, c4] at hc; cases hc
/-- THE WITNESS's WORLD, for all rows: the settled one, five blocks more (the ranges and the table of unicode.White_Space, the rows of unicode.CaseRanges, strconv's two sentinels), the variables holding what their initialisers lay. -/
noncomputable def laidWorld (os : Os) : World :=
  let N := (World.settled Tryz.prog os).heap.size
  let w0 := World.holding Tryz.prog os ⟨#[.cells (Lib.whiteT.map fun (z : Nat) => Value.int .u16 (z : Int)).toArray (Tryz.lays163_ren.t 198), .cells #[.slice (some ⟨N, 0, none⟩) 7 7, .slice none 0 0, .int .i64 2] (Tryz.lays163_ren.t 196),
    .cells Lib.caseCells5 (Tryz.lays158_ren.t 208), .cells #[.string ⟨#[118, 97, 108, 117, 101, 32, 111, 117, 116, 32, 111, 102, 32, 114, 97, 110, 103, 101]⟩] 196, .cells #[.string ⟨#[105, 110, 118, 97, 108, 105, 100, 32, 115, 121, 110, 116, 97, 120]⟩] 196], #[], []⟩
  let put (h : Array Obj) (g : Nat) (cs : Array Value) : Array Obj := h.modify g fun
    | .cells _ t frozen => .cells cs t frozen
    | o => o
  let h := put w0.heap 0 #[.string ⟨#[77, 79]⟩, .string ⟨#[84, 85]⟩, .string ⟨#[87, 69]⟩, .string ⟨#[84, 72]⟩, .string ⟨#[70, 82]⟩, .string ⟨#[83, 65]⟩, .string ⟨#[83, 85]⟩]
  let h := put h 1 #[.string ⟨#[89, 69, 65, 82, 76, 89]⟩, .string ⟨#[77, 79, 78, 84, 72, 76, 89]⟩, .string ⟨#[87, 69, 69, 75, 76, 89]⟩, .string ⟨#[68, 65, 73, 76, 89]⟩, .string ⟨#[72, 79, 85, 82, 76, 89]⟩, .string ⟨#[77, 73, 78, 85, 84, 69, 76, 89]⟩, .string ⟨#[83, 69, 67, 79, 78, 68, 76, 89]⟩]
  let h := put h 2 #[.int .i64 0, .int .i64 0]
  let h := put h 4 #[.int .i64 1, .int .i64 0]
  let h := put h 5 #[.int .i64 2, .int .i64 0]
  let h := put h 6 #[.int .i64 3, .int .i64 0]
  let h := put h 7 #[.int .i64 4, .int .i64 0]
  let h := put h 8 #[.int .i64 5, .int .i64 0]
  let h := put h 9 #[.int .i64 6, .int .i64 0]
  let h := put h 3 (Lib.asciiSpaceTab.map fun z => Value.int .u8 z).toArray
  let h := put h 15 (Lib.firstTab.map fun z => Value.int .u8 z).toArray
  let h := put h 16 ((List.range 16).flatMap fun i => [Value.int .u8 (Lib.accLo i), Value.int .u8 (Lib.accHi i)]).toArray
  let h := put h 10 #[.pointer (some ⟨N + 1, 0, none⟩)]
  let h := put h 17 #[.slice (some ⟨N + 2, 0, none⟩) 336 336]
  let h := put h 12 #[.iface 194 (.pointer (some ⟨N + 3, 0, none⟩))]
  let h := put h 11 #[.iface 194 (.pointer (some ⟨N + 4, 0, none⟩))]
  let h := put h 13 (Lib.pow10Tab.map fun z => Value.int .u64 z).toArray
  let h := put h 18 ([0, 1, 28, 2, 29, 14, 24, 3, 30, 22, 20, 15, 25, 17, 4, 8, 31, 27, 13, 23, 21, 19, 16, 7, 26, 12, 18, 6, 11, 5, 10, 9].map fun z => Value.int .u8 z).toArray
  let h := put h 19 ([0, 1, 56, 2, 57, 49, 28, 3, 61, 58, 42, 50, 38, 29, 17, 4, 62, 47, 59, 36, 45, 43, 51, 22, 53, 39, 33, 30, 24, 18, 12, 5, 63, 55, 48, 27, 60, 41, 37, 16, 46, 35, 44, 21, 52, 32, 23, 11, 54, 26, 40, 15, 34, 20, 31, 10, 25, 14, 19, 9, 13, 8, 7, 6].map fun z => Value.int .u8 z).toArray
  { w0 with heap := h }
noncomputable def memW (os : Os) (args : Array Value) : World := ((laidWorld os).forCall (fun _ _ => 0) ⟨#[], args, []⟩).memory
theorem piece1 (os : Os) (args : Array Value) : LaidIn Tryz.prog (memW os args) [("math/bits.deBruijn32tab", Rows.laid_math_bits_deBruijn32tab), ("math/bits.deBruijn64tab", Rows.laid_math_bits_deBruijn64tab), ("internal/strconv.uint64pow10", Rows.laid_internal_strconv_uint64pow10), ("unicode/utf8.acceptRanges", Rows.laid_unicode_utf8_acceptRanges)] [18, 19, 13, 16] :=
  LaidIn.of_run _ 10 (by kernel_rfl) (by kernel_rfl) (by kernel_rfl) (by kernel_rfl)
theorem piece2 (os : Os) (args : Array Value) : LaidIn Tryz.prog (memW os args) [("pub-ferial/spec.textFreqs", Rows.laid_pub_ferial_spec_textFreqs)] [1] :=
  LaidIn.of_run _ 10 (by kernel_rfl) (by kernel_rfl) (by kernel_rfl) (by kernel_rfl)
noncomputable def SZ : Nat := (World.settled Tryz.prog default).heap.size
theorem pieceD (os : Os) (args : Array Value) : LaidIn Tryz.prog (memW os args) [("pub-ferial/spec.textDayNames", Rows.laid_pub_ferial_spec_textDayNames)] [0] :=
  LaidIn.of_run _ 10 (by kernel_rfl) (by kernel_rfl) (by kernel_rfl) (by kernel_rfl)
theorem piece3 (os : Os) (args : Array Value) : LaidIn Tryz.prog (memW os args) [("strconv.ErrRange", Rows.laid_strconv_ErrRange), ("strconv.ErrSyntax", Rows.laid_strconv_ErrSyntax), ("unicode.White_Space", Rows.laid_unicode_White_Space), ("strings.asciiSpace", Rows.laid_strings_asciiSpace)] [12, SZ + 3, 11, SZ + 4, 10, SZ, SZ + 1, 3] :=
  LaidIn.of_run _ 10 (by kernel_rfl) (by kernel_rfl) (by kernel_rfl) (by kernel_rfl)
theorem piece4 (os : Os) (args : Array Value) : LaidIn Tryz.prog (memW os args) [("pub-ferial/pub/rrule.MO", Rows.laid_pub_ferial_pub_rrule_MO), ("pub-ferial/pub/rrule.TU", Rows.laid_pub_ferial_pub_rrule_TU), ("pub-ferial/pub/rrule.WE", Rows.laid_pub_ferial_pub_rrule_WE), ("pub-ferial/pub/rrule.TH", Rows.laid_pub_ferial_pub_rrule_TH), ("pub-ferial/pub/rrule.FR", Rows.laid_pub_ferial_pub_rrule_FR), ("pub-ferial/pub/rrule.SA", Rows.laid_pub_ferial_pub_rrule_SA), ("pub-ferial/pub/rrule.SU", Rows.laid_pub_ferial_pub_rrule_SU)] [2, 4, 5, 6, 7, 8, 9] :=
  LaidIn.of_run _ 10 (by kernel_rfl) (by kernel_rfl) (by kernel_rfl) (by kernel_rfl)
theorem piece5 (os : Os) (args : Array Value) : LaidIn Tryz.prog (memW os args) [("unicode.CaseRanges", Rows.laid_unicode_CaseRanges)] [17, SZ + 2] :=
  (show Rows.laid_unicode_CaseRanges = caseData by kernel_rfl) ▸ laid_case (R := SZ + 2) (t := Tryz.lays158_ren.t 208) (of_decide_eq_true (by kernel_rfl)) (by kernel_rfl) (by kernel_rfl)
theorem piece6 (os : Os) (args : Array Value) : LaidIn Tryz.prog (memW os args) [("unicode/utf8.first", Rows.laid_unicode_utf8_first)] [15] :=
  LaidIn.of_run _ 10 (by kernel_rfl) (by kernel_rfl) (by kernel_rfl) (by kernel_rfl)
end Go.Proofs.YtcfbkkcamiephaaGreatDoor
