import Derived.Test.YtcfbkkcamiephaaGreatDoorB1
import Derived.Test.YtcfbkkcamiephaaGreatDoorShelf
import Derived.WalkSmall
namespace Go.Proofs.YtcfbkkcamiephaaGreatDoor
open Go.RowKit

/-! ### What the package-level variables hold -/
def dayVar : Nat → Nat
  | 0 => 2
  | 1 => 4
  | 2 => 5
  | 3 => 6
  | 4 => 7
  | 5 => 8
  | _ => 9
def dayNm : Nat → ByteArray
  | 0 => ⟨#[77, 79]⟩
  | 1 => ⟨#[84, 85]⟩
  | 2 => ⟨#[87, 69]⟩
  | 3 => ⟨#[84, 72]⟩
  | 4 => ⟨#[70, 82]⟩
  | 5 => ⟨#[83, 65]⟩
  | _ => ⟨#[83, 85]⟩
def freqNm : Nat → ByteArray
  | 0 => ⟨#[89, 69, 65, 82, 76, 89]⟩
  | 1 => ⟨#[77, 79, 78, 84, 72, 76, 89]⟩
  | 2 => ⟨#[87, 69, 69, 75, 76, 89]⟩
  | 3 => ⟨#[68, 65, 73, 76, 89]⟩
  | 4 => ⟨#[72, 79, 85, 82, 76, 89]⟩
  | 5 => ⟨#[77, 73, 78, 85, 84, 69, 76, 89]⟩
  | _ => ⟨#[83, 69, 67, 79, 78, 68, 76, 89]⟩
structure Good (w : World) : Prop where
  pow : Lib.TabIs Tryz.prog w "internal/strconv.uint64pow10" .u64 Lib.pow10Tab
  sp : Lib.TabIs Tryz.prog w "strings.asciiSpace" .u8 Lib.asciiSpaceTab
  u8 : Lib.Utf8Tabs 15 16 w
  ws : Lib.WhiteTab 10 w
  cv : Lib.CaseVar 17 Lib.caseA w
  es : ∃ tp p, w.var? Tryz.prog "strconv.ErrSyntax" = some #[.iface tp p]
  er : ∃ tp p, w.var? Tryz.prog "strconv.ErrRange" = some #[.iface tp p]
  days : ∀ i : Nat, i < 7 → w.cell? ⟨dayVar i, 0, none⟩ = some (.int .i64 i) ∧ w.cell? ⟨dayVar i, 1, none⟩ = some (.int .i64 0)
theorem Good.below {w w' : World} (h : Good w) (hb : Below w.heap.size w w') : Good w' := by
  have h17 : 17 < w.heap.size := by
    obtain ⟨R, oR, cap, hc, _⟩ := h.cv
    exact World.block_lt_of_cell? w _ hc
  refine ⟨?_, ?_, ⟨fun c hc => cell_below hb (h.u8.1 c hc), fun i hi => ⟨cell_below hb (h.u8.2 i hi).1, cell_below hb (h.u8.2 i hi).2⟩⟩, ?_, ?_, ?_, ?_,
    fun i hi => ⟨cell_below hb (h.days i hi).1, cell_below hb (h.days i hi).2⟩⟩
  · exact var?_below hb (g := 13) (by kernel_rfl) (by omega) h.pow
  · exact var?_below hb (g := 3) (by kernel_rfl) (by omega) h.sp
  · obtain ⟨T, oT, R, oR, a, b, c, d, e⟩ := h.ws
    exact ⟨T, oT, R, oR, cell_below hb a, cell_below hb b, cell_below hb c, cell_below hb d, fun i hi => cell_below hb (e i hi)⟩
  · obtain ⟨R, oR, cap, hc, ht⟩ := h.cv
    exact ⟨R, oR, cap, cell_below hb hc, fun i hi => by
      obtain ⟨a, b, c, d, e⟩ := ht i hi
      exact ⟨cell_below hb a, cell_below hb b, cell_below hb c, cell_below hb d, cell_below hb e⟩⟩
  · obtain ⟨tp, p, he⟩ := h.es
    exact ⟨tp, p, var?_below hb (g := 11) (by kernel_rfl) (by omega) he⟩
  · obtain ⟨tp, p, he⟩ := h.er
    exact ⟨tp, p, var?_below hb (g := 12) (by kernel_rfl) (by omega) he⟩
/-- The reference's names of the frequencies (laid in the rows that reach it alone). -/
structure Freqs (w : World) : Prop where
  fr : ∀ i : Nat, i < 7 → w.cell? ⟨1, i, none⟩ = some (.string (freqNm i))
theorem Freqs.below {w w' : World} (h : Freqs w) (hb : Below w.heap.size w w') : Freqs w' := ⟨fun i hi => cell_below hb (h.fr i hi)⟩
/-- The reference's names of the weekdays (likewise). -/
structure DayNms (w : World) : Prop where
  dn : ∀ i : Nat, i < 7 → w.cell? ⟨0, i, none⟩ = some (.string (dayNm i))
theorem DayNms.below {w w' : World} (h : DayNms w) (hb : Below w.heap.size w w') : DayNms w' := ⟨fun i hi => cell_below hb (h.dn i hi)⟩
theorem Good.alloc {w : World} (h : Good w) (o : Obj) : Good (w.alloc o) := h.below ((Below.refl _ _).alloc (Nat.le_refl _) o)
theorem Good.drew {w : World} (h : Good w) : Good w.drew := h.below (Below.refl _ _).drew
