import Derived.Test.YtcfbkkcamiephaaGreatDoorP1
import Derived.Test.YtcfbkkcamiephaaGreatDoorF10
namespace Go.Proofs.YtcfbkkcamiephaaGreatDoor
open Go.RowKit

/-! ### all blocks but one are kept -/
structure But (N : Nat) (a w : World) : Prop where
  os : w.os = a.os
  tape : w.tape = a.tape
  output : w.output = a.output
  size : a.heap.size ≤ w.heap.size
  block : ∀ i, i < a.heap.size → i ≠ N → w.heap[i]? = a.heap[i]?
theorem But.refl (N : Nat) (w : World) : But N w w := ⟨rfl, rfl, rfl, Nat.le_refl _, fun _ _ _ => rfl⟩
theorem But.trans {N : Nat} {a b c : World} (h : But N a b) (k : But N b c) : But N a c :=
  ⟨k.os.trans h.os, k.tape.trans h.tape, k.output.trans h.output, Nat.le_trans h.size k.size, fun i hi hn => (k.block i (Nat.lt_of_lt_of_le hi h.size) hn).trans (h.block i hi hn)⟩
theorem But.of {N : Nat} {a w : World} (h : Below a.heap.size a w) : But N a w := ⟨h.os, h.tape, h.output, h.size, fun i hi _ => h.block i hi⟩
theorem But.set {N : Nat} {a w : World} (h : But N a w) (i : Nat) (x : Value) : But N a (w.setCell ⟨N, i, none⟩ x) :=
  ⟨h.os, h.tape, h.output, by simpa [World.setCell] using h.size, fun j hj hn => (Below.heap_setCell w _ x j hn).trans (h.block j hj hn)⟩
theorem But.below {B N : Nat} {w0 a w : World} (h : But N a w) (k : Below B w0 a) (hB : B ≤ N) (hs : B ≤ a.heap.size) : Below B w0 w :=
  k.trans ⟨h.os, h.tape, h.output, h.size, fun i hi => h.block i (Nat.lt_of_lt_of_le hi hs) (by omega)⟩
theorem But.cell {N : Nat} {a w : World} (h : But N a w) {b i : Nat} {v : Value} (hb : b ≠ N) (hc : a.cell? ⟨b, i, none⟩ = some v) : w.cell? ⟨b, i, none⟩ = some v := by
  have hl : b < a.heap.size := by
    apply Classical.byContradiction
    intro hn
    have : a.heap[b]? = none := Array.getElem?_eq_none (by omega)
    simp [World.cell?, this] at hc
  rw [World.cell?_of_block (w := a) (h.block b hl hb)]; exact hc

/-! ### a rule that lies in memory -/
structure RuleAtM (w : World) (N : Nat) (r : RuleD) (v8 v9 v10 v11 v12 v13 v14 v15 v16 v17 : Value) : Prop where
  row : RowAt w N 26 (ruleCells r v8 v9 v10 v11 v12 v13 v14 v15 v16 v17)
  l8 : IntsN w N v8 r.sp
  l9 : IntsN w N v9 r.mo
  l10 : IntsN w N v10 r.md
  l11 : IntsN w N v11 r.yd
  l12 : IntsN w N v12 r.wn
  l13 : DaysN w N v13 r.dy
  l14 : IntsN w N v14 r.ho
  l15 : IntsN w N v15 r.mi
  l16 : IntsN w N v16 r.se
  l17 : IntsN w N v17 r.ea
def RuleMem (w : World) (N : Nat) (r : RuleD) : Prop := ∃ v8 v9 v10 v11 v12 v13 v14 v15 v16 v17, RuleAtM w N r v8 v9 v10 v11 v12 v13 v14 v15 v16 v17
theorem RuleMem.lt {w : World} {N : Nat} {r : RuleD} (h : RuleMem w N r) : N < w.heap.size := by
  obtain ⟨v8, v9, v10, v11, v12, v13, v14, v15, v16, v17, h⟩ := h
  exact h.row.lt
theorem RuleMem.below {w w1 : World} {N : Nat} {r : RuleD} (h : RuleMem w N r) (hb : Below w.heap.size w w1) : RuleMem w1 N r := by
  obtain ⟨v8, v9, v10, v11, v12, v13, v14, v15, v16, v17, h⟩ := h
  exact ⟨v8, v9, v10, v11, v12, v13, v14, v15, v16, v17, h.row.below hb, h.l8.below hb, h.l9.below hb, h.l10.below hb, h.l11.below hb, h.l12.below hb, h.l13.below hb, h.l14.below hb, h.l15.below hb, h.l16.below hb, h.l17.below hb⟩
theorem RuleMem.set_fq {w : World} {N : Nat} {r : RuleD} (h : RuleMem w N r) (x : Int) : RuleMem (w.setCell ⟨N, 0, none⟩ (.int .u8 x)) N { r with fq := x } := by
  obtain ⟨v8, v9, v10, v11, v12, v13, v14, v15, v16, v17, h⟩ := h
  exact ⟨v8, v9, v10, v11, v12, v13, v14, v15, v16, v17, (h.row.set 0 (.int .u8 x)), (h.l8.set 0 (.int .u8 x)), (h.l9.set 0 (.int .u8 x)), (h.l10.set 0 (.int .u8 x)), (h.l11.set 0 (.int .u8 x)), (h.l12.set 0 (.int .u8 x)), (h.l13.set 0 (.int .u8 x)), (h.l14.set 0 (.int .u8 x)), (h.l15.set 0 (.int .u8 x)), (h.l16.set 0 (.int .u8 x)), (h.l17.set 0 (.int .u8 x))⟩
theorem RuleMem.set_st {w : World} {N : Nat} {r : RuleD} (h : RuleMem w N r) (x : Int) (b : Bool) : RuleMem ((w.setCell ⟨N, 2, none⟩ (.int .i64 x)).setCell ⟨N, 1, none⟩ (.bool b)) N { r with hs := b, st := x } := by
  obtain ⟨v8, v9, v10, v11, v12, v13, v14, v15, v16, v17, h⟩ := h
  exact ⟨v8, v9, v10, v11, v12, v13, v14, v15, v16, v17, ((h.row.set 2 (.int .i64 x)).set 1 (.bool b)), ((h.l8.set 2 (.int .i64 x)).set 1 (.bool b)), ((h.l9.set 2 (.int .i64 x)).set 1 (.bool b)), ((h.l10.set 2 (.int .i64 x)).set 1 (.bool b)), ((h.l11.set 2 (.int .i64 x)).set 1 (.bool b)), ((h.l12.set 2 (.int .i64 x)).set 1 (.bool b)), ((h.l13.set 2 (.int .i64 x)).set 1 (.bool b)), ((h.l14.set 2 (.int .i64 x)).set 1 (.bool b)), ((h.l15.set 2 (.int .i64 x)).set 1 (.bool b)), ((h.l16.set 2 (.int .i64 x)).set 1 (.bool b)), ((h.l17.set 2 (.int .i64 x)).set 1 (.bool b))⟩
theorem RuleMem.set_iv {w : World} {N : Nat} {r : RuleD} (h : RuleMem w N r) (x : Int) : RuleMem (w.setCell ⟨N, 3, none⟩ (.int .i64 x)) N { r with iv := x } := by
  obtain ⟨v8, v9, v10, v11, v12, v13, v14, v15, v16, v17, h⟩ := h
  exact ⟨v8, v9, v10, v11, v12, v13, v14, v15, v16, v17, (h.row.set 3 (.int .i64 x)), (h.l8.set 3 (.int .i64 x)), (h.l9.set 3 (.int .i64 x)), (h.l10.set 3 (.int .i64 x)), (h.l11.set 3 (.int .i64 x)), (h.l12.set 3 (.int .i64 x)), (h.l13.set 3 (.int .i64 x)), (h.l14.set 3 (.int .i64 x)), (h.l15.set 3 (.int .i64 x)), (h.l16.set 3 (.int .i64 x)), (h.l17.set 3 (.int .i64 x))⟩
theorem RuleMem.set_wk {w : World} {N : Nat} {r : RuleD} (h : RuleMem w N r) (x : Int) : RuleMem (w.setCell ⟨N, 4, none⟩ (.int .i64 x)) N { r with wk := x } := by
  obtain ⟨v8, v9, v10, v11, v12, v13, v14, v15, v16, v17, h⟩ := h
  exact ⟨v8, v9, v10, v11, v12, v13, v14, v15, v16, v17, (h.row.set 4 (.int .i64 x)), (h.l8.set 4 (.int .i64 x)), (h.l9.set 4 (.int .i64 x)), (h.l10.set 4 (.int .i64 x)), (h.l11.set 4 (.int .i64 x)), (h.l12.set 4 (.int .i64 x)), (h.l13.set 4 (.int .i64 x)), (h.l14.set 4 (.int .i64 x)), (h.l15.set 4 (.int .i64 x)), (h.l16.set 4 (.int .i64 x)), (h.l17.set 4 (.int .i64 x))⟩
theorem RuleMem.set_ct {w : World} {N : Nat} {r : RuleD} (h : RuleMem w N r) (x : Int) : RuleMem (w.setCell ⟨N, 5, none⟩ (.int .i64 x)) N { r with ct := x } := by
  obtain ⟨v8, v9, v10, v11, v12, v13, v14, v15, v16, v17, h⟩ := h
  exact ⟨v8, v9, v10, v11, v12, v13, v14, v15, v16, v17, (h.row.set 5 (.int .i64 x)), (h.l8.set 5 (.int .i64 x)), (h.l9.set 5 (.int .i64 x)), (h.l10.set 5 (.int .i64 x)), (h.l11.set 5 (.int .i64 x)), (h.l12.set 5 (.int .i64 x)), (h.l13.set 5 (.int .i64 x)), (h.l14.set 5 (.int .i64 x)), (h.l15.set 5 (.int .i64 x)), (h.l16.set 5 (.int .i64 x)), (h.l17.set 5 (.int .i64 x))⟩
theorem RuleMem.set_un {w : World} {N : Nat} {r : RuleD} (h : RuleMem w N r) (x : Int) (b : Bool) : RuleMem ((w.setCell ⟨N, 7, none⟩ (.int .i64 x)).setCell ⟨N, 6, none⟩ (.bool b)) N { r with hu := b, un := x } := by
  obtain ⟨v8, v9, v10, v11, v12, v13, v14, v15, v16, v17, h⟩ := h
  exact ⟨v8, v9, v10, v11, v12, v13, v14, v15, v16, v17, ((h.row.set 7 (.int .i64 x)).set 6 (.bool b)), ((h.l8.set 7 (.int .i64 x)).set 6 (.bool b)), ((h.l9.set 7 (.int .i64 x)).set 6 (.bool b)), ((h.l10.set 7 (.int .i64 x)).set 6 (.bool b)), ((h.l11.set 7 (.int .i64 x)).set 6 (.bool b)), ((h.l12.set 7 (.int .i64 x)).set 6 (.bool b)), ((h.l13.set 7 (.int .i64 x)).set 6 (.bool b)), ((h.l14.set 7 (.int .i64 x)).set 6 (.bool b)), ((h.l15.set 7 (.int .i64 x)).set 6 (.bool b)), ((h.l16.set 7 (.int .i64 x)).set 6 (.bool b)), ((h.l17.set 7 (.int .i64 x)).set 6 (.bool b))⟩
theorem RuleMem.set_sp {w : World} {N : Nat} {r : RuleD} (h : RuleMem w N r) {x : Value} {xs : List Int} (hx : IntsN w N x xs) : RuleMem (w.setCell ⟨N, 8, none⟩ x) N { r with sp := xs } := by
  obtain ⟨v8, v9, v10, v11, v12, v13, v14, v15, v16, v17, h⟩ := h
  exact ⟨x, v9, v10, v11, v12, v13, v14, v15, v16, v17, h.row.set 8 x, (hx.set 8 x), (h.l9.set 8 x), (h.l10.set 8 x), (h.l11.set 8 x), (h.l12.set 8 x), (h.l13.set 8 x), (h.l14.set 8 x), (h.l15.set 8 x), (h.l16.set 8 x), (h.l17.set 8 x)⟩
theorem RuleMem.set_mo {w : World} {N : Nat} {r : RuleD} (h : RuleMem w N r) {x : Value} {xs : List Int} (hx : IntsN w N x xs) : RuleMem (w.setCell ⟨N, 9, none⟩ x) N { r with mo := xs } := by
  obtain ⟨v8, v9, v10, v11, v12, v13, v14, v15, v16, v17, h⟩ := h
  exact ⟨v8, x, v10, v11, v12, v13, v14, v15, v16, v17, h.row.set 9 x, (h.l8.set 9 x), (hx.set 9 x), (h.l10.set 9 x), (h.l11.set 9 x), (h.l12.set 9 x), (h.l13.set 9 x), (h.l14.set 9 x), (h.l15.set 9 x), (h.l16.set 9 x), (h.l17.set 9 x)⟩
theorem RuleMem.set_md {w : World} {N : Nat} {r : RuleD} (h : RuleMem w N r) {x : Value} {xs : List Int} (hx : IntsN w N x xs) : RuleMem (w.setCell ⟨N, 10, none⟩ x) N { r with md := xs } := by
  obtain ⟨v8, v9, v10, v11, v12, v13, v14, v15, v16, v17, h⟩ := h
  exact ⟨v8, v9, x, v11, v12, v13, v14, v15, v16, v17, h.row.set 10 x, (h.l8.set 10 x), (h.l9.set 10 x), (hx.set 10 x), (h.l11.set 10 x), (h.l12.set 10 x), (h.l13.set 10 x), (h.l14.set 10 x), (h.l15.set 10 x), (h.l16.set 10 x), (h.l17.set 10 x)⟩
theorem RuleMem.set_yd {w : World} {N : Nat} {r : RuleD} (h : RuleMem w N r) {x : Value} {xs : List Int} (hx : IntsN w N x xs) : RuleMem (w.setCell ⟨N, 11, none⟩ x) N { r with yd := xs } := by
  obtain ⟨v8, v9, v10, v11, v12, v13, v14, v15, v16, v17, h⟩ := h
  exact ⟨v8, v9, v10, x, v12, v13, v14, v15, v16, v17, h.row.set 11 x, (h.l8.set 11 x), (h.l9.set 11 x), (h.l10.set 11 x), (hx.set 11 x), (h.l12.set 11 x), (h.l13.set 11 x), (h.l14.set 11 x), (h.l15.set 11 x), (h.l16.set 11 x), (h.l17.set 11 x)⟩
theorem RuleMem.set_wn {w : World} {N : Nat} {r : RuleD} (h : RuleMem w N r) {x : Value} {xs : List Int} (hx : IntsN w N x xs) : RuleMem (w.setCell ⟨N, 12, none⟩ x) N { r with wn := xs } := by
  obtain ⟨v8, v9, v10, v11, v12, v13, v14, v15, v16, v17, h⟩ := h
  exact ⟨v8, v9, v10, v11, x, v13, v14, v15, v16, v17, h.row.set 12 x, (h.l8.set 12 x), (h.l9.set 12 x), (h.l10.set 12 x), (h.l11.set 12 x), (hx.set 12 x), (h.l13.set 12 x), (h.l14.set 12 x), (h.l15.set 12 x), (h.l16.set 12 x), (h.l17.set 12 x)⟩
theorem RuleMem.set_dy {w : World} {N : Nat} {r : RuleD} (h : RuleMem w N r) {x : Value} {xs : List (Int × Int)} (hx : DaysN w N x xs) : RuleMem (w.setCell ⟨N, 13, none⟩ x) N { r with dy := xs } := by
  obtain ⟨v8, v9, v10, v11, v12, v13, v14, v15, v16, v17, h⟩ := h
  exact ⟨v8, v9, v10, v11, v12, x, v14, v15, v16, v17, h.row.set 13 x, (h.l8.set 13 x), (h.l9.set 13 x), (h.l10.set 13 x), (h.l11.set 13 x), (h.l12.set 13 x), (hx.set 13 x), (h.l14.set 13 x), (h.l15.set 13 x), (h.l16.set 13 x), (h.l17.set 13 x)⟩
theorem RuleMem.set_ho {w : World} {N : Nat} {r : RuleD} (h : RuleMem w N r) {x : Value} {xs : List Int} (hx : IntsN w N x xs) : RuleMem (w.setCell ⟨N, 14, none⟩ x) N { r with ho := xs } := by
  obtain ⟨v8, v9, v10, v11, v12, v13, v14, v15, v16, v17, h⟩ := h
  exact ⟨v8, v9, v10, v11, v12, v13, x, v15, v16, v17, h.row.set 14 x, (h.l8.set 14 x), (h.l9.set 14 x), (h.l10.set 14 x), (h.l11.set 14 x), (h.l12.set 14 x), (h.l13.set 14 x), (hx.set 14 x), (h.l15.set 14 x), (h.l16.set 14 x), (h.l17.set 14 x)⟩
theorem RuleMem.set_mi {w : World} {N : Nat} {r : RuleD} (h : RuleMem w N r) {x : Value} {xs : List Int} (hx : IntsN w N x xs) : RuleMem (w.setCell ⟨N, 15, none⟩ x) N { r with mi := xs } := by
  obtain ⟨v8, v9, v10, v11, v12, v13, v14, v15, v16, v17, h⟩ := h
  exact ⟨v8, v9, v10, v11, v12, v13, v14, x, v16, v17, h.row.set 15 x, (h.l8.set 15 x), (h.l9.set 15 x), (h.l10.set 15 x), (h.l11.set 15 x), (h.l12.set 15 x), (h.l13.set 15 x), (h.l14.set 15 x), (hx.set 15 x), (h.l16.set 15 x), (h.l17.set 15 x)⟩
theorem RuleMem.set_se {w : World} {N : Nat} {r : RuleD} (h : RuleMem w N r) {x : Value} {xs : List Int} (hx : IntsN w N x xs) : RuleMem (w.setCell ⟨N, 16, none⟩ x) N { r with se := xs } := by
  obtain ⟨v8, v9, v10, v11, v12, v13, v14, v15, v16, v17, h⟩ := h
  exact ⟨v8, v9, v10, v11, v12, v13, v14, v15, x, v17, h.row.set 16 x, (h.l8.set 16 x), (h.l9.set 16 x), (h.l10.set 16 x), (h.l11.set 16 x), (h.l12.set 16 x), (h.l13.set 16 x), (h.l14.set 16 x), (h.l15.set 16 x), (hx.set 16 x), (h.l17.set 16 x)⟩
theorem RuleMem.set_ea {w : World} {N : Nat} {r : RuleD} (h : RuleMem w N r) {x : Value} {xs : List Int} (hx : IntsN w N x xs) : RuleMem (w.setCell ⟨N, 17, none⟩ x) N { r with ea := xs } := by
  obtain ⟨v8, v9, v10, v11, v12, v13, v14, v15, v16, v17, h⟩ := h
  exact ⟨v8, v9, v10, v11, v12, v13, v14, v15, v16, x, h.row.set 17 x, (h.l8.set 17 x), (h.l9.set 17 x), (h.l10.set 17 x), (h.l11.set 17 x), (h.l12.set 17 x), (h.l13.set 17 x), (h.l14.set 17 x), (h.l15.set 17 x), (h.l16.set 17 x), (hx.set 17 x)⟩
end Go.Proofs.YtcfbkkcamiephaaGreatDoor
