import Derived.Test.YtcfbkkcamiephaaGreatDoorF10
namespace Go.Proofs.YtcfbkkcamiephaaGreatDoor
open Go.RowKit

/-! ### a list of bytes in memory -/
/-- a row of bytes that begins at a place of a block -/
structure ByteRowQ (w : World) (g gq : Nat) (xs : List Nat) : Prop where
  lt : g < w.heap.size
  cell : ∀ (i x : Nat), xs[i]? = some x → w.cell? ⟨g, gq + i, none⟩ = some (.int .u8 (x : Int))
theorem ByteRowQ.below {w w' : World} {g gq : Nat} {xs : List Nat} (h : ByteRowQ w g gq xs) (hb : Below w.heap.size w w') : ByteRowQ w' g gq xs :=
  ⟨Nat.lt_of_lt_of_le h.lt hb.size, fun i x hx => cell_below hb (h.cell i x hx)⟩
def BytesV (w : World) (v : Value) (xs : List Nat) : Prop := ∃ a c, v = .slice a xs.length c ∧ (xs = [] ∨ ∃ g gq, a = some ⟨g, gq, none⟩ ∧ ByteRowQ w g gq xs)
theorem BytesV.below {w w' : World} {v : Value} {xs : List Nat} (h : BytesV w v xs) (hb : Below w.heap.size w w') : BytesV w' v xs := by
  obtain ⟨a, c, h1, h2⟩ := h
  refine ⟨a, c, h1, ?_⟩
  rcases h2 with h2 | ⟨g, gq, h3, h4⟩
  · exact .inl h2
  · exact .inr ⟨g, gq, h3, h4.below hb⟩
end Go.Proofs.YtcfbkkcamiephaaGreatDoor
