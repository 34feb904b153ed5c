import Derived.Test.YtcfbkkcamiephaaGreatDoorD5
namespace Go.Proofs.YtcfbkkcamiephaaGreatDoor
open Go.RowKit

/-! ### what an option holds -/
structure Opt where
  fq : Int
  st : Int × Int
  iv : Int
  wk : Int × Int
  ct : Int
  un : Int × Int
  sp : List Int
  mo : List Int
  md : List Int
  yd : List Int
  wn : List Int
  dy : List (Int × Int)
  ho : List Int
  mi : List Int
  se : List Int
  ea : List Int
def Opt.zero : Opt := ⟨0, (0, 0), 0, (0, 0), 0, (0, 0), [], [], [], [], [], [], [], [], [], []⟩
def keyNm : Nat → List UInt8
  | 0 => [70, 82, 69, 81]
  | 1 => [68, 84, 83, 84, 65, 82, 84]
  | 2 => [73, 78, 84, 69, 82, 86, 65, 76]
  | 3 => [87, 75, 83, 84]
  | 4 => [67, 79, 85, 78, 84]
  | 5 => [85, 78, 84, 73, 76]
  | 6 => [66, 89, 83, 69, 84, 80, 79, 83]
  | 7 => [66, 89, 77, 79, 78, 84, 72]
  | 8 => [66, 89, 77, 79, 78, 84, 72, 68, 65, 89]
  | 9 => [66, 89, 89, 69, 65, 82, 68, 65, 89]
  | 10 => [66, 89, 87, 69, 69, 75, 78, 79]
  | 11 => [66, 89, 68, 65, 89]
  | 12 => [66, 89, 72, 79, 85, 82]
  | 13 => [66, 89, 77, 73, 78, 85, 84, 69]
  | 14 => [66, 89, 83, 69, 67, 79, 78, 68]
  | _ => [66, 89, 69, 65, 83, 84, 69, 82]
def partI (i : Nat) (v : List UInt8) (o : Opt) : Option Opt := match i with
  | 0 => (freqT v).map fun x => { o with fq := x }
  | 1 => (timeT v).map fun x => { o with st := x }
  | 2 => (atoiO v).map fun x => { o with iv := x }
  | 3 => (dayT v).map fun x => { o with wk := x }
  | 4 => (atoiO v).map fun x => { o with ct := x }
  | 5 => (timeT v).map fun x => { o with un := x }
  | 6 => (intsT v).map fun x => { o with sp := x }
  | 7 => (intsT v).map fun x => { o with mo := x }
  | 8 => (intsT v).map fun x => { o with md := x }
  | 9 => (intsT v).map fun x => { o with yd := x }
  | 10 => (intsT v).map fun x => { o with wn := x }
  | 11 => (daysT v).map fun x => { o with dy := x }
  | 12 => (intsT v).map fun x => { o with ho := x }
  | 13 => (intsT v).map fun x => { o with mi := x }
  | 14 => (intsT v).map fun x => { o with se := x }
  | 15 => (intsT v).map fun x => { o with ea := x }
  | _ => none
def keyI (k : List UInt8) : Nat := if k = keyNm 0 then 0 else if k = keyNm 1 then 1 else if k = keyNm 2 then 2 else if k = keyNm 3 then 3 else if k = keyNm 4 then 4 else if k = keyNm 5 then 5 else if k = keyNm 6 then 6 else if k = keyNm 7 then 7 else if k = keyNm 8 then 8 else if k = keyNm 9 then 9 else if k = keyNm 10 then 10 else if k = keyNm 11 then 11 else if k = keyNm 12 then 12 else if k = keyNm 13 then 13 else if k = keyNm 14 then 14 else if k = keyNm 15 then 15 else 16
def partT (p : List UInt8) (o : Opt × Bool) : Option (Opt × Bool) := match splitL 61 p with
  | [k, v] => if v = [] then none else (partI (keyI k) v o.1).map fun x => (x, o.2 || keyI k == 0)
  | _ => none
def partsL : List (List UInt8) → Opt × Bool → Option (Opt × Bool)
  | [], o => some o
  | p :: r, o => match partT p o with
    | none => none
    | some o' => partsL r o'
def linesT (l : List UInt8) : Option (List UInt8 × List UInt8) := match splitL 10 l with
  | [a] => some ([], a)
  | [d, a] => some (d, a)
  | _ => none
/-! ### its memory -/
def IntsN (w : World) (N : Nat) (v : Value) (xs : List Int) : Prop := (xs = [] ∧ v = .slice none 0 0) ∨ ∃ g c, v = .slice (some ⟨g, 0, none⟩) xs.length c ∧ xs.length ≤ c ∧ g ≠ N ∧ IntRow w g xs
def DaysN (w : World) (N : Nat) (v : Value) (xs : List (Int × Int)) : Prop := (xs = [] ∧ v = .slice none 0 0) ∨ ∃ g c, v = .slice (some ⟨g, 0, none⟩) xs.length c ∧ xs.length ≤ c ∧ g ≠ N ∧ DayRow w g xs
theorem IntsN.below {w w' : World} {N : Nat} {v : Value} {xs : List Int} (h : IntsN w N v xs) (hb : Below w.heap.size w w') : IntsN w' N v xs := by
  rcases h with h | ⟨g, c, h1, h2, h3, h4⟩
  · exact .inl h
  · exact .inr ⟨g, c, h1, h2, h3, h4.below hb⟩
theorem DaysN.below {w w' : World} {N : Nat} {v : Value} {xs : List (Int × Int)} (h : DaysN w N v xs) (hb : Below w.heap.size w w') : DaysN w' N v xs := by
  rcases h with h | ⟨g, c, h1, h2, h3, h4⟩
  · exact .inl h
  · exact .inr ⟨g, c, h1, h2, h3, h4.below hb⟩
theorem IntsN.of {w : World} {N g : Nat} {xs : List Int} (h : IntRow w g xs) (hg : g ≠ N) : IntsN w N (.slice (some ⟨g, 0, none⟩) xs.length xs.length) xs := .inr ⟨g, _, rfl, Nat.le_refl _, hg, h⟩
theorem DaysN.of {w : World} {N g : Nat} {xs : List (Int × Int)} (h : DayRow w g xs) (hg : g ≠ N) : DaysN w N (.slice (some ⟨g, 0, none⟩) xs.length xs.length) xs := .inr ⟨g, _, rfl, Nat.le_refl _, hg, h⟩
theorem IntsN.set {w : World} {N : Nat} {v : Value} {xs : List Int} (h : IntsN w N v xs) (i : Nat) (x : Value) : IntsN (w.setCell ⟨N, i, none⟩ x) N v xs := by
  rcases h with h | ⟨g, c, h1, h2, h3, h4⟩
  · exact .inl h
  · exact .inr ⟨g, c, h1, h2, h3, by simpa [World.setCell] using h4.lt, fun j y hy => by rw [World.cell?_of_block (w := w) (Below.heap_setCell w _ x g h3)]; exact h4.cell j y hy⟩
theorem DaysN.set {w : World} {N : Nat} {v : Value} {xs : List (Int × Int)} (h : DaysN w N v xs) (i : Nat) (x : Value) : DaysN (w.setCell ⟨N, i, none⟩ x) N v xs := by
  rcases h with h | ⟨g, c, h1, h2, h3, h4⟩
  · exact .inl h
  · exact .inr ⟨g, c, h1, h2, h3, by simpa [World.setCell] using h4.lt, fun j y hy => ⟨by rw [World.cell?_of_block (w := w) (Below.heap_setCell w _ x g h3)]; exact (h4.cell j y hy).1, by rw [World.cell?_of_block (w := w) (Below.heap_setCell w _ x g h3)]; exact (h4.cell j y hy).2⟩⟩
structure OptAt (w : World) (N : Nat) (o : Opt) (v6 v7 v8 v9 v10 v11 v12 v13 v14 v15 : Value) : Prop where
  row : RowAt w N 106 [.int .i64 o.fq, .int .i64 o.st.1, .int .i64 o.st.2, .int .i64 o.iv, .int .i64 o.wk.1, .int .i64 o.wk.2, .int .i64 o.ct, .int .i64 o.un.1, .int .i64 o.un.2, v6, v7, v8, v9, v10, v11, v12, v13, v14, v15]
  l6 : IntsN w N v6 o.sp
  l7 : IntsN w N v7 o.mo
  l8 : IntsN w N v8 o.md
  l9 : IntsN w N v9 o.yd
  l10 : IntsN w N v10 o.wn
  l11 : DaysN w N v11 o.dy
  l12 : IntsN w N v12 o.ho
  l13 : IntsN w N v13 o.mi
  l14 : IntsN w N v14 o.se
  l15 : IntsN w N v15 o.ea
def OptIs (w : World) (N : Nat) (o : Opt) : Prop := ∃ v6 v7 v8 v9 v10 v11 v12 v13 v14 v15, OptAt w N o v6 v7 v8 v9 v10 v11 v12 v13 v14 v15
theorem OptIs.lt {w : World} {N : Nat} {o : Opt} (h : OptIs w N o) : N < w.heap.size := by
  obtain ⟨v6, v7, v8, v9, v10, v11, v12, v13, v14, v15, h⟩ := h; exact h.row.lt
theorem OptIs.below {w w' : World} {N : Nat} {o : Opt} (h : OptIs w N o) (hb : Below w.heap.size w w') : OptIs w' N o := by
  obtain ⟨v6, v7, v8, v9, v10, v11, v12, v13, v14, v15, h⟩ := h
  exact ⟨v6, v7, v8, v9, v10, v11, v12, v13, v14, v15, h.row.below hb, h.l6.below hb, h.l7.below hb, h.l8.below hb, h.l9.below hb, h.l10.below hb, h.l11.below hb, h.l12.below hb, h.l13.below hb, h.l14.below hb, h.l15.below hb⟩
theorem OptIs.set_fq {w : World} {N : Nat} {o : Opt} (h : OptIs w N o) (x : Int) : OptIs (w.setCell ⟨N, 0, none⟩ (.int .i64 x)) N { o with fq := x } := by
  obtain ⟨v6, v7, v8, v9, v10, v11, v12, v13, v14, v15, h⟩ := h
  exact ⟨v6, v7, v8, v9, v10, v11, v12, v13, v14, v15, (h.row.set 0 (.int .i64 x)), (h.l6.set 0 (.int .i64 x)), (h.l7.set 0 (.int .i64 x)), (h.l8.set 0 (.int .i64 x)), (h.l9.set 0 (.int .i64 x)), (h.l10.set 0 (.int .i64 x)), (h.l11.set 0 (.int .i64 x)), (h.l12.set 0 (.int .i64 x)), (h.l13.set 0 (.int .i64 x)), (h.l14.set 0 (.int .i64 x)), (h.l15.set 0 (.int .i64 x))⟩
theorem OptIs.set_st {w : World} {N : Nat} {o : Opt} (h : OptIs w N o) (x y : Int) : OptIs ((w.setCell ⟨N, 1, none⟩ (.int .i64 x)).setCell ⟨N, 2, none⟩ (.int .i64 y)) N { o with st := (x, y) } := by
  obtain ⟨v6, v7, v8, v9, v10, v11, v12, v13, v14, v15, h⟩ := h
  exact ⟨v6, v7, v8, v9, v10, v11, v12, v13, v14, v15, ((h.row.set 1 (.int .i64 x)).set 2 (.int .i64 y)), ((h.l6.set 1 (.int .i64 x)).set 2 (.int .i64 y)), ((h.l7.set 1 (.int .i64 x)).set 2 (.int .i64 y)), ((h.l8.set 1 (.int .i64 x)).set 2 (.int .i64 y)), ((h.l9.set 1 (.int .i64 x)).set 2 (.int .i64 y)), ((h.l10.set 1 (.int .i64 x)).set 2 (.int .i64 y)), ((h.l11.set 1 (.int .i64 x)).set 2 (.int .i64 y)), ((h.l12.set 1 (.int .i64 x)).set 2 (.int .i64 y)), ((h.l13.set 1 (.int .i64 x)).set 2 (.int .i64 y)), ((h.l14.set 1 (.int .i64 x)).set 2 (.int .i64 y)), ((h.l15.set 1 (.int .i64 x)).set 2 (.int .i64 y))⟩
theorem OptIs.set_iv {w : World} {N : Nat} {o : Opt} (h : OptIs w N o) (x : Int) : OptIs (w.setCell ⟨N, 3, none⟩ (.int .i64 x)) N { o with iv := x } := by
  obtain ⟨v6, v7, v8, v9, v10, v11, v12, v13, v14, v15, h⟩ := h
  exact ⟨v6, v7, v8, v9, v10, v11, v12, v13, v14, v15, (h.row.set 3 (.int .i64 x)), (h.l6.set 3 (.int .i64 x)), (h.l7.set 3 (.int .i64 x)), (h.l8.set 3 (.int .i64 x)), (h.l9.set 3 (.int .i64 x)), (h.l10.set 3 (.int .i64 x)), (h.l11.set 3 (.int .i64 x)), (h.l12.set 3 (.int .i64 x)), (h.l13.set 3 (.int .i64 x)), (h.l14.set 3 (.int .i64 x)), (h.l15.set 3 (.int .i64 x))⟩
theorem OptIs.set_wk {w : World} {N : Nat} {o : Opt} (h : OptIs w N o) (x y : Int) : OptIs ((w.setCell ⟨N, 4, none⟩ (.int .i64 x)).setCell ⟨N, 5, none⟩ (.int .i64 y)) N { o with wk := (x, y) } := by
  obtain ⟨v6, v7, v8, v9, v10, v11, v12, v13, v14, v15, h⟩ := h
  exact ⟨v6, v7, v8, v9, v10, v11, v12, v13, v14, v15, ((h.row.set 4 (.int .i64 x)).set 5 (.int .i64 y)), ((h.l6.set 4 (.int .i64 x)).set 5 (.int .i64 y)), ((h.l7.set 4 (.int .i64 x)).set 5 (.int .i64 y)), ((h.l8.set 4 (.int .i64 x)).set 5 (.int .i64 y)), ((h.l9.set 4 (.int .i64 x)).set 5 (.int .i64 y)), ((h.l10.set 4 (.int .i64 x)).set 5 (.int .i64 y)), ((h.l11.set 4 (.int .i64 x)).set 5 (.int .i64 y)), ((h.l12.set 4 (.int .i64 x)).set 5 (.int .i64 y)), ((h.l13.set 4 (.int .i64 x)).set 5 (.int .i64 y)), ((h.l14.set 4 (.int .i64 x)).set 5 (.int .i64 y)), ((h.l15.set 4 (.int .i64 x)).set 5 (.int .i64 y))⟩
theorem OptIs.set_ct {w : World} {N : Nat} {o : Opt} (h : OptIs w N o) (x : Int) : OptIs (w.setCell ⟨N, 6, none⟩ (.int .i64 x)) N { o with ct := x } := by
  obtain ⟨v6, v7, v8, v9, v10, v11, v12, v13, v14, v15, h⟩ := h
  exact ⟨v6, v7, v8, v9, v10, v11, v12, v13, v14, v15, (h.row.set 6 (.int .i64 x)), (h.l6.set 6 (.int .i64 x)), (h.l7.set 6 (.int .i64 x)), (h.l8.set 6 (.int .i64 x)), (h.l9.set 6 (.int .i64 x)), (h.l10.set 6 (.int .i64 x)), (h.l11.set 6 (.int .i64 x)), (h.l12.set 6 (.int .i64 x)), (h.l13.set 6 (.int .i64 x)), (h.l14.set 6 (.int .i64 x)), (h.l15.set 6 (.int .i64 x))⟩
theorem OptIs.set_un {w : World} {N : Nat} {o : Opt} (h : OptIs w N o) (x y : Int) : OptIs ((w.setCell ⟨N, 7, none⟩ (.int .i64 x)).setCell ⟨N, 8, none⟩ (.int .i64 y)) N { o with un := (x, y) } := by
  obtain ⟨v6, v7, v8, v9, v10, v11, v12, v13, v14, v15, h⟩ := h
  exact ⟨v6, v7, v8, v9, v10, v11, v12, v13, v14, v15, ((h.row.set 7 (.int .i64 x)).set 8 (.int .i64 y)), ((h.l6.set 7 (.int .i64 x)).set 8 (.int .i64 y)), ((h.l7.set 7 (.int .i64 x)).set 8 (.int .i64 y)), ((h.l8.set 7 (.int .i64 x)).set 8 (.int .i64 y)), ((h.l9.set 7 (.int .i64 x)).set 8 (.int .i64 y)), ((h.l10.set 7 (.int .i64 x)).set 8 (.int .i64 y)), ((h.l11.set 7 (.int .i64 x)).set 8 (.int .i64 y)), ((h.l12.set 7 (.int .i64 x)).set 8 (.int .i64 y)), ((h.l13.set 7 (.int .i64 x)).set 8 (.int .i64 y)), ((h.l14.set 7 (.int .i64 x)).set 8 (.int .i64 y)), ((h.l15.set 7 (.int .i64 x)).set 8 (.int .i64 y))⟩
theorem OptIs.set_sp {w : World} {N : Nat} {o : Opt} (h : OptIs w N o) {x : Value} {xs : List Int} (hx : IntsN w N x xs) : OptIs (w.setCell ⟨N, 9, none⟩ x) N { o with sp := xs } := by
  obtain ⟨v6, v7, v8, v9, v10, v11, v12, v13, v14, v15, h⟩ := h
  exact ⟨x, v7, v8, v9, v10, v11, v12, v13, v14, v15, h.row.set 9 x, (hx.set 9 x), (h.l7.set 9 x), (h.l8.set 9 x), (h.l9.set 9 x), (h.l10.set 9 x), (h.l11.set 9 x), (h.l12.set 9 x), (h.l13.set 9 x), (h.l14.set 9 x), (h.l15.set 9 x)⟩
theorem OptIs.set_mo {w : World} {N : Nat} {o : Opt} (h : OptIs w N o) {x : Value} {xs : List Int} (hx : IntsN w N x xs) : OptIs (w.setCell ⟨N, 10, none⟩ x) N { o with mo := xs } := by
  obtain ⟨v6, v7, v8, v9, v10, v11, v12, v13, v14, v15, h⟩ := h
  exact ⟨v6, x, v8, v9, v10, v11, v12, v13, v14, v15, h.row.set 10 x, (h.l6.set 10 x), (hx.set 10 x), (h.l8.set 10 x), (h.l9.set 10 x), (h.l10.set 10 x), (h.l11.set 10 x), (h.l12.set 10 x), (h.l13.set 10 x), (h.l14.set 10 x), (h.l15.set 10 x)⟩
theorem OptIs.set_md {w : World} {N : Nat} {o : Opt} (h : OptIs w N o) {x : Value} {xs : List Int} (hx : IntsN w N x xs) : OptIs (w.setCell ⟨N, 11, none⟩ x) N { o with md := xs } := by
  obtain ⟨v6, v7, v8, v9, v10, v11, v12, v13, v14, v15, h⟩ := h
  exact ⟨v6, v7, x, v9, v10, v11, v12, v13, v14, v15, h.row.set 11 x, (h.l6.set 11 x), (h.l7.set 11 x), (hx.set 11 x), (h.l9.set 11 x), (h.l10.set 11 x), (h.l11.set 11 x), (h.l12.set 11 x), (h.l13.set 11 x), (h.l14.set 11 x), (h.l15.set 11 x)⟩
theorem OptIs.set_yd {w : World} {N : Nat} {o : Opt} (h : OptIs w N o) {x : Value} {xs : List Int} (hx : IntsN w N x xs) : OptIs (w.setCell ⟨N, 12, none⟩ x) N { o with yd := xs } := by
  obtain ⟨v6, v7, v8, v9, v10, v11, v12, v13, v14, v15, h⟩ := h
  exact ⟨v6, v7, v8, x, v10, v11, v12, v13, v14, v15, h.row.set 12 x, (h.l6.set 12 x), (h.l7.set 12 x), (h.l8.set 12 x), (hx.set 12 x), (h.l10.set 12 x), (h.l11.set 12 x), (h.l12.set 12 x), (h.l13.set 12 x), (h.l14.set 12 x), (h.l15.set 12 x)⟩
theorem OptIs.set_wn {w : World} {N : Nat} {o : Opt} (h : OptIs w N o) {x : Value} {xs : List Int} (hx : IntsN w N x xs) : OptIs (w.setCell ⟨N, 13, none⟩ x) N { o with wn := xs } := by
  obtain ⟨v6, v7, v8, v9, v10, v11, v12, v13, v14, v15, h⟩ := h
  exact ⟨v6, v7, v8, v9, x, v11, v12, v13, v14, v15, h.row.set 13 x, (h.l6.set 13 x), (h.l7.set 13 x), (h.l8.set 13 x), (h.l9.set 13 x), (hx.set 13 x), (h.l11.set 13 x), (h.l12.set 13 x), (h.l13.set 13 x), (h.l14.set 13 x), (h.l15.set 13 x)⟩
theorem OptIs.set_dy {w : World} {N : Nat} {o : Opt} (h : OptIs w N o) {x : Value} {xs : List (Int × Int)} (hx : DaysN w N x xs) : OptIs (w.setCell ⟨N, 14, none⟩ x) N { o with dy := xs } := by
  obtain ⟨v6, v7, v8, v9, v10, v11, v12, v13, v14, v15, h⟩ := h
  exact ⟨v6, v7, v8, v9, v10, x, v12, v13, v14, v15, h.row.set 14 x, (h.l6.set 14 x), (h.l7.set 14 x), (h.l8.set 14 x), (h.l9.set 14 x), (h.l10.set 14 x), (hx.set 14 x), (h.l12.set 14 x), (h.l13.set 14 x), (h.l14.set 14 x), (h.l15.set 14 x)⟩
theorem OptIs.set_ho {w : World} {N : Nat} {o : Opt} (h : OptIs w N o) {x : Value} {xs : List Int} (hx : IntsN w N x xs) : OptIs (w.setCell ⟨N, 15, none⟩ x) N { o with ho := xs } := by
  obtain ⟨v6, v7, v8, v9, v10, v11, v12, v13, v14, v15, h⟩ := h
  exact ⟨v6, v7, v8, v9, v10, v11, x, v13, v14, v15, h.row.set 15 x, (h.l6.set 15 x), (h.l7.set 15 x), (h.l8.set 15 x), (h.l9.set 15 x), (h.l10.set 15 x), (h.l11.set 15 x), (hx.set 15 x), (h.l13.set 15 x), (h.l14.set 15 x), (h.l15.set 15 x)⟩
theorem OptIs.set_mi {w : World} {N : Nat} {o : Opt} (h : OptIs w N o) {x : Value} {xs : List Int} (hx : IntsN w N x xs) : OptIs (w.setCell ⟨N, 16, none⟩ x) N { o with mi := xs } := by
  obtain ⟨v6, v7, v8, v9, v10, v11, v12, v13, v14, v15, h⟩ := h
  exact ⟨v6, v7, v8, v9, v10, v11, v12, x, v14, v15, h.row.set 16 x, (h.l6.set 16 x), (h.l7.set 16 x), (h.l8.set 16 x), (h.l9.set 16 x), (h.l10.set 16 x), (h.l11.set 16 x), (h.l12.set 16 x), (hx.set 16 x), (h.l14.set 16 x), (h.l15.set 16 x)⟩
theorem OptIs.set_se {w : World} {N : Nat} {o : Opt} (h : OptIs w N o) {x : Value} {xs : List Int} (hx : IntsN w N x xs) : OptIs (w.setCell ⟨N, 17, none⟩ x) N { o with se := xs } := by
  obtain ⟨v6, v7, v8, v9, v10, v11, v12, v13, v14, v15, h⟩ := h
  exact ⟨v6, v7, v8, v9, v10, v11, v12, v13, x, v15, h.row.set 17 x, (h.l6.set 17 x), (h.l7.set 17 x), (h.l8.set 17 x), (h.l9.set 17 x), (h.l10.set 17 x), (h.l11.set 17 x), (h.l12.set 17 x), (h.l13.set 17 x), (hx.set 17 x), (h.l15.set 17 x)⟩
theorem OptIs.set_ea {w : World} {N : Nat} {o : Opt} (h : OptIs w N o) {x : Value} {xs : List Int} (hx : IntsN w N x xs) : OptIs (w.setCell ⟨N, 18, none⟩ x) N { o with ea := xs } := by
  obtain ⟨v6, v7, v8, v9, v10, v11, v12, v13, v14, v15, h⟩ := h
  exact ⟨v6, v7, v8, v9, v10, v11, v12, v13, v14, x, h.row.set 18 x, (h.l6.set 18 x), (h.l7.set 18 x), (h.l8.set 18 x), (h.l9.set 18 x), (h.l10.set 18 x), (h.l11.set 18 x), (h.l12.set 18 x), (h.l13.set 18 x), (h.l14.set 18 x), (hx.set 18 x)⟩
theorem OptIs.cell {w : World} {N : Nat} {o : Opt} (h : OptIs w N o) (i : Nat) (hi : i < 19) : (∃ v, w.cell? ⟨N, i, none⟩ = some v) ∧ w.frozen? ⟨N, i, none⟩ = false := by
  obtain ⟨v6, v7, v8, v9, v10, v11, v12, v13, v14, v15, h⟩ := h
  refine ⟨?_, h.row.frozen i⟩
  exact ⟨_, h.row.cell i (List.getElem?_eq_getElem (by simpa using hi))⟩
theorem OptIs.zero {w : World} : OptIs (w.alloc (.cells #[.int .i64 0, .int .i64 0, .int .i64 0, .int .i64 0, .int .i64 0, .int .i64 0, .int .i64 0, .int .i64 0, .int .i64 0, .slice none 0 0, .slice none 0 0, .slice none 0 0, .slice none 0 0, .slice none 0 0, .slice none 0 0, .slice none 0 0, .slice none 0 0, .slice none 0 0, .slice none 0 0] 106)) w.heap.size Opt.zero :=
  ⟨_, _, _, _, _, _, _, _, _, _, ⟨heap_alloc_new w _⟩, .inl ⟨rfl, rfl⟩, .inl ⟨rfl, rfl⟩, .inl ⟨rfl, rfl⟩, .inl ⟨rfl, rfl⟩, .inl ⟨rfl, rfl⟩, .inl ⟨rfl, rfl⟩, .inl ⟨rfl, rfl⟩, .inl ⟨rfl, rfl⟩, .inl ⟨rfl, rfl⟩, .inl ⟨rfl, rfl⟩⟩
end Go.Proofs.YtcfbkkcamiephaaGreatDoor
