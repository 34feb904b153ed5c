import Derived.Test.YtcfbkkcamiephaaGreatDoorE1
import Derived.StillTailTactics
namespace Go.Proofs.YtcfbkkcamiephaaGreatDoor
open Go.RowKit

/-! ### rules as data -/
structure RuleD where
  fq : Int
  hs : Bool
  st : Int
  iv : Int
  wk : Int
  ct : Int
  hu : Bool
  un : Int
  sp : List Int
  mo : List Int
  md : List Int
  yd : List Int
  wn : List Int
  dy : List (Int × Int)
  ho : List Int
  mi : List Int
  se : List Int
  ea : List Int
/-- a row of numbers that begins at a place of a block -/
structure IntRowQ (w : World) (g gq : Nat) (xs : List Int) : Prop where
  lt : g < w.heap.size
  cell : ∀ i x, xs[i]? = some x → w.cell? ⟨g, gq + i, none⟩ = some (.int .i64 x)
theorem IntRowQ.below {w w' : World} {g gq : Nat} {xs : List Int} (h : IntRowQ w g gq xs) (hb : Below w.heap.size w w') : IntRowQ w' g gq xs :=
  ⟨Nat.lt_of_lt_of_le h.lt hb.size, fun i x hx => cell_below hb (h.cell i x hx)⟩
theorem IntRow.q {w : World} {g : Nat} {xs : List Int} (h : IntRow w g xs) : IntRowQ w g 0 xs := ⟨h.lt, fun i x hx => by rw [Nat.zero_add]; exact h.cell i x hx⟩
/-- a row of days that begins at a place of a block -/
structure DayRowQ (w : World) (g gq : Nat) (xs : List (Int × Int)) : Prop where
  lt : g < w.heap.size
  cell : ∀ i x, xs[i]? = some x → w.cell? ⟨g, gq + i * 2, none⟩ = some (.int .i64 x.1) ∧ w.cell? ⟨g, gq + i * 2 + 1, none⟩ = some (.int .i64 x.2)
theorem DayRowQ.below {w w' : World} {g gq : Nat} {xs : List (Int × Int)} (h : DayRowQ w g gq xs) (hb : Below w.heap.size w w') : DayRowQ w' g gq xs :=
  ⟨Nat.lt_of_lt_of_le h.lt hb.size, fun i x hx => ⟨cell_below hb (h.cell i x hx).1, cell_below hb (h.cell i x hx).2⟩⟩
theorem DayRow.q {w : World} {g : Nat} {xs : List (Int × Int)} (h : DayRow w g xs) : DayRowQ w g 0 xs := ⟨h.lt, fun i x hx => by rw [Nat.zero_add]; exact h.cell i x hx⟩
def IntsV (w : World) (v : Value) (xs : List Int) : Prop := (xs = [] ∧ v = .slice none 0 0) ∨ ∃ g gq c, v = .slice (some ⟨g, gq, none⟩) xs.length c ∧ xs.length ≤ c ∧ IntRowQ w g gq xs
def DaysV (w : World) (v : Value) (xs : List (Int × Int)) : Prop := (xs = [] ∧ v = .slice none 0 0) ∨ ∃ g gq c, v = .slice (some ⟨g, gq, none⟩) xs.length c ∧ xs.length ≤ c ∧ DayRowQ w g gq xs
theorem IntsV.below {w w' : World} {v : Value} {xs : List Int} (h : IntsV w v xs) (hb : Below w.heap.size w w') : IntsV w' v xs := by
  rcases h with h | ⟨g, gq, c, h1, h2, h3⟩
  · exact .inl h
  · exact .inr ⟨g, gq, c, h1, h2, h3.below hb⟩
theorem DaysV.below {w w' : World} {v : Value} {xs : List (Int × Int)} (h : DaysV w v xs) (hb : Below w.heap.size w w') : DaysV w' v xs := by
  rcases h with h | ⟨g, gq, c, h1, h2, h3⟩
  · exact .inl h
  · exact .inr ⟨g, gq, c, h1, h2, h3.below hb⟩
structure RuleAt (w : World) (r : RuleD) (v8 v9 v10 v11 v12 v13 v14 v15 v16 v17 : Value) : Prop where
  l8 : IntsV w v8 r.sp
  l9 : IntsV w v9 r.mo
  l10 : IntsV w v10 r.md
  l11 : IntsV w v11 r.yd
  l12 : IntsV w v12 r.wn
  l13 : DaysV w v13 r.dy
  l14 : IntsV w v14 r.ho
  l15 : IntsV w v15 r.mi
  l16 : IntsV w v16 r.se
  l17 : IntsV w v17 r.ea
theorem RuleAt.below {w w' : World} {r : RuleD} {v8 v9 v10 v11 v12 v13 v14 v15 v16 v17 : Value} (h : RuleAt w r v8 v9 v10 v11 v12 v13 v14 v15 v16 v17) (hb : Below w.heap.size w w') : RuleAt w' r v8 v9 v10 v11 v12 v13 v14 v15 v16 v17 :=
  ⟨h.l8.below hb, h.l9.below hb, h.l10.below hb, h.l11.below hb, h.l12.below hb, h.l13.below hb, h.l14.below hb, h.l15.below hb, h.l16.below hb, h.l17.below hb⟩
def ruleVal (r : RuleD) (v8 v9 v10 v11 v12 v13 v14 v15 v16 v17 : Value) : Value :=
  .agg #[.int .u8 r.fq, .bool r.hs, .int .i64 r.st, .int .i64 r.iv, .int .i64 r.wk, .int .i64 r.ct, .bool r.hu, .int .i64 r.un, v8, v9, v10, v11, v12, v13, v14, v15, v16, v17]
def RuleIs (w : World) (v : Value) (r : RuleD) : Prop := ∃ v8 v9 v10 v11 v12 v13 v14 v15 v16 v17, v = ruleVal r v8 v9 v10 v11 v12 v13 v14 v15 v16 v17 ∧ RuleAt w r v8 v9 v10 v11 v12 v13 v14 v15 v16 v17
theorem RuleIs.below {w w' : World} {r : RuleD} {v : Value} (h : RuleIs w v r) (hb : Below w.heap.size w w') : RuleIs w' v r := by
  obtain ⟨v8, v9, v10, v11, v12, v13, v14, v15, v16, v17, h1, h2⟩ := h
  exact ⟨v8, v9, v10, v11, v12, v13, v14, v15, v16, v17, h1, h2.below hb⟩
/-! #### those that begin their blocks (what the program reads out of a text) -/
def IntsV0 (w : World) (v : Value) (xs : List Int) : Prop := (xs = [] ∧ v = .slice none 0 0) ∨ ∃ g c, v = .slice (some ⟨g, 0, none⟩) xs.length c ∧ xs.length ≤ c ∧ IntRow w g xs
def DaysV0 (w : World) (v : Value) (xs : List (Int × Int)) : Prop := (xs = [] ∧ v = .slice none 0 0) ∨ ∃ g c, v = .slice (some ⟨g, 0, none⟩) xs.length c ∧ xs.length ≤ c ∧ DayRow w g xs
theorem IntsV0.below {w w' : World} {v : Value} {xs : List Int} (h : IntsV0 w v xs) (hb : Below w.heap.size w w') : IntsV0 w' v xs := by
  rcases h with h | ⟨g, c, h1, h2, h3⟩
  · exact .inl h
  · exact .inr ⟨g, c, h1, h2, h3.below hb⟩
theorem DaysV0.below {w w' : World} {v : Value} {xs : List (Int × Int)} (h : DaysV0 w v xs) (hb : Below w.heap.size w w') : DaysV0 w' v xs := by
  rcases h with h | ⟨g, c, h1, h2, h3⟩
  · exact .inl h
  · exact .inr ⟨g, c, h1, h2, h3.below hb⟩
theorem IntsN.toV0 {w : World} {N : Nat} {v : Value} {xs : List Int} (h : IntsN w N v xs) : IntsV0 w v xs := by
  rcases h with h | ⟨g, c, h1, h2, _, h3⟩
  · exact .inl h
  · exact .inr ⟨g, c, h1, h2, h3⟩
theorem DaysN.toV0 {w : World} {N : Nat} {v : Value} {xs : List (Int × Int)} (h : DaysN w N v xs) : DaysV0 w v xs := by
  rcases h with h | ⟨g, c, h1, h2, _, h3⟩
  · exact .inl h
  · exact .inr ⟨g, c, h1, h2, h3⟩
structure RuleAt0 (w : World) (r : RuleD) (v8 v9 v10 v11 v12 v13 v14 v15 v16 v17 : Value) : Prop where
  l8 : IntsV0 w v8 r.sp
  l9 : IntsV0 w v9 r.mo
  l10 : IntsV0 w v10 r.md
  l11 : IntsV0 w v11 r.yd
  l12 : IntsV0 w v12 r.wn
  l13 : DaysV0 w v13 r.dy
  l14 : IntsV0 w v14 r.ho
  l15 : IntsV0 w v15 r.mi
  l16 : IntsV0 w v16 r.se
  l17 : IntsV0 w v17 r.ea
theorem RuleAt0.below {w w' : World} {r : RuleD} {v8 v9 v10 v11 v12 v13 v14 v15 v16 v17 : Value} (h : RuleAt0 w r v8 v9 v10 v11 v12 v13 v14 v15 v16 v17) (hb : Below w.heap.size w w') : RuleAt0 w' r v8 v9 v10 v11 v12 v13 v14 v15 v16 v17 :=
  ⟨h.l8.below hb, h.l9.below hb, h.l10.below hb, h.l11.below hb, h.l12.below hb, h.l13.below hb, h.l14.below hb, h.l15.below hb, h.l16.below hb, h.l17.below hb⟩
def RuleIs0 (w : World) (v : Value) (r : RuleD) : Prop := ∃ v8 v9 v10 v11 v12 v13 v14 v15 v16 v17, v = ruleVal r v8 v9 v10 v11 v12 v13 v14 v15 v16 v17 ∧ RuleAt0 w r v8 v9 v10 v11 v12 v13 v14 v15 v16 v17
theorem RuleIs0.below {w w' : World} {r : RuleD} {v : Value} (h : RuleIs0 w v r) (hb : Below w.heap.size w w') : RuleIs0 w' v r := by
  obtain ⟨v8, v9, v10, v11, v12, v13, v14, v15, v16, v17, h1, h2⟩ := h
  exact ⟨v8, v9, v10, v11, v12, v13, v14, v15, v16, v17, h1, h2.below hb⟩
theorem IntsV0.q {w : World} {v : Value} {xs : List Int} (h : IntsV0 w v xs) : IntsV w v xs := by
  rcases h with h | ⟨g, c, h1, h2, h3⟩
  · exact .inl h
  · exact .inr ⟨g, 0, c, h1, h2, h3.q⟩
theorem DaysV0.q {w : World} {v : Value} {xs : List (Int × Int)} (h : DaysV0 w v xs) : DaysV w v xs := by
  rcases h with h | ⟨g, c, h1, h2, h3⟩
  · exact .inl h
  · exact .inr ⟨g, 0, c, h1, h2, h3.q⟩
theorem RuleIs0.q {w : World} {v : Value} {r : RuleD} (h : RuleIs0 w v r) : RuleIs w v r := by
  obtain ⟨v8, v9, v10, v11, v12, v13, v14, v15, v16, v17, h1, h2⟩ := h
  exact ⟨v8, v9, v10, v11, v12, v13, v14, v15, v16, v17, h1, h2.l8.q, h2.l9.q, h2.l10.q, h2.l11.q, h2.l12.q, h2.l13.q, h2.l14.q, h2.l15.q, h2.l16.q, h2.l17.q⟩
theorem IntsV0.form {w : World} {v : Value} {xs : List Int} (h : IntsV0 w v xs) : ∃ a n c, v = .slice a n c := by
  rcases h with ⟨_, h⟩ | ⟨g, c, h, _⟩
  · exact ⟨_, _, _, h⟩
  · exact ⟨_, _, _, h⟩
theorem DaysV0.form {w : World} {v : Value} {xs : List (Int × Int)} (h : DaysV0 w v xs) : ∃ a c, v = .slice a xs.length c ∧ (xs = [] ∨ ∃ g, a = some ⟨g, 0, none⟩ ∧ DayRow w g xs) := by
  rcases h with ⟨h0, h⟩ | ⟨g, c, h, _, h2⟩
  · subst h0; exact ⟨_, _, h, .inl rfl⟩
  · exact ⟨_, _, h, .inr ⟨g, rfl, h2⟩⟩
/-! #### an option whose lists may begin anywhere -/
structure OptAtQ (w : World) (N : Nat) (o : Opt) (v6 v7 v8 v9 v10 v11 v12 v13 v14 v15 : Value) : Prop where
  row : RowAt w N 106 [.int .i64 o.fq, .int .i64 o.st.1, .int .i64 o.st.2, .int .i64 o.iv, .int .i64 o.wk.1, .int .i64 o.wk.2, .int .i64 o.ct, .int .i64 o.un.1, .int .i64 o.un.2, v6, v7, v8, v9, v10, v11, v12, v13, v14, v15]
  l6 : IntsV w v6 o.sp
  l7 : IntsV w v7 o.mo
  l8 : IntsV w v8 o.md
  l9 : IntsV w v9 o.yd
  l10 : IntsV w v10 o.wn
  l11 : DaysV w v11 o.dy
  l12 : IntsV w v12 o.ho
  l13 : IntsV w v13 o.mi
  l14 : IntsV w v14 o.se
  l15 : IntsV w v15 o.ea
def OptIsQ (w : World) (N : Nat) (o : Opt) : Prop := ∃ v6 v7 v8 v9 v10 v11 v12 v13 v14 v15, OptAtQ w N o v6 v7 v8 v9 v10 v11 v12 v13 v14 v15
theorem OptAtQ.below {w w' : World} {N : Nat} {o : Opt} {v6 v7 v8 v9 v10 v11 v12 v13 v14 v15 : Value} (h : OptAtQ w N o v6 v7 v8 v9 v10 v11 v12 v13 v14 v15) (hb : Below w.heap.size w w') : OptAtQ w' N o v6 v7 v8 v9 v10 v11 v12 v13 v14 v15 :=
  ⟨h.row.below hb, h.l6.below hb, h.l7.below hb, h.l8.below hb, h.l9.below hb, h.l10.below hb, h.l11.below hb, h.l12.below hb, h.l13.below hb, h.l14.below hb, h.l15.below hb⟩
theorem OptIsQ.lt {w : World} {N : Nat} {o : Opt} (h : OptIsQ w N o) : N < w.heap.size := by
  obtain ⟨v6, v7, v8, v9, v10, v11, v12, v13, v14, v15, h⟩ := h; exact h.row.lt
theorem OptIsQ.below {w w' : World} {N : Nat} {o : Opt} (h : OptIsQ w N o) (hb : Below w.heap.size w w') : OptIsQ w' N o := by
  obtain ⟨v6, v7, v8, v9, v10, v11, v12, v13, v14, v15, h⟩ := h
  exact ⟨v6, v7, v8, v9, v10, v11, v12, v13, v14, v15, h.below hb⟩
theorem RowAt.cells {w : World} {N : Nat} {e : TypeId} {xs : List Value} (h : RowAt w N e xs) (i : Nat) : w.cell? ⟨N, i, none⟩ = xs[i]? := by
  simp [World.cell?, h.blk]

/-! ### the small callees -/
theorem isZero_any (s n : Int) (w : World) : Calls Tryz.prog 93 #[.agg #[.int .i64 s, .int .i64 n]] w fun e w' => e = .returned (.bool (s == 0 && n == 0)) ∧ Below w.heap.size w w' := by
  go_enter Tryz.func93, Tryz.ntmps93
  go_wp2
  all_goals go_ret
  · rename_i h
    exact ⟨by subst h; simp, (Below.refl _ _).alloc (Nat.le_refl _) _⟩
  · rename_i h
    exact ⟨by simp [h], (Below.refl _ _).alloc (Nat.le_refl _) _⟩
theorem seconds_any (s n : Int) (w : World) : Calls Tryz.prog 79 #[.agg #[.int .i64 s, .int .i64 n]] w fun e w' => e = .returned (.int .i64 s) ∧ Below w.heap.size w w' := by
  go_enter Tryz.func79, Tryz.ntmps79
  go_wp2
  go_ret
  exact ⟨rfl, (Below.refl _ _).alloc (Nat.le_refl _) _⟩
theorem day94 (g o : Nat) (d : Int) (w : World) (hc : w.cell? ⟨g, o, none⟩ = some (.int .i64 d)) : Calls Tryz.prog 94 #[.pointer (some ⟨g, o, none⟩)] w fun e w' => e = .returned (.int .i64 d) ∧ w' = w := by
  go_enter Tryz.func94, Tryz.ntmps94
  go_wp2
  go_ret
  exact ⟨rfl, rfl⟩
theorem num95 (g o : Nat) (d : Int) (w : World) (hc : w.cell? ⟨g, o + 1, none⟩ = some (.int .i64 d)) : Calls Tryz.prog 95 #[.pointer (some ⟨g, o, none⟩)] w fun e w' => e = .returned (.int .i64 d) ∧ w' = w := by
  go_enter Tryz.func95, Tryz.ntmps95
  go_wp2
  go_ret
  exact ⟨rfl, rfl⟩
def isZ (p : Int × Int) : Bool := p.1 == 0 && p.2 == 0
def ruleOf (o : Opt) : RuleD := ⟨o.fq, !isZ o.st, o.st.1, o.iv, o.wk.1, o.ct, !isZ o.un, o.un.1, o.sp, o.mo, o.md, o.yd, o.wn, o.dy, o.ho, o.mi, o.se, o.ea⟩
end Go.Proofs.YtcfbkkcamiephaaGreatDoor
