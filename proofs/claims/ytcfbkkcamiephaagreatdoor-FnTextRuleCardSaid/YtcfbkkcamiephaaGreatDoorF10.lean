import Derived.Test.YtcfbkkcamiephaaGreatDoorF8
import Derived.Test.YtcfbkkcamiephaaGreatDoorE2
import Derived.Laws.Tables
import Derived.Laws.Rows
import Derived.Laws.CopyOwn
namespace Go.Proofs.YtcfbkkcamiephaaGreatDoor
open Go.RowKit

/-! ### a row of days that the call makes, element by element -/
theorem RowAt.belowB {w w' : World} {B N : Nat} {e : TypeId} {xs : List Value} (h : RowAt w N e xs) (hb : Below B w w') (hN : N < B) : RowAt w' N e xs := ⟨(hb.block N hN).trans h.blk⟩
theorem DayRowQ.belowB {w w' : World} {B g gq : Nat} {xs : List (Int × Int)} (h : DayRowQ w g gq xs) (hb : Below B w w') (hg : g < B) : DayRowQ w' g gq xs :=
  ⟨Nat.lt_of_lt_of_le h.lt hb.size, fun i x hx => ⟨(hb.cell (p := ⟨g, gq + i * 2, none⟩) hg).trans (h.cell i x hx).1, (hb.cell (p := ⟨g, gq + i * 2 + 1, none⟩) hg).trans (h.cell i x hx).2⟩⟩
/-- 'append(v, T{x, y})' onto a row of the call's own. -/
theorem app2 {P : Program} {ops : Array Oper} {rest : List Oper} {o : Oper} {a : Act} {Q : Exit → Act → World → Prop} {w0 W : World} {x y : Int} {e : TypeId}
    (base : Nat) (s z : Operand) (t : TypeId) (zv : Value) (bytes : Nat) (ht : P.underlying t = some (.slice e))
    (hinfo : (P.info? e).map (fun i => (i.zero, i.size, i.bytes)) = some (some zv, 2, bytes)) (hz : zv.cells.size = 2)
    {v : Value} {n : Nat} {xs : List Value} (HO : W.ownsRow base e 2 v n xs) (HB : Below base w0 W) (hbase : base ≤ W.heap.size) (hlen : n ≤ 1000000000000) (hb : bytes ≤ 100)
    (hgd : o.guard = none) (ho : o.op = .call { callee := .builtin .append, args := #[s, z], argTypes := #[t, t] })
    (hs : a.eval s = v) {H : Nat} (hx : a.eval z = .slice (some ⟨H, 0, none⟩) 1 1) (hH : W.heap.size = H)
    (h : ∀ v1 w1, w1.ownsRow base e 2 v1 (n + 1) (xs ++ [.int .i64 x, .int .i64 y]) → Below base w0 w1 → W.heap.size ≤ w1.heap.size → wpList P ops Q rest (a.put o.dst v1) w1) :
    wpList P ops Q (o :: rest) a (W.alloc (.cells #[.int .i64 x, .int .i64 y] e)) := by
  subst hH
  obtain ⟨i0, hi, hz0, hz1, hz2⟩ := info_parts hinfo
  have hbb : (n + 1) * bytes ≤ 140737488355328 := Nat.le_trans (Nat.mul_le_mul (show n + 1 ≤ 1000000000001 by omega) hb) (by omega)
  refine wpList_append_own (W.alloc (.cells #[.int .i64 x, .int .i64 y] e)) hgd s z t ho base e i0 zv 2 bytes ht hi hz0 hz1 hz2 hz (by omega) v n xs hs (HO.alloc _) ⟨W.heap.size, 0, none⟩ 1 1 [.int .i64 x, .int .i64 y] hx rfl
    (fun j u hu => ?_) (by simp [Value.oneCell']) (by simp only [maxLen]; omega) hbb (by simp; omega) ?_
  · have hadd : (⟨W.heap.size, 0, none⟩ : Addr).add j = ⟨W.heap.size, j, none⟩ := by unfold Addr.add; split <;> simp_all
    rw [hadd]
    have hblk := heap_alloc_new W (.cells #[.int .i64 x, .int .i64 y] e)
    simp only [World.cell?, hblk]
    simpa using hu
  · intro v1 w1 hown hg _
    refine h v1 w1 hown ((HB.alloc hbase _).grown hg (by simp; omega) (fun k hk => (HO.lt k hk).1)) ?_
    have := hg.size
    simp at this
    omega
def flat2 (ds : List (Int × Int)) : List Value := ds.flatMap enc2
theorem flat2_snoc (ds : List (Int × Int)) (k : Nat) (h : k < ds.length) : flat2 (ds.take (k + 1)) = flat2 (ds.take k) ++ [.int .i64 ds[k].1, .int .i64 ds[k].2] := by
  unfold flat2
  rw [List.take_succ_eq_append_getElem h, List.flatMap_append]; rfl
theorem days_own0 {w : World} {B : Nat} {e : TypeId} {v : Value} {ds : List (Int × Int)} (h : w.ownsRow B e 2 v ds.length (flat2 ds)) : DaysV0 w v ds := by
  have h' := h
  obtain ⟨h1, h2⟩ := h
  rcases h2 with ⟨hv, h0⟩ | ⟨g, cap, cur, hv, hb, hh, hc, hm, hs, ht⟩
  · exact .inl ⟨List.eq_nil_of_length_eq_zero h0, hv⟩
  · refine .inr ⟨g, cap, hv, hc, (Array.getElem?_eq_some_iff.1 hh).1, fun i p hp => ?_⟩
    have hcell := h'.cells (g := g) (by rw [hv]; rfl)
    have hadd : ∀ j, (⟨g, 0, none⟩ : Addr).add j = ⟨g, j, none⟩ := fun j => by unfold Addr.add; split <;> simp_all
    obtain ⟨e0, e1⟩ := flat2_at ds i p hp
    exact ⟨by rw [← hadd]; exact hcell _ _ e0, by rw [← hadd]; exact hcell _ _ e1⟩
theorem days_own {w : World} {B : Nat} {e : TypeId} {v : Value} {ds : List (Int × Int)} (h : w.ownsRow B e 2 v ds.length (flat2 ds)) : DaysV w v ds := (days_own0 h).q

/-! ### rules as values -/
def ruleCells (r : RuleD) (v8 v9 v10 v11 v12 v13 v14 v15 v16 v17 : Value) : List Value :=
  [.int .u8 r.fq, .bool r.hs, .int .i64 r.st, .int .i64 r.iv, .int .i64 r.wk, .int .i64 r.ct, .bool r.hu, .int .i64 r.un, v8, v9, v10, v11, v12, v13, v14, v15, v16, v17]
theorem ruleVal_eq (r : RuleD) (v8 v9 v10 v11 v12 v13 v14 v15 v16 v17 : Value) : ruleVal r v8 v9 v10 v11 v12 v13 v14 v15 v16 v17 = .agg (ruleCells r v8 v9 v10 v11 v12 v13 v14 v15 v16 v17).toArray := rfl
theorem IntsV.form {w : World} {v : Value} {xs : List Int} (h : IntsV w v xs) : ∃ a n c, v = .slice a n c := by
  rcases h with ⟨_, h⟩ | ⟨g, gq, c, h, _⟩
  · exact ⟨_, _, _, h⟩
  · exact ⟨_, _, _, h⟩
def ruleZ0 : Array Value := #[.int .u8 0, .bool false, .int .i64 0, .int .i64 0, .int .i64 0, .int .i64 0, .bool false, .int .i64 0, .slice none 0 0, .slice none 0 0, .slice none 0 0, .slice none 0 0, .slice none 0 0, .slice none 0 0, .slice none 0 0, .slice none 0 0, .slice none 0 0, .slice none 0 0]
theorem three_rows (w : World) (c1 c2 c3 : Array Value) (t1 t2 t3 : TypeId) :
    RowAt (((w.alloc (.cells c1 t1)).alloc (.cells c2 t2)).alloc (.cells c3 t3)) w.heap.size t1 c1.toList ∧ RowAt (((w.alloc (.cells c1 t1)).alloc (.cells c2 t2)).alloc (.cells c3 t3)) (w.heap.size + 1) t2 c2.toList ∧
    RowAt (((w.alloc (.cells c1 t1)).alloc (.cells c2 t2)).alloc (.cells c3 t3)) (w.heap.size + 1 + 1) t3 c3.toList ∧ Below w.heap.size w (((w.alloc (.cells c1 t1)).alloc (.cells c2 t2)).alloc (.cells c3 t3)) ∧
    (((w.alloc (.cells c1 t1)).alloc (.cells c2 t2)).alloc (.cells c3 t3)).heap.size = w.heap.size + 3 := by
  have h1 : RowAt (w.alloc (.cells c1 t1)) w.heap.size t1 c1.toList := ⟨heap_alloc_new w _⟩
  have h2 : RowAt ((w.alloc (.cells c1 t1)).alloc (.cells c2 t2)) (w.heap.size + 1) t2 c2.toList := ⟨by have := heap_alloc_new (w.alloc (.cells c1 t1)) (.cells c2 t2); simpa using this⟩
  have h3 : RowAt (((w.alloc (.cells c1 t1)).alloc (.cells c2 t2)).alloc (.cells c3 t3)) (w.heap.size + 1 + 1) t3 c3.toList := ⟨by have := heap_alloc_new ((w.alloc (.cells c1 t1)).alloc (.cells c2 t2)) (.cells c3 t3); simpa using this⟩
  have k2 : Below (w.alloc (.cells c1 t1)).heap.size (w.alloc (.cells c1 t1)) ((w.alloc (.cells c1 t1)).alloc (.cells c2 t2)) := (Below.refl _ _).alloc (Nat.le_refl _) _
  have k3 : Below ((w.alloc (.cells c1 t1)).alloc (.cells c2 t2)).heap.size ((w.alloc (.cells c1 t1)).alloc (.cells c2 t2)) (((w.alloc (.cells c1 t1)).alloc (.cells c2 t2)).alloc (.cells c3 t3)) := (Below.refl _ _).alloc (Nat.le_refl _) _
  refine ⟨(h1.below k2).below k3, h2.below k3, h3, ?_, by simp⟩
  exact (((Below.refl _ _).alloc (Nat.le_refl _) _).alloc (by simp) _).alloc (by simp; omega) _
theorem RowAt.setOther {w : World} {N b : Nat} {e : TypeId} {xs : List Value} (h : RowAt w N e xs) (hne : N ≠ b) (i : Nat) (x : Value) : RowAt (w.setCell ⟨b, i, none⟩ x) N e xs :=
  ⟨(Below.heap_setCell w _ x N hne).trans h.blk⟩
theorem own_form {w : World} {base : Nat} {e : TypeId} {size : Nat} {v : Value} {n : Nat} {xs : List Value} (h : w.ownsRow base e size v n xs) : ∃ a n c, v = .slice a n c := by
  rcases h.2 with ⟨h, _⟩ | ⟨g, cap, cur, h, _⟩
  · exact ⟨_, _, _, h⟩
  · exact ⟨_, _, _, h⟩
theorem own_setRow {w : World} {base : Nat} {e : TypeId} {size : Nat} {v : Value} {n : Nat} {xs : List Value} (h : w.ownsRow base e size v n xs) {R : Nat} (hR : R < base) (c : Array Value) : (w.setRow R c).ownsRow base e size v n xs := by
  obtain ⟨h1, h2⟩ := h
  refine ⟨h1, ?_⟩
  rcases h2 with h2 | ⟨g, cap, cur, hv, hb, hh, hc, hm, hs, ht⟩
  · exact .inl h2
  · exact .inr ⟨g, cap, cur, hv, hb, (setRow_other w R g c (by omega)).trans hh, hc, hm, hs, ht⟩
theorem two_rows (w : World) (c1 c2 : Array Value) (t1 t2 : TypeId) :
    RowAt ((w.alloc (.cells c1 t1)).alloc (.cells c2 t2)) w.heap.size t1 c1.toList ∧ RowAt ((w.alloc (.cells c1 t1)).alloc (.cells c2 t2)) (w.heap.size + 1) t2 c2.toList ∧
    Below w.heap.size w ((w.alloc (.cells c1 t1)).alloc (.cells c2 t2)) ∧ ((w.alloc (.cells c1 t1)).alloc (.cells c2 t2)).heap.size = w.heap.size + 2 := by
  have h1 : RowAt (w.alloc (.cells c1 t1)) w.heap.size t1 c1.toList := ⟨heap_alloc_new w _⟩
  have h2 : RowAt ((w.alloc (.cells c1 t1)).alloc (.cells c2 t2)) (w.heap.size + 1) t2 c2.toList := ⟨by have := heap_alloc_new (w.alloc (.cells c1 t1)) (.cells c2 t2); simpa using this⟩
  have k2 : Below (w.alloc (.cells c1 t1)).heap.size (w.alloc (.cells c1 t1)) ((w.alloc (.cells c1 t1)).alloc (.cells c2 t2)) := (Below.refl _ _).alloc (Nat.le_refl _) _
  exact ⟨h1.below k2, h2, ((Below.refl _ _).alloc (Nat.le_refl _) _).alloc (by simp) _, by simp⟩
/-! ### options as values -/
def optOf (r : RuleD) : Opt := ⟨r.fq, (if r.hs = true then r.st else 0, 0), r.iv, (r.wk, 0), r.ct, (if r.hu = true then r.un else 0, 0), r.sp, r.mo, r.md, r.yd, r.wn, r.dy, r.ho, r.mi, r.se, r.ea⟩
def optVal (o : Opt) (v6 v7 v8 v9 v10 v11 v12 v13 v14 v15 : Value) : Value :=
  .agg #[.int .i64 o.fq, .int .i64 o.st.1, .int .i64 o.st.2, .int .i64 o.iv, .int .i64 o.wk.1, .int .i64 o.wk.2, .int .i64 o.ct, .int .i64 o.un.1, .int .i64 o.un.2, v6, v7, v8, v9, v10, v11, v12, v13, v14, v15]
structure OptLs (w : World) (o : Opt) (v6 v7 v8 v9 v10 v11 v12 v13 v14 v15 : Value) : Prop where
  l6 : IntsV w v6 o.sp
  l7 : IntsV w v7 o.mo
  l8 : IntsV w v8 o.md
  l9 : IntsV w v9 o.yd
  l10 : IntsV w v10 o.wn
  l11 : DaysV w v11 o.dy
  l12 : IntsV w v12 o.ho
  l13 : IntsV w v13 o.mi
  l14 : IntsV w v14 o.se
  l15 : IntsV w v15 o.ea
def OptVal (w : World) (v : Value) (o : Opt) : Prop := ∃ v6 v7 v8 v9 v10 v11 v12 v13 v14 v15, v = optVal o v6 v7 v8 v9 v10 v11 v12 v13 v14 v15 ∧ OptLs w o v6 v7 v8 v9 v10 v11 v12 v13 v14 v15
end Go.Proofs.YtcfbkkcamiephaaGreatDoor
