import Derived.Test.YtcfbkkcamiephaaGreatDoorRh
import Derived.Test.YtcfbkkcamiephaaGreatDoorQ1
import Derived.Test.YtcfbkkcamiephaaGreatDoorN1
import Derived.Deep.MidRow
import Derived.Deep.AppendLies
import Derived.Test.YtcfbkkcamiephaaGreatDoorSq
namespace Go.Proofs.YtcfbkkcamiephaaGreatDoor
open Go.RowKit

/-! ### buildRRule -/
theorem Tryz.t101 : (Tryz.prog.info? 101).map (fun i => (i.zero, i.size, i.bytes)) = some (some (.agg #[.int .i64 0, .int .i64 0]), 2, 16) := by kernel_rfl
theorem Tryz.v125 : Tryz.prog.underlying 125 = some (.slice 101) := by kernel_rfl
def setsL : List Value → Nat → List Value → List Value
  | xs, _, [] => xs
  | xs, o, v :: r => setsL (xs.set o v) (o + 1) r
theorem RowAt.sets {W : World} {N : Nat} {e : TypeId} {xs : List Value} (h : RowAt W N e xs) (o : Nat) (vs : List Value) : RowAt (W.setCells N o vs) N e (setsL xs o vs) := by
  induction vs generalizing W xs o with
  | nil => exact h
  | cons v r ih => exact ih (h.set o v) (o + 1)
theorem RowAt.setsOther {W : World} {N b : Nat} {e : TypeId} {xs : List Value} (h : RowAt W N e xs) (hne : N ≠ b) (o : Nat) (vs : List Value) : RowAt (W.setCells b o vs) N e xs := by
  induction vs generalizing W o with
  | nil => exact h
  | cons v r ih => exact ih (h.setOther hne o v) (o + 1)
theorem bsets {B N : Nat} {a W : World} (h : Below B a W) (hN : B ≤ N) (o : Nat) (vs : List Value) : Below B a (W.setCells N o vs) := by
  induction vs generalizing W o with
  | nil => exact h
  | cons v r ih => exact ih (h.setCell hN v) (o + 1)
theorem RowAt.there {W : World} {N : Nat} {e : TypeId} {xs : List Value} (h : RowAt W N e xs) (n : Nat) (hn : n ≤ xs.length) : W.there N 0 n := fun j hj => by
  rw [Nat.zero_add]
  exact ⟨by rw [h.cell j (List.getElem?_eq_getElem (show j < xs.length by omega))]; rfl, h.frozen j⟩
/-- the rule that is built: sixty cells, the first of them the argument's -/
structure RR (W : World) (N : Nat) (argL : List Value) (fq : Int) (rs : List Value) : Prop where
  row : RowAt W N 150 rs
  len : rs.length = 60
  org : rs.take 19 = argL
  fq : rs[38]? = some (.int .i64 fq)
  dz : rs.drop 48 = rrZ.toList.drop 48
  one : ∀ x ∈ rs, x.oneCell' = true
theorem one_set {rs : List Value} (h : ∀ x ∈ rs, x.oneCell' = true) (i : Nat) {v : Value} (hv : v.oneCell' = true) : ∀ x ∈ rs.set i v, x.oneCell' = true := fun x hx => by
  rcases List.mem_or_eq_of_mem_set hx with hx | rfl
  · exact h x hx
  · exact hv
theorem RR.at {W : World} {N : Nat} {argL : List Value} {fq : Int} {rs : List Value} (h : RR W N argL fq rs) (i : Nat) (hi : i < 60) : ∃ x, W.cell? ⟨N, i, none⟩ = some x ∧ W.frozen? ⟨N, i, none⟩ = false :=
  ⟨_, h.row.cell i (List.getElem?_eq_getElem (show i < rs.length by rw [h.len]; exact hi)), h.row.frozen i⟩
theorem RR.set {W : World} {N : Nat} {argL : List Value} {fq : Int} {rs : List Value} (h : RR W N argL fq rs) (i : Nat) (hi : 19 ≤ i) (h38 : i ≠ 38 ∧ i < 48) (v : Value) (hv : v.oneCell' = true := by rfl) : RR (W.setCell ⟨N, i, none⟩ v) N argL fq (rs.set i v) :=
  ⟨h.row.set i v, by rw [List.length_set]; exact h.len, by rw [List.take_set_of_le hi]; exact h.org, by rw [List.getElem?_set_ne h38.1]; exact h.fq, by rw [List.drop_set_of_lt h38.2]; exact h.dz, one_set h.one i hv⟩
theorem RR.other {W : World} {N b : Nat} {argL : List Value} {fq : Int} {rs : List Value} (h : RR W N argL fq rs) (hne : N ≠ b) (i : Nat) (v : Value) : RR (W.setCell ⟨b, i, none⟩ v) N argL fq rs :=
  ⟨h.row.setOther hne i v, h.len, h.org, h.fq, h.dz, h.one⟩
theorem RR.below {W w1 : World} {N : Nat} {argL : List Value} {fq : Int} {rs : List Value} (h : RR W N argL fq rs) (hb : Below W.heap.size W w1) : RR w1 N argL fq rs :=
  ⟨h.row.below hb, h.len, h.org, h.fq, h.dz, h.one⟩
def bw0 (w : World) (cs : Array Value) : World := ((w.alloc (.cells cs 106)).alloc (.cells rrZ 150)).alloc (.cells rrZ 150)
theorem bw0_rows (w : World) (cs : Array Value) : RowAt (bw0 w cs) w.heap.size 106 cs.toList ∧ RowAt (bw0 w cs) (w.heap.size + 1) 150 rrZ.toList ∧ RowAt (bw0 w cs) (w.heap.size + 1 + 1) 150 rrZ.toList ∧ Below w.heap.size w (bw0 w cs) ∧ (bw0 w cs).heap.size = w.heap.size + 3 := by
  obtain ⟨h1, h2, h3, h4⟩ := three_rows w cs rrZ rrZ 106 150 150
  exact ⟨h1, h2, h3, h4.1, h4.2⟩
/-- the argument's row -/
def aL (fq s n iv k1 k2 ct u m : Int) (L : List Value) : List Value := [.int .i64 fq, .int .i64 s, .int .i64 n, .int .i64 iv, .int .i64 k1, .int .i64 k2, .int .i64 ct, .int .i64 u, .int .i64 m] ++ L
structure SS (w : World) (B1 B2 B3 : Nat) (org : List Value) (fq : Int) (al rs : List Value) (W : World) : Prop where
  a : RowAt W B1 106 al
  z : RowAt W B2 150 rrZ.toList
  r : RR W B3 org fq rs
  hb : Below w.heap.size w W
structure BD (w : World) (B1 B2 B3 : Nat) : Prop where
  n12 : B1 ≠ B2
  n13 : B1 ≠ B3
  n23 : B2 ≠ B3
  g1 : w.heap.size ≤ B1
  g3 : w.heap.size ≤ B3
  g2 : w.heap.size ≤ B2
theorem SS.call {w W w1 : World} {B1 B2 B3 : Nat} {org : List Value} {fq : Int} {al rs : List Value} (h : SS w B1 B2 B3 org fq al rs W) (hb : Below W.heap.size W w1) : SS w B1 B2 B3 org fq al rs w1 :=
  ⟨h.a.below hb, h.z.below hb, h.r.below hb, h.hb.trans (hb.mono h.hb.size)⟩
theorem SS.setR {w W : World} {B1 B2 B3 : Nat} {org : List Value} {fq : Int} {al rs : List Value} (h : SS w B1 B2 B3 org fq al rs W) (d : BD w B1 B2 B3) (i : Nat) (hi : 19 ≤ i) (h38 : i ≠ 38 ∧ i < 48) (v : Value) (hv : v.oneCell' = true := by rfl) : SS w B1 B2 B3 org fq al (rs.set i v) (W.setCell ⟨B3, i, none⟩ v) :=
  ⟨h.a.setOther d.n13 i v, h.z.setOther d.n23 i v, h.r.set i hi h38 v hv, h.hb.setCell d.g3 v⟩
theorem SS.setA {w W : World} {B1 B2 B3 : Nat} {org : List Value} {fq : Int} {al rs : List Value} (h : SS w B1 B2 B3 org fq al rs W) (d : BD w B1 B2 B3) (i : Nat) (v : Value) : SS w B1 B2 B3 org fq (al.set i v) rs (W.setCell ⟨B1, i, none⟩ v) :=
  ⟨h.a.set i v, h.z.setOther (Ne.symm d.n12) i v, h.r.other (Ne.symm d.n13) i v, h.hb.setCell d.g1 v⟩
def IntsX (N : Nat) (W : World) (v : Value) (xs : List Int) : Prop := (xs = [] ∧ v = .slice none 0 0) ∨ ∃ g gq c, v = .slice (some ⟨g, gq, none⟩) xs.length c ∧ xs.length ≤ c ∧ g ≠ N ∧ IntRowQ W g gq xs
def DaysX (N : Nat) (W : World) (v : Value) (xs : List (Int × Int)) : Prop := (xs = [] ∧ v = .slice none 0 0) ∨ ∃ g gq c, v = .slice (some ⟨g, gq, none⟩) xs.length c ∧ xs.length ≤ c ∧ g ≠ N ∧ DayRowQ W g gq xs
theorem IntsV.toX {w W : World} {N : Nat} {v : Value} {xs : List Int} (h : IntsV w v xs) (hb : Below w.heap.size w W) (hN : w.heap.size ≤ N) : IntsX N W v xs := by
  rcases h with h | ⟨g, gq, c, h1, h2, h3⟩
  · exact .inl h
  · exact .inr ⟨g, gq, c, h1, h2, by have := h3.lt; omega, h3.below hb⟩
theorem DaysV.toX {w W : World} {N : Nat} {v : Value} {xs : List (Int × Int)} (h : DaysV w v xs) (hb : Below w.heap.size w W) (hN : w.heap.size ≤ N) : DaysX N W v xs := by
  rcases h with h | ⟨g, gq, c, h1, h2, h3⟩
  · exact .inl h
  · exact .inr ⟨g, gq, c, h1, h2, by have := h3.lt; omega, h3.below hb⟩
theorem IntsX.one {W : World} {g N : Nat} {d : Int} (h : RowAt W g 3 [.int .i64 d]) (hne : g ≠ N) : IntsX N W (.slice (some ⟨g, 0, none⟩) 1 1) [d] :=
  .inr ⟨g, 0, 1, rfl, Nat.le_refl _, hne, h.lt, fun i x hx => by
    cases i with
    | zero => simp at hx; subst hx; exact h.cell 0 rfl
    | succ i => simp at hx⟩
theorem DaysX.one {W : World} {g N : Nat} {d e : Int} (h : RowAt W g 103 [.int .i64 d, .int .i64 e]) (hne : g ≠ N) : DaysX N W (.slice (some ⟨g, 0, none⟩) 1 1) [(d, e)] :=
  .inr ⟨g, 0, 1, rfl, Nat.le_refl _, hne, h.lt, fun i x hx => by
    cases i with
    | zero => simp at hx; subst hx; exact ⟨h.cell 0 rfl, h.cell 1 rfl⟩
    | succ i => simp at hx⟩
theorem SS.lt3 {w W : World} {B1 B2 B3 : Nat} {org : List Value} {fq : Int} {al rs : List Value} (h : SS w B1 B2 B3 org fq al rs W) : B3 < W.heap.size := h.r.row.lt
theorem SS.lt1 {w W : World} {B1 B2 B3 : Nat} {org : List Value} {fq : Int} {al rs : List Value} (h : SS w B1 B2 B3 org fq al rs W) : B1 < W.heap.size := h.a.lt
theorem SS.made {w W : World} {B1 B2 B3 : Nat} {org : List Value} {fq : Int} {al rs : List Value} (h : SS w B1 B2 B3 org fq al rs W) (o : Obj) : SS w B1 B2 B3 org fq al rs (W.alloc o) := h.call ((Below.refl _ _).alloc (Nat.le_refl _) _)
theorem madeRow (W : World) (B i : Nat) (v : Value) (xs : Array Value) (e : TypeId) : RowAt ((W.setCell ⟨B, i, none⟩ v).alloc (.cells xs e)) W.heap.size e xs.toList :=
  ⟨by have h := heap_alloc_new (W.setCell ⟨B, i, none⟩ v) (.cells xs e); rw [World.size_setCell] at h; exact h⟩
theorem SS.fresh1 {w W : World} {B1 B2 B3 : Nat} {org : List Value} {fq : Int} {al rs : List Value} (h : SS w B1 B2 B3 org fq al rs W) (d : BD w B1 B2 B3) (i : Nat) (x : Int) :
    SS w B1 B2 B3 org fq (al.set i (.slice (some ⟨W.heap.size, 0, none⟩) 1 1)) rs ((W.setCell ⟨B1, i, none⟩ (.slice (some ⟨W.heap.size, 0, none⟩) 1 1)).alloc (.cells #[.int .i64 x] 3)) ∧
    IntsX B3 ((W.setCell ⟨B1, i, none⟩ (.slice (some ⟨W.heap.size, 0, none⟩) 1 1)).alloc (.cells #[.int .i64 x] 3)) (.slice (some ⟨W.heap.size, 0, none⟩) 1 1) [x] :=
  ⟨(h.setA d i _).made _, IntsX.one (madeRow W B1 i _ #[.int .i64 x] 3) (Nat.ne_of_gt h.lt3)⟩
theorem SS.fresh2 {w W : World} {B1 B2 B3 : Nat} {org : List Value} {fq : Int} {al rs : List Value} (h : SS w B1 B2 B3 org fq al rs W) (d : BD w B1 B2 B3) (i : Nat) (x y : Int) :
    SS w B1 B2 B3 org fq (al.set i (.slice (some ⟨W.heap.size, 0, none⟩) 1 1)) rs ((W.setCell ⟨B1, i, none⟩ (.slice (some ⟨W.heap.size, 0, none⟩) 1 1)).alloc (.cells #[.int .i64 x, .int .i64 y] 103)) ∧
    DaysX B3 ((W.setCell ⟨B1, i, none⟩ (.slice (some ⟨W.heap.size, 0, none⟩) 1 1)).alloc (.cells #[.int .i64 x, .int .i64 y] 103)) (.slice (some ⟨W.heap.size, 0, none⟩) 1 1) [(x, y)] :=
  ⟨(h.setA d i _).made _, DaysX.one (madeRow W B1 i _ #[.int .i64 x, .int .i64 y] 103) (Nat.ne_of_gt h.lt3)⟩

/-! ### the station behind the parts, and the loops that append to the rule's own lists -/
/-- what was there in W0, but for the block B3, is there -/
structure Fr (B3 : Nat) (W0 W : World) : Prop where
  os : W.os = W0.os
  tape : W.tape = W0.tape
  output : W.output = W0.output
  size : W0.heap.size ≤ W.heap.size
  block : ∀ k, k < W0.heap.size → k ≠ B3 → W.heap[k]? = W0.heap[k]?
section
variable {B3 : Nat} {W0 W w1 : World}
theorem Fr.refl (B3 : Nat) (W : World) : Fr B3 W W := ⟨rfl, rfl, rfl, Nat.le_refl _, fun _ _ _ => rfl⟩
theorem Fr.call (h : Fr B3 W0 W) (hb : Below W.heap.size W w1) : Fr B3 W0 w1 :=
  ⟨hb.os.trans h.os, hb.tape.trans h.tape, hb.output.trans h.output, Nat.le_trans h.size hb.size, fun k hk hn => (hb.block k (Nat.lt_of_lt_of_le hk h.size)).trans (h.block k hk hn)⟩
theorem Fr.set (h : Fr B3 W0 W) (i : Nat) (v : Value) : Fr B3 W0 (W.setCell ⟨B3, i, none⟩ v) :=
  ⟨h.os, h.tape, h.output, by rw [World.size_setCell]; exact h.size, fun k hk hn => (Below.heap_setCell W ⟨B3, i, none⟩ v k hn).trans (h.block k hk hn)⟩
theorem Fr.far (h : Fr B3 W0 W) {S : Nat} (hS : W0.heap.size ≤ S) (i : Nat) (v : Value) : Fr B3 W0 (W.setCell ⟨S, i, none⟩ v) :=
  ⟨h.os, h.tape, h.output, by rw [World.size_setCell]; exact h.size, fun k hk hn => (Below.heap_setCell W ⟨S, i, none⟩ v k (show k ≠ S by omega)).trans (h.block k hk hn)⟩
theorem Fr.drew (h : Fr B3 W0 W) : Fr B3 W0 W.drew := ⟨h.os, h.tape, h.output, h.size, h.block⟩
theorem Fr.grown {row : Option Nat} (h : Fr B3 W0 W) (hg : W.grownBy w1 row) (hr : ∀ k, row = some k → W0.heap.size ≤ k) : Fr B3 W0 w1 :=
  ⟨hg.os.trans h.os, hg.tape.trans h.tape, hg.output.trans h.output, Nat.le_trans h.size hg.size, fun k hk hn => (hg.block k (Nat.lt_of_lt_of_le hk h.size) (fun e => by have := hr k e.symm; omega)).trans (h.block k hk hn)⟩
theorem Fr.row {N : Nat} {e : TypeId} {xs : List Value} (h : Fr B3 W0 W) (hr : RowAt W0 N e xs) (hne : N ≠ B3) : RowAt W N e xs := ⟨(h.block N hr.lt hne).trans hr.blk⟩
theorem Fr.below {B : Nat} {w : World} (h : Fr B3 W0 W) (hb : Below B w W0) (h3 : B ≤ B3) (hB : B ≤ W0.heap.size) : Below B w W :=
  hb.trans ⟨h.os, h.tape, h.output, h.size, fun k hk => h.block k (by omega) (by omega)⟩
theorem Fr.cell (h : Fr B3 W0 W) {g j : Nat} {v : Value} (hlt : g < W0.heap.size) (hne : g ≠ B3) (hc : W0.cell? ⟨g, j, none⟩ = some v) : W.cell? ⟨g, j, none⟩ = some v :=
  (show W.cell? ⟨g, j, none⟩ = W0.cell? ⟨g, j, none⟩ from World.cell?_of_block (w := W0) (h.block g hlt hne)).trans hc
theorem Fr.ints {g gq : Nat} {xs : List Int} (h : Fr B3 W0 W) (hi : IntRowQ W0 g gq xs) (hne : g ≠ B3) : IntRowQ W g gq xs :=
  ⟨Nat.lt_of_lt_of_le hi.lt h.size, fun i x hx => h.cell hi.lt hne (hi.cell i x hx)⟩
theorem Fr.days {g gq : Nat} {xs : List (Int × Int)} (h : Fr B3 W0 W) (hi : DayRowQ W0 g gq xs) (hne : g ≠ B3) : DayRowQ W g gq xs :=
  ⟨Nat.lt_of_lt_of_le hi.lt h.size, fun i x hx => ⟨h.cell hi.lt hne (hi.cell i x hx).1, h.cell hi.lt hne (hi.cell i x hx).2⟩⟩
theorem Fr.intsX {v : Value} {xs : List Int} (h : Fr B3 W0 W) (hi : IntsX B3 W0 v xs) : IntsX B3 W v xs := by
  rcases hi with hi | ⟨g, gq, c, h1, h2, h3, h4⟩
  · exact .inl hi
  · exact .inr ⟨g, gq, c, h1, h2, h3, h.ints h4 h3⟩
theorem Fr.daysX {v : Value} {xs : List (Int × Int)} (h : Fr B3 W0 W) (hi : DaysX B3 W0 v xs) : DaysX B3 W v xs := by
  rcases hi with hi | ⟨g, gq, c, h1, h2, h3, h4⟩
  · exact .inl hi
  · exact .inr ⟨g, gq, c, h1, h2, h3, h.days h4 h3⟩
end
/-- the rule's row, and what is round it, since the station W0 -/
structure QQ (B3 : Nat) (org : List Value) (fq s : Int) (zs : List Nat) (W0 : World) (rs : List Value) (W : World) : Prop where
  lt : B3 < W0.heap.size
  fr : Fr B3 W0 W
  row : RowAt W B3 150 rs
  len : rs.length = 60
  org : rs.take 19 = org
  fq : rs[38]? = some (.int .i64 fq)
  s39 : rs[39]? = some (.int .i64 s)
  s40 : rs[40]? = some (.int .i64 0)
  zs : ∀ i ∈ zs, rs[i]? = some (.slice none 0 0)
  one : ∀ x ∈ rs, x.oneCell' = true
section
variable {B3 : Nat} {org : List Value} {fq s : Int} {zs : List Nat} {W0 W w1 : World} {rs : List Value}
theorem QQ.at (h : QQ B3 org fq s zs W0 rs W) (i : Nat) (hi : i < 60) : ∃ x, W.cell? ⟨B3, i, none⟩ = some x ∧ W.frozen? ⟨B3, i, none⟩ = false :=
  ⟨_, h.row.cell i (List.getElem?_eq_getElem (show i < rs.length by rw [h.len]; exact hi)), h.row.frozen i⟩
theorem QQ.set (h : QQ B3 org fq s zs W0 rs W) (i : Nat) (hi : 41 ≤ i) (hz : i ∉ zs) (v : Value) (hv : v.oneCell' = true := by rfl) : QQ B3 org fq s zs W0 (rs.set i v) (W.setCell ⟨B3, i, none⟩ v) :=
  ⟨h.lt, h.fr.set i v, h.row.set i v, by rw [List.length_set]; exact h.len, by rw [List.take_set_of_le (by omega)]; exact h.org, by rw [List.getElem?_set_ne (by omega)]; exact h.fq, by rw [List.getElem?_set_ne (by omega)]; exact h.s39, by rw [List.getElem?_set_ne (by omega)]; exact h.s40, fun j hj => by rw [List.getElem?_set_ne (fun e => hz (by rw [e]; exact hj))]; exact h.zs j hj, one_set h.one i hv⟩
theorem QQ.call (h : QQ B3 org fq s zs W0 rs W) (hb : Below W.heap.size W w1) : QQ B3 org fq s zs W0 rs w1 :=
  ⟨h.lt, h.fr.call hb, h.row.below hb, h.len, h.org, h.fq, h.s39, h.s40, h.zs, h.one⟩
theorem QQ.made (h : QQ B3 org fq s zs W0 rs W) (o : Obj) : QQ B3 org fq s zs W0 rs (W.alloc o) := h.call ((Below.refl _ _).alloc (Nat.le_refl _) _)
theorem QQ.drew (h : QQ B3 org fq s zs W0 rs W) : QQ B3 org fq s zs W0 rs W.drew := ⟨h.lt, h.fr.drew, ⟨h.row.blk⟩, h.len, h.org, h.fq, h.s39, h.s40, h.zs, h.one⟩
theorem QQ.far (h : QQ B3 org fq s zs W0 rs W) {S : Nat} (hS : W0.heap.size ≤ S) (i : Nat) (v : Value) : QQ B3 org fq s zs W0 rs (W.setCell ⟨S, i, none⟩ v) :=
  ⟨h.lt, h.fr.far hS i v, h.row.setOther (show B3 ≠ S by have := h.lt; omega) i v, h.len, h.org, h.fq, h.s39, h.s40, h.zs, h.one⟩
theorem QQ.grown {row : Option Nat} (h : QQ B3 org fq s zs W0 rs W) (hg : W.grownBy w1 row) (hr : ∀ k, row = some k → W0.heap.size ≤ k) : QQ B3 org fq s zs W0 rs w1 :=
  ⟨h.lt, h.fr.grown hg hr, ⟨(hg.block B3 h.row.lt (fun e => by have := hr B3 e.symm; have := h.lt; omega)).trans h.row.blk⟩, h.len, h.org, h.fq, h.s39, h.s40, h.zs, h.one⟩
theorem QQ.less {zs' : List Nat} (h : QQ B3 org fq s zs W0 rs W) (hz : ∀ i ∈ zs', i ∈ zs) : QQ B3 org fq s zs' W0 rs W :=
  ⟨h.lt, h.fr, h.row, h.len, h.org, h.fq, h.s39, h.s40, fun i hi => h.zs i (hz i hi), h.one⟩
theorem QQ.get (h : QQ B3 org fq s zs W0 rs W) (i : Nat) (v : Value) (hi : i < 60) : (rs.set i v)[i]? = some v := List.getElem?_set_self (by rw [h.len]; exact hi)
end
structure ST (w : World) (B1 B2 B3 : Nat) (org : List Value) (fq s : Int) (zs : List Nat) (al rs : List Value) (W : World) : Prop where
  a : RowAt W B1 106 al
  z : RowAt W B2 150 rrZ.toList
  hb : Below w.heap.size w W
  q : QQ B3 org fq s zs W rs W
section
variable {w : World} {B1 B2 B3 : Nat} {org : List Value} {fq s : Int} {zs zs' : List Nat} {al rs rs0 : List Value} {W0 W : World}
theorem ST.of (h : ST w B1 B2 B3 org fq s zs al rs0 W0) (d : BD w B1 B2 B3) (k : QQ B3 org fq s zs' W0 rs W) : ST w B1 B2 B3 org fq s zs' al rs W :=
  ⟨k.fr.row h.a d.n13, k.fr.row h.z d.n23, k.fr.below h.hb d.g3 h.hb.size, ⟨k.row.lt, Fr.refl _ _, k.row, k.len, k.org, k.fq, k.s39, k.s40, k.zs, k.one⟩⟩
theorem SS.toST (h : SS w B1 B2 B3 org fq al rs W) (h39 : rs[39]? = some (.int .i64 s)) (h40 : rs[40]? = some (.int .i64 0)) : ST w B1 B2 B3 org fq s [48, 49, 52, 53] al rs W :=
  ⟨h.a, h.z, h.hb, ⟨h.r.row.lt, Fr.refl _ _, h.r.row, h.r.len, h.r.org, h.r.fq, h39, h40, fun i hi => by
    have e : ∀ j, rs[48 + j]? = (rrZ.toList.drop 48)[j]? := fun j => by rw [← h.r.dz, List.getElem?_drop]
    simp only [List.mem_cons, List.not_mem_nil, or_false] at hi
    rcases hi with rfl | rfl | rfl | rfl
    · exact e 0
    · exact e 1
    · exact e 4
    · exact e 5, h.r.one⟩⟩
end
/-- two lists that the rule owns, in its cells p and q, of at most m elements -/
def TwoL (p q : Nat) (e1 e2 : TypeId) (s1 s2 base m : Nat) (rs : List Value) (W : World) : Prop :=
  ∃ v1 n1 xs1 v2 n2 xs2, rs[p]? = some v1 ∧ rs[q]? = some v2 ∧ n1 ≤ m ∧ n2 ≤ m ∧ W.ownsRow base e1 s1 v1 n1 xs1 ∧ W.ownsRow base e2 s2 v2 n2 xs2 ∧ ∀ g, v1.ownBlock = some g → v2.ownBlock ≠ some g
theorem TwoL.start {p q : Nat} {e1 e2 : TypeId} {s1 s2 base : Nat} {rs : List Value} {W : World} (hp : rs[p]? = some (.slice none 0 0)) (hq : rs[q]? = some (.slice none 0 0)) : TwoL p q e1 e2 s1 s2 base 0 rs W :=
  ⟨_, 0, [], _, 0, [], hp, hq, Nat.le_refl _, Nat.le_refl _, ⟨by rw [Nat.zero_mul]; rfl, .inl ⟨rfl, rfl⟩⟩, ⟨by rw [Nat.zero_mul]; rfl, .inl ⟨rfl, rfl⟩⟩, fun g h => by cases h⟩
theorem TwoL.more {p q : Nat} {e1 e2 : TypeId} {s1 s2 base m m' : Nat} {rs : List Value} {W : World} (h : TwoL p q e1 e2 s1 s2 base m rs W) (hm : m ≤ m') : TwoL p q e1 e2 s1 s2 base m' rs W := by
  obtain ⟨v1, n1, xs1, v2, n2, xs2, h1, h2, h3, h4, h5⟩ := h
  exact ⟨v1, n1, xs1, v2, n2, xs2, h1, h2, Nat.le_trans h3 hm, Nat.le_trans h4 hm, h5⟩
theorem TwoL.call {p q : Nat} {e1 e2 : TypeId} {s1 s2 base m : Nat} {rs : List Value} {W w1 : World} (h : TwoL p q e1 e2 s1 s2 base m rs W) (hb : Below W.heap.size W w1) : TwoL p q e1 e2 s1 s2 base m rs w1 := by
  obtain ⟨v1, n1, xs1, v2, n2, xs2, h1, h2, h3, h4, h5, h6, h7⟩ := h
  exact ⟨v1, n1, xs1, v2, n2, xs2, h1, h2, h3, h4, Lk.own_below h5 hb, Lk.own_below h6 hb, h7⟩
theorem TwoL.fst {p q : Nat} {e1 e2 : TypeId} {s1 s2 base m n1 n2 g c B3 : Nat} {rs xs2 ys : List Value} {v2 : Value} {w1 : World} (hlen : rs.length = 60) (hp : p < 60) (hpq : p ≠ q) (hq : rs[q]? = some v2) (hn1 : n1 ≤ m) (hn2 : n2 ≤ m)
    (ho1 : w1.ownsRow base e1 s1 (.slice (some ⟨g, 0, none⟩) (n1 + 1) c) (n1 + 1) ys) (ho2 : w1.ownsRow base e2 s2 v2 n2 xs2) (hB : B3 < base) (hd : v2.ownBlock ≠ some g) :
    TwoL p q e1 e2 s1 s2 base (m + 1) (rs.set p (.slice (some ⟨g, 0, none⟩) (n1 + 1) c)) (w1.setCell ⟨B3, p, none⟩ (.slice (some ⟨g, 0, none⟩) (n1 + 1) c)) :=
  ⟨_, n1 + 1, ys, v2, n2, xs2, List.getElem?_set_self (by omega), by rw [List.getElem?_set_ne hpq]; exact hq, by omega, by omega, ownsRow_setCell_below ho1 hB _, ownsRow_setCell_below ho2 hB _, fun g' h => by
    have : g = g' := by simpa [Value.ownBlock] using h
    exact this ▸ hd⟩
theorem TwoL.snd {p q : Nat} {e1 e2 : TypeId} {s1 s2 base m n1 n2 g c B3 : Nat} {rs xs1 ys : List Value} {v1 : Value} {w1 : World} (hlen : rs.length = 60) (hq : q < 60) (hpq : q ≠ p) (hp : rs[p]? = some v1) (hn1 : n1 ≤ m) (hn2 : n2 ≤ m)
    (ho2 : w1.ownsRow base e2 s2 (.slice (some ⟨g, 0, none⟩) (n2 + 1) c) (n2 + 1) ys) (ho1 : w1.ownsRow base e1 s1 v1 n1 xs1) (hB : B3 < base) (hd : v1.ownBlock ≠ some g) :
    TwoL p q e1 e2 s1 s2 base (m + 1) (rs.set q (.slice (some ⟨g, 0, none⟩) (n2 + 1) c)) (w1.setCell ⟨B3, q, none⟩ (.slice (some ⟨g, 0, none⟩) (n2 + 1) c)) :=
  ⟨v1, n1, xs1, _, n2 + 1, ys, by rw [List.getElem?_set_ne hpq]; exact hp, List.getElem?_set_self (by omega), by omega, by omega, ownsRow_setCell_below ho1 hB _, ownsRow_setCell_below ho2 hB _, fun g' h e => by
    have : g = g' := by simpa [Value.ownBlock] using e
    exact hd (this ▸ h)⟩
/-- an append, of a literal that was made just now, to a list that the call owns -/
theorem appQ {ops : Array Oper} {rest : List Oper} {o : Oper} {a : Act} {Q : Exit → Act → World → Prop} {W : World} {base sz bytes : Nat} {e : TypeId} {news : List Value}
    (s z : Operand) (t : TypeId) (zv : Value) (ht : Tryz.prog.underlying t = some (.slice e))
    (hinfo : (Tryz.prog.info? e).map (fun i => (i.zero, i.size, i.bytes)) = some (some zv, sz, bytes)) (hz : zv.cells.size = sz) (hsz : 0 < sz)
    {v : Value} {n : Nat} {xs : List Value} (HO : W.ownsRow base e sz v n xs) (hbase : base ≤ W.heap.size) (hlen : n ≤ 1000000000000) (hb : bytes ≤ 100)
    (hl : news.length = sz) (h1 : ∀ u ∈ news, u.oneCell' = true)
    (hgd : o.guard = none) (ho : o.op = .call { callee := .builtin .append, args := #[s, z], argTypes := #[t, t] })
    (hs : a.eval s = v) {H : Nat} (hx : a.eval z = .slice (some ⟨H, 0, none⟩) 1 1) (hH : W.heap.size = H)
    (h : ∀ g c w1, w1.ownsRow base e sz (.slice (some ⟨g, 0, none⟩) (n + 1) c) (n + 1) (xs ++ news) → W.grownBy w1 v.ownBlock → (v.ownBlock = some g ∨ W.heap.size ≤ g) → wpList Tryz.prog ops Q rest (a.put o.dst (.slice (some ⟨g, 0, none⟩) (n + 1) c)) w1) :
    wpList Tryz.prog ops Q (o :: rest) a (W.alloc (.cells news.toArray e)) := by
  subst hH
  obtain ⟨i0, hi, hz0, hz1, hz2⟩ := info_parts hinfo
  have hbb : (n + 1) * bytes ≤ 140737488355328 := Nat.le_trans (Nat.mul_le_mul (show n + 1 ≤ 1000000000001 by omega) hb) (by omega)
  refine wpList_append_lies (W.alloc (.cells news.toArray e)) hgd s z t ho base e i0 zv sz bytes ht hi hz0 hz1 hz2 hz hsz v n xs hs (HO.alloc _) ⟨W.heap.size, 0, none⟩ 1 1 news hx (by rw [hl, Nat.one_mul])
    (World.news_of_block (cs := news.toArray) (t := e) (fr := (0, 0)) (heap_alloc_new _ _)) h1 (by omega) (by simp only [maxLen]; omega) hbb (by simp; omega) _ rfl (fun g c w1 k1 k2 k3 _ => h g c w1 k1 ?_ ?_)
  · exact ⟨k2.os, k2.tape, k2.output, Nat.le_trans (by simp) k2.size, fun k hk hn => (k2.block k (by simp; omega) hn).trans (Below.heap_alloc W _ k hk)⟩
  · rcases k3 with k3 | k3
    · exact .inl k3
    · exact .inr (by rw [k3]; simp)
theorem own_apart {v1 v2 : Value} (hd : ∀ g, v1.ownBlock = some g → v2.ownBlock ≠ some g) : v2.ownBlock = none ∨ v2.ownBlock ≠ v1.ownBlock := by
  cases h : v2.ownBlock with
  | none => exact .inl rfl
  | some g => exact .inr (fun e => hd g e.symm h)
theorem own_apart2 {W : World} {base n2 g sz : Nat} {e : TypeId} {xs2 : List Value} {v1 v2 : Value} (hd : ∀ g, v1.ownBlock = some g → v2.ownBlock ≠ some g) (o2 : W.ownsRow base e sz v2 n2 xs2) (hl : v1.ownBlock = some g ∨ W.heap.size ≤ g) : v2.ownBlock ≠ some g := by
  rcases hl with hl | hl
  · exact hd g hl
  · intro h
    have := (o2.lt g h).2
    omega
/-- a fresh list of one number, in cell i -/
theorem QQ.freshL {B3 : Nat} {org : List Value} {fq s : Int} {zs : List Nat} {W0 W : World} {rs : List Value} (h : QQ B3 org fq s zs W0 rs W) (i : Nat) (hi : 41 ≤ i) (hz : i ∉ zs) (z : Int) :
    QQ B3 org fq s zs W0 (rs.set i (.slice (some ⟨W.heap.size, 0, none⟩) 1 1)) ((W.setCell ⟨B3, i, none⟩ (.slice (some ⟨W.heap.size, 0, none⟩) 1 1)).alloc (.cells #[.int .i64 z] 3)) ∧
    IntsX B3 ((W.setCell ⟨B3, i, none⟩ (.slice (some ⟨W.heap.size, 0, none⟩) 1 1)).alloc (.cells #[.int .i64 z] 3)) (.slice (some ⟨W.heap.size, 0, none⟩) 1 1) [z] :=
  ⟨(h.set i hi hz _).made _, IntsX.one (madeRow W B3 i _ #[.int .i64 z] 3) (Nat.ne_of_gt h.row.lt)⟩
/-- a list of numbers for the set of times: of at most 1000 numbers between 0 and 59 -/
structure Tl (B3 : Nat) (W : World) (v : Value) (xs : List Int) : Prop where
  x : IntsX B3 W v xs
  len : xs.length ≤ 1000
  rng : ∀ z ∈ xs, 0 ≤ z ∧ z ≤ 59
theorem Tl.fr {B3 : Nat} {W0 W : World} {v : Value} {xs : List Int} (h : Tl B3 W0 v xs) (f : Fr B3 W0 W) : Tl B3 W v xs := ⟨f.intsX h.x, h.len, h.rng⟩
theorem Tl.one {B3 : Nat} {W : World} {v : Value} {z : Int} (h : IntsX B3 W v [z]) (hz : 0 ≤ z ∧ z ≤ 59) : Tl B3 W v [z] := ⟨h, by show (1 : Nat) ≤ 1000; decide, fun x hx => by
  rw [List.mem_singleton] at hx
  rw [hx]
  exact hz⟩
theorem win_in {hi : Int} {xs : List Int} (h : xs.all (winB 0 hi false) = true) (h59 : hi ≤ 59) : ∀ z ∈ xs, 0 ≤ z ∧ z ≤ 59 := fun z hz => by
  have := List.all_eq_true.1 h z hz
  unfold winB at this
  simp at this
  omega
theorem bnd_at {o : Opt} (h : boundsB o = true) (k : Nat) (hk : k < 8) : bndB o k = true := by
  unfold boundsB at h
  rw [Bool.and_eq_true] at h
  exact List.all_eq_true.1 h.1 k (List.mem_range.2 hk)
theorem set_same {rs : List Value} {i : Nat} {v : Value} (h : rs[i]? = some v) : rs.set i v = rs := by
  obtain ⟨hi, e⟩ := List.getElem?_eq_some_iff.1 h
  rw [← e, List.set_getElem_self]
theorem setsL_length (vs : List Value) : ∀ (xs : List Value) (o : Nat), (setsL xs o vs).length = xs.length := by
  induction vs with
  | nil => intro xs o; rfl
  | cons v r ih => intro xs o; exact (ih _ _).trans (List.length_set ..)
theorem setsL_take (vs : List Value) (m : Nat) : ∀ (xs : List Value) (o : Nat), m ≤ o → (setsL xs o vs).take m = xs.take m := by
  induction vs with
  | nil => intro xs o _; rfl
  | cons v r ih => intro xs o h; exact (ih _ _ (by omega)).trans (List.take_set_of_le h)
theorem setsL_one (vs : List Value) (hv : ∀ x ∈ vs, x.oneCell' = true) : ∀ (xs : List Value) (o : Nat), (∀ x ∈ xs, x.oneCell' = true) → ∀ x ∈ setsL xs o vs, x.oneCell' = true := by
  induction vs with
  | nil => intro xs o h; exact h
  | cons v r ih => intro xs o h; exact ih (fun x hx => hv x (List.mem_cons_of_mem _ hx)) _ _ (one_set h o (hv v (List.mem_cons_self ..)))
theorem RowAt.thereAt {W : World} {N : Nat} {e : TypeId} {xs : List Value} (h : RowAt W N e xs) (o n : Nat) (hn : o + n ≤ xs.length) : W.there N o n := fun j hj =>
  ⟨by rw [h.cell (o + j) (List.getElem?_eq_getElem (show o + j < xs.length by omega))]; rfl, h.frozen (o + j)⟩
end Go.Proofs.YtcfbkkcamiephaaGreatDoor
namespace Go.Proofs.YtcfbkkcamiephaaGreatDoor
open Go.RowKit

/-! ### buildRRule's set of times: the region that appends to it, and the loops' relation -/
theorem IntsX.form {N : Nat} {W : World} {v : Value} {xs : List Int} (h : IntsX N W v xs) : ∃ a c, v = .slice a xs.length c ∧ ∀ i, i < xs.length → ∃ g gq, a = some ⟨g, gq, none⟩ ∧ g ≠ N ∧ IntRowQ W g gq xs := by
  rcases h with ⟨rfl, rfl⟩ | ⟨g, gq, c, rfl, _, h2, h3⟩
  · exact ⟨none, 0, rfl, fun i hi => by simp at hi⟩
  · exact ⟨_, c, rfl, fun i _ => ⟨g, gq, rfl, h2, h3⟩⟩
theorem DaysX.form {N : Nat} {W : World} {v : Value} {xs : List (Int × Int)} (h : DaysX N W v xs) : ∃ a c, v = .slice a xs.length c ∧ ∀ i, i < xs.length → ∃ g gq, a = some ⟨g, gq, none⟩ ∧ g ≠ N ∧ DayRowQ W g gq xs := by
  rcases h with ⟨rfl, rfl⟩ | ⟨g, gq, c, rfl, _, h2, h3⟩
  · exact ⟨none, 0, rfl, fun i hi => by simp at hi⟩
  · exact ⟨_, c, rfl, fun i _ => ⟨g, gq, rfl, h2, h3⟩⟩
/-- operations: 1 the load of the list, 6 the start, 7 and 8 the calls, 9 the literal, 10 the append, 12 the store -/
structure K72 (B3 : Nat) (org : List Value) (fq s : Int) (W0 : World) (rs : List Value) (x : Value) (n : Nat) (xs : List Value) (t : Int) (b : Nat × Value) (listed : Array Bool) (W : World) : Prop where
  d10 : listed[10]? = some true → listed[9]? = some true ∧ listed[1]? = some true
  d12 : listed[12]? = some true → listed[10]? = some true
  q0 : listed[12]? ≠ some true → QQ B3 org fq s [] W0 rs W
  q1 : listed[12]? = some true → QQ B3 org fq s [] W0 (rs.set 58 b.2) W
  own0 : listed[10]? ≠ some true → W.ownsRow W0.heap.size 101 2 x n xs
  lit : listed[9]? = some true → listed[10]? ≠ some true → W0.heap.size ≤ b.1 ∧ W.heap[b.1]? = some (.cells #[.int .i64 t, .int .i64 0] 101 (0, 0)) ∧ x.ownBlock ≠ some b.1
  own1 : listed[10]? = some true → W.ownsRow W0.heap.size 101 2 b.2 (n + 1) (xs ++ [.int .i64 t, .int .i64 0])
section
variable {B3 : Nat} {org : List Value} {fq s : Int} {W0 : World} {rs : List Value} {x : Value} {n : Nat} {xs : List Value} {t : Int} {b : Nat × Value} {listed : Array Bool} {W w1 : World}
theorem lt_blk {W : World} {k : Nat} {o : Obj} (h : W.heap[k]? = some o) : k < W.heap.size := (Array.getElem?_eq_some_iff.1 h).1
theorem K72.start (m : Nat) (q : QQ B3 org fq s [] W0 rs W) (ho : W.ownsRow W0.heap.size 101 2 x n xs) : K72 B3 org fq s W0 rs x n xs t b (Array.replicate m false) W :=
  ⟨fun e => absurd e (none_listed m _), fun e => absurd e (none_listed m _), fun _ => q, fun e => absurd e (none_listed m _), fun _ => ho, fun e => absurd e (none_listed m _), fun e => absurd e (none_listed m _)⟩
theorem K72.call (h : K72 B3 org fq s W0 rs x n xs t b listed W) (hb : Below W.heap.size W w1) : K72 B3 org fq s W0 rs x n xs t b listed w1 :=
  ⟨h.d10, h.d12, fun e => (h.q0 e).call hb, fun e => (h.q1 e).call hb, fun e => Lk.own_below (h.own0 e) hb, fun a c => ⟨(h.lit a c).1, (hb.block _ (lt_blk (h.lit a c).2.1)).trans (h.lit a c).2.1, (h.lit a c).2.2⟩, fun e => Lk.own_below (h.own1 e) hb⟩
theorem K72.other (h : K72 B3 org fq s W0 rs x n xs t b listed W) {i : Nat} (h9 : i ≠ 9) (h10 : i ≠ 10) (h12 : i ≠ 12) : K72 B3 org fq s W0 rs x n xs t b (listed.setIfInBounds i true) W := by
  have e9 := ne_get (listed := listed) h9
  have e10 := ne_get (listed := listed) h10
  have e12 := ne_get (listed := listed) h12
  exact ⟨by rw [e10, e9]; exact fun e => ⟨(h.d10 e).1, set_true (h.d10 e).2⟩, by rw [e12, e10]; exact h.d12, by rw [e12]; exact h.q0, by rw [e12]; exact h.q1, by rw [e10]; exact h.own0, by rw [e9, e10]; exact h.lit, by rw [e10]; exact h.own1⟩
theorem K72.n12 (h : K72 B3 org fq s W0 rs x n xs t b listed W) (h10 : listed[10]? ≠ some true) : listed[12]? ≠ some true := fun e => h10 (h.d12 e)
theorem K72.made9 (h : K72 B3 org fq s W0 rs x n xs t b listed W) (hf : listed[9]? = some false) : K72 B3 org fq s W0 rs x n xs t (W.heap.size, b.2) (listed.setIfInBounds 9 true) (W.alloc (.cells #[.int .i64 t, .int .i64 0] 101)) := by
  have k := h.call (w1 := W.alloc (.cells #[.int .i64 t, .int .i64 0] 101)) ((Below.refl _ _).alloc (Nat.le_refl _) _)
  have e10 := ne_get (listed := listed) (show (9 : Nat) ≠ 10 by decide)
  have e12 := ne_get (listed := listed) (show (9 : Nat) ≠ 12 by decide)
  have n10 : listed[10]? ≠ some true := fun e => by have := (h.d10 e).1; rw [hf] at this; cases this
  refine ⟨by rw [e10]; exact fun e => absurd e n10, by rw [e12, e10]; exact h.d12, by rw [e12]; exact k.q0, by rw [e12]; exact fun e => absurd e (h.n12 n10), by rw [e10]; exact k.own0, fun _ _ => ⟨(h.q0 (h.n12 n10)).fr.size, heap_alloc_new _ _, fun e => ?_⟩, by rw [e10]; exact fun e => absurd e n10⟩
  have := (h.own0 n10).lt _ e
  exact Nat.lt_irrefl _ this.2
theorem K72.app10 (h : K72 B3 org fq s W0 rs x n xs t b listed W) (h9 : listed[9]? = some true) (h1 : listed[1]? = some true) (hf : listed[10]? = some false) {v : Value}
    (ho : w1.ownsRow W0.heap.size 101 2 v (n + 1) (xs ++ [.int .i64 t, .int .i64 0])) (hg : W.grownBy w1 x.ownBlock) : K72 B3 org fq s W0 rs x n xs t (b.1, v) (listed.setIfInBounds 10 true) w1 := by
  have n10 : listed[10]? ≠ some true := by rw [hf]; simp
  have e9 := ne_get (listed := listed) (show (10 : Nat) ≠ 9 by decide)
  have e1 := ne_get (listed := listed) (show (10 : Nat) ≠ 1 by decide)
  have e12 := ne_get (listed := listed) (show (10 : Nat) ≠ 12 by decide)
  have e10 := set_self2 hf
  have o0 := h.own0 n10
  exact ⟨fun _ => by rw [e9, e1]; exact ⟨h9, h1⟩, by rw [e12]; exact fun e => absurd e (h.n12 n10), by rw [e12]; exact fun e => (h.q0 e).grown hg (fun k hk => (o0.lt k hk).1), by rw [e12]; exact fun e => absurd e (h.n12 n10), fun e => absurd e10 e, fun _ e => absurd e10 e, fun _ => ho⟩
theorem K72.store12 (h : K72 B3 org fq s W0 rs x n xs t b listed W) (h10 : listed[10]? = some true) (hf : listed[12]? = some false) : K72 B3 org fq s W0 rs x n xs t b (listed.setIfInBounds 12 true) (W.setCell ⟨B3, 58, none⟩ b.2) := by
  have n12 : listed[12]? ≠ some true := by rw [hf]; simp
  have e9 := ne_get (listed := listed) (show (12 : Nat) ≠ 9 by decide)
  have e1 := ne_get (listed := listed) (show (12 : Nat) ≠ 1 by decide)
  have e10 := ne_get (listed := listed) (show (12 : Nat) ≠ 10 by decide)
  have e12 := set_self2 hf
  have o1 := h.own1 h10
  have q := h.q0 n12
  obtain ⟨g, c, hv, _⟩ := o1.form (by omega)
  exact ⟨by rw [e10, e9, e1]; exact h.d10, fun _ => by rw [e10]; exact h10, fun e => absurd e12 e, fun _ => q.set 58 (by omega) (by simp) _ (by rw [hv]; rfl), by rw [e10]; exact fun e => absurd h10 e, by rw [e10]; exact fun _ e => absurd h10 e, fun _ => ownsRow_setCell_below o1 q.lt _⟩
theorem K72.c39 (h : K72 B3 org fq s W0 rs x n xs t b listed W) : W.cell? ⟨B3, 39, none⟩ = some (.int .i64 s) ∧ W.cell? ⟨B3, 40, none⟩ = some (.int .i64 0) := by
  by_cases e : listed[12]? = some true
  · exact ⟨(h.q1 e).row.cell 39 (h.q1 e).s39, (h.q1 e).row.cell 40 (h.q1 e).s40⟩
  · exact ⟨(h.q0 e).row.cell 39 (h.q0 e).s39, (h.q0 e).row.cell 40 (h.q0 e).s40⟩
theorem K72.c58 (h : K72 B3 org fq s W0 rs x n xs t b listed W) (e : listed[12]? ≠ some true) {v : Value} (hv : rs[58]? = some v) : W.cell? ⟨B3, 58, none⟩ = some v ∧ W.frozen? ⟨B3, 58, none⟩ = false :=
  ⟨(h.q0 e).row.cell 58 hv, (h.q0 e).row.frozen 58⟩
theorem K72.n1 (h : K72 B3 org fq s W0 rs x n xs t b listed W) (hf : listed[1]? = some false) : listed[12]? ≠ some true := h.n12 (fun e => by have := (h.d10 e).2; rw [hf] at this; cases this)
end
/-- the append -/
theorem step_k10 {B3 : Nat} {org : List Value} {fq s : Int} {W0 : World} {rs : List Value} {x : Value} {n : Nat} {xs : List Value} {t : Int} {b : Nat × Value} {listed : Array Bool} {W : World} {o : Oper} {a : Act} {K : Act → World → Prop} {Q : Exit → Act → World → Prop}
    (u z : Operand) (hB : K72 B3 org fq s W0 rs x n xs t b listed W) (h9 : listed[9]? = some true) (h1 : listed[1]? = some true) (hf : listed[10]? = some false) (hn : n ≤ 1000000000000)
    (ho : o.op = .call { callee := .builtin .append, args := #[u, z], argTypes := #[125, 125] }) (hs : a.eval u = x) (hx : a.eval z = .slice (some ⟨b.1, 0, none⟩) 1 1)
    (h : ∀ v1 w2, K72 B3 org fq s W0 rs x n xs t (b.1, v1) (listed.setIfInBounds 10 true) w2 → K (a.put o.dst v1) w2) : o.wp Tryz.prog a W K Q := by
  obtain ⟨i0, hi, hz0, hz1, hz2⟩ := info_parts Tryz.t101
  have n10 : listed[10]? ≠ some true := by rw [hf]; simp
  obtain ⟨l1, l2, _⟩ := hB.lit h9 n10
  exact wp_append_lies W u z 125 ho W0.heap.size 101 i0 _ 2 16 Tryz.v125 hi hz0 hz1 hz2 rfl (by omega) x n xs hs (hB.own0 n10) ⟨b.1, 0, none⟩ 1 1 [.int .i64 t, .int .i64 0] hx rfl (World.news_of_block (cs := #[.int .i64 t, .int .i64 0]) (t := 101) (fr := (0, 0)) l2) (by simp [Value.oneCell']) (by omega) (by simp only [maxLen]; omega) (by omega) (hB.q0 (hB.n12 n10)).fr.size _ rfl (fun g1 c1 w2 k1 k2 _ _ => h _ _ (hB.app10 h9 h1 hf k1 k2))
/-- the set of times so far -/
def TM (B3 : Nat) (org : List Value) (fq s : Int) (W0 : World) (rs : List Value) (m : Nat) (W : World) : Prop :=
  ∃ (a : Option Addr) (c : Nat) (ds : List (Int × Int)), QQ B3 org fq s [] W0 (rs.set 58 (.slice a ds.length c)) W ∧ W.ownsRow W0.heap.size 101 2 (.slice a ds.length c) ds.length (flat2 ds) ∧ ds.length ≤ m
theorem TM.more {B3 : Nat} {org : List Value} {fq s : Int} {W0 : World} {rs : List Value} {m m' : Nat} {W : World} (h : TM B3 org fq s W0 rs m W) (hm : m ≤ m') : TM B3 org fq s W0 rs m' W := by
  obtain ⟨a, c, ds, h1, h2, h3⟩ := h
  exact ⟨a, c, ds, h1, h2, Nat.le_trans h3 hm⟩
/-- behind the region -/
theorem TM.next {B3 : Nat} {org : List Value} {fq s : Int} {W0 : World} {rs : List Value} {m : Nat} {W : World} {a : Option Addr} {c : Nat} {ds : List (Int × Int)} {t : Int} {b : Nat × Value} {listed : Array Bool}
    (hK : K72 B3 org fq s W0 (rs.set 58 (.slice a ds.length c)) (.slice a ds.length c) ds.length (flat2 ds) t b listed W) (hall : ∀ i, i < 13 → listed[i]? = some true) (hm : ds.length ≤ m) : TM B3 org fq s W0 rs (m + 1) W := by
  have q := hK.q1 (hall 12 (by decide))
  have o := hK.own1 (hall 10 (by decide))
  obtain ⟨g, cap, hv, _⟩ := o.form (by omega)
  rw [List.set_set, hv] at q
  rw [hv] at o
  have e : flat2 ds ++ [.int .i64 t, .int .i64 0] = flat2 (ds ++ [(t, 0)]) := by unfold flat2; rw [List.flatMap_append]; rfl
  have el : ds.length + 1 = (ds ++ [(t, 0)]).length := by rw [List.length_append]; rfl
  rw [el] at q o
  rw [e] at o
  exact ⟨_, cap, ds ++ [(t, 0)], q, o, by rw [← el]; omega⟩
end Go.Proofs.YtcfbkkcamiephaaGreatDoor
namespace Go.Proofs.YtcfbkkcamiephaaGreatDoor
open Go.RowKit Go.Lib

/-! ### sort.Sort over the set of times -/
set_option maxRecDepth 100000 in
theorem tsLen_any (a : Option Addr) (n c : Nat) (w : World) : Calls Tryz.prog 245 #[.slice a n c] w fun e w' => e = .returned (.int .i64 n) ∧ Below w.heap.size w w' := by
  go_enter Tryz.func245, Tryz.ntmps245
  go_wp2
  go_ret
  exact ⟨rfl, Below.refl _ _⟩
set_option maxRecDepth 100000 in
theorem before_any (s1 n1 s2 n2 : Int) (w : World) : Calls Tryz.prog 248 #[.agg #[.int .i64 s1, .int .i64 n1], .agg #[.int .i64 s2, .int .i64 n2]] w fun e w' => (∃ b, e = .returned (.bool b)) ∧ Below w.heap.size w w' := by
  obtain ⟨q1, hq1⟩ : ∃ q, decide (s1 < s2) = q := ⟨_, rfl⟩
  obtain ⟨q2, hq2⟩ : ∃ q, (s1 == s2) = q := ⟨_, rfl⟩
  have hcase : q1 = true ∨ (q1 = false ∧ (q2 = true ∨ q2 = false)) := by cases q1 <;> cases q2 <;> simp
  rcases hcase with rfl | ⟨rfl, rfl | rfl⟩
  all_goals
    go_enter Tryz.func248, Tryz.ntmps248
    go_wp2
    go_ret
    refine ⟨⟨_, rfl⟩, ?_⟩
    repeat (first | exact Below.refl _ _ | refine Below.alloc ?_ (by simp) _)
/-- a block that holds n moments -/
def TimeRow (W : World) (G n : Nat) : Prop := ∃ xs, RowAt W G 101 xs ∧ ∀ i, i < n → ∃ a b, xs[i * 2]? = some (.int .i64 a) ∧ xs[i * 2 + 1]? = some (.int .i64 b)
theorem TimeRow.below {W w1 : World} {G n : Nat} (h : TimeRow W G n) (hb : Below W.heap.size W w1) : TimeRow w1 G n := by
  obtain ⟨xs, h1, h2⟩ := h
  exact ⟨xs, h1.below hb, h2⟩
theorem TimeRow.other {W : World} {G n S : Nat} (h : TimeRow W G n) (hne : G ≠ S) (i : Nat) (v : Value) : TimeRow (W.setCell ⟨S, i, none⟩ v) G n := by
  obtain ⟨xs, h1, h2⟩ := h
  exact ⟨xs, h1.setOther hne i v, h2⟩
theorem set_int {xs : List Value} (k j : Nat) (z : Int) (h : ∃ a, xs[j]? = some (.int .i64 a)) : ∃ a, (xs.set k (.int .i64 z))[j]? = some (.int .i64 a) := by
  obtain ⟨a, ha⟩ := h
  by_cases e : k = j
  · subst e
    exact ⟨z, List.getElem?_set_self (List.getElem?_eq_some_iff.1 ha).1⟩
  · exact ⟨a, by rw [List.getElem?_set_ne e]; exact ha⟩
theorem TimeRow.set {W : World} {G n : Nat} (h : TimeRow W G n) (k : Nat) (z : Int) : TimeRow (W.setCell ⟨G, k, none⟩ (.int .i64 z)) G n := by
  obtain ⟨xs, h1, h2⟩ := h
  refine ⟨_, h1.set k (.int .i64 z), fun i hi => ?_⟩
  obtain ⟨a, b, ha, hb⟩ := h2 i hi
  obtain ⟨a', ha'⟩ := set_int k (i * 2) z ⟨a, ha⟩
  obtain ⟨b', hb'⟩ := set_int k (i * 2 + 1) z ⟨b, hb⟩
  exact ⟨a', b', ha', hb'⟩
theorem TimeRow.at {W : World} {G n : Nat} (h : TimeRow W G n) (i : Nat) (hi : i < n) : ∃ a b, W.cell? ⟨G, i * 2, none⟩ = some (.int .i64 a) ∧ W.cell? ⟨G, i * 2 + 1, none⟩ = some (.int .i64 b) ∧ W.frozen? ⟨G, i * 2, none⟩ = false ∧ W.frozen? ⟨G, i * 2 + 1, none⟩ = false := by
  obtain ⟨xs, h1, h2⟩ := h
  obtain ⟨a, b, ha, hb⟩ := h2 i hi
  exact ⟨a, b, h1.cell _ ha, h1.cell _ hb, h1.frozen _, h1.frozen _⟩
theorem TimeRow.lt {W : World} {G n : Nat} (h : TimeRow W G n) : G < W.heap.size := by
  obtain ⟨xs, h1, _⟩ := h
  exact h1.lt
set_option maxRecDepth 100000 in
set_option maxHeartbeats 2000000 in
theorem tsLess_any (G n c : Nat) (i j : Nat) (w : World) (h : TimeRow w G n) (hi : i < n) (hj : j < n) (_hn : n < 1000000000000) :
    Calls Tryz.prog 246 #[.slice (some ⟨G, 0, none⟩) n c, .int .i64 i, .int .i64 j] w fun e w' => (∃ b, e = .returned (.bool b)) ∧ Below w.heap.size w w' := by
  obtain ⟨a1, b1, c1, d1, _, _⟩ := h.at i hi
  obtain ⟨a2, b2, c2, d2, _, _⟩ := h.at j hj
  have H := Lib.hid (fun w => before_any a1 b1 a2 b2 w)
  clear h
  go_enter Tryz.func246, Tryz.ntmps246
  go_wp2
  go_region_with (go_at_call 248; go_must (refine (H.out _).mono ?_; rintro e w1 ⟨⟨b, rfl⟩, hb1⟩))
  all_goals
    go_wp2
    go_ret
    exact ⟨⟨_, rfl⟩, (Below.refl _ _).drew.trans hb1⟩
set_option maxRecDepth 100000 in
set_option maxHeartbeats 2000000 in
theorem tsSwap_any (G n c : Nat) (i j : Nat) (w : World) (h : TimeRow w G n) (hi : i < n) (hj : j < n) (_hn : n < 1000000000000) (R : World → Prop) (hR : R w) (hd : ∀ W, R W → R W.drew) (hs : ∀ W k z, R W → R (W.setCell ⟨G, k, none⟩ (.int .i64 z))) :
    Calls Tryz.prog 247 #[.slice (some ⟨G, 0, none⟩) n c, .int .i64 i, .int .i64 j] w fun e w' => e = .returned (.tuple #[]) ∧ R w' := by
  have HR := Lib.hid hR
  have HD := Lib.hid hd
  have HS := Lib.hid hs
  clear hR hd hs
  by_cases hij : i = j
  · subst hij
    obtain ⟨a1, b1, c1, d1, e1, f1⟩ := h.at i hi
    clear h
    go_enter Tryz.func247, Tryz.ntmps247
    go_region
    all_goals
      go_wp2
      go_end0
      refine ⟨rfl, ?_⟩
      repeat (first | exact HR.out | refine HS.out _ _ _ ?_ | refine HD.out _ ?_)
  · obtain ⟨a1, b1, c1, d1, e1, f1⟩ := h.at i hi
    obtain ⟨a2, b2, c2, d2, e2, f2⟩ := h.at j hj
    clear h
    have n1 : ¬ i * 2 = j * 2 := by omega
    have n2 : ¬ i * 2 = j * 2 + 1 := by omega
    have n3 : ¬ i * 2 + 1 = j * 2 := by omega
    have n4 : ¬ i * 2 + 1 = j * 2 + 1 := by omega
    have n5 : ¬ j * 2 = i * 2 := by omega
    have n6 : ¬ j * 2 = i * 2 + 1 := by omega
    have n7 : ¬ j * 2 + 1 = i * 2 := by omega
    have n8 : ¬ j * 2 + 1 = i * 2 + 1 := by omega
    go_enter Tryz.func247, Tryz.ntmps247
    go_region
    all_goals
      go_wp2
      go_end0
      refine ⟨rfl, ?_⟩
      repeat (first | exact HR.out | refine HS.out _ _ _ ?_ | refine HD.out _ ?_)
/-- the world's form while the set of times is sorted -/
def TJ (B3 : Nat) (org : List Value) (fq s : Int) (W0 : World) (rs : List Value) (G n b0 : Nat) (W : World) : Prop :=
  QQ B3 org fq s [] W0 rs W ∧ b0 ≤ W.heap.size ∧ G < W.heap.size ∧ (n = 0 ∨ (W0.heap.size ≤ G ∧ TimeRow W G n))
theorem own_time {W : World} {base : Nat} {a : Option Addr} {c : Nat} {ds : List (Int × Int)} (h : W.ownsRow base 101 2 (.slice a ds.length c) ds.length (flat2 ds)) : ds.length = 0 ∨ ∃ g, a = some ⟨g, 0, none⟩ ∧ base ≤ g ∧ TimeRow W g ds.length := by
  obtain ⟨_, h2⟩ := h
  rcases h2 with ⟨_, h0⟩ | ⟨g, cap, cur, hv, hb, hh, hc, hm, hs, ht⟩
  · exact .inl h0
  · refine .inr ⟨g, by injection hv, hb, cur.toList, ⟨by simpa using hh⟩, fun i hi => ?_⟩
    obtain ⟨e0, e1⟩ := flat2_at ds i ds[i] (List.getElem?_eq_getElem hi)
    have t0 : (cur.toList.take (ds.length * 2))[i * 2]? = cur.toList[i * 2]? := by rw [List.getElem?_take, if_pos (by omega)]
    have t1 : (cur.toList.take (ds.length * 2))[i * 2 + 1]? = cur.toList[i * 2 + 1]? := by rw [List.getElem?_take, if_pos (by omega)]
    exact ⟨ds[i].1, ds[i].2, by rw [← t0, ht]; exact e0, by rw [← t1, ht]; exact e1⟩
theorem ts_form {B3 : Nat} {org : List Value} {fq s : Int} {W0 : World} {rs : List Value} {a : Option Addr} {n c G b0 : Nat} (hn : n < 1000000000000) (hG : n = 0 ∨ a = some ⟨G, 0, none⟩) (h3 : W0.heap.size ≤ b0) :
    TS 187 (.slice a n c) 245 246 247 b0 G n (TJ B3 org fq s W0 rs G n b0) where
  rN := ⟨fun _ => by kernel_rfl, enters_of Tryz.func245 (by kernel_rfl) rfl⟩
  rL := ⟨fun _ => by kernel_rfl, enters_of Tryz.func246 (by kernel_rfl) rfl⟩
  rS := ⟨fun _ => by kernel_rfl, enters_of Tryz.func247 (by kernel_rfl) rfl⟩
  hn := hn
  len := fun W _ => tsLen_any a n c W
  less := fun W i j hJ hi hj => by
    obtain ⟨_, _, _, h | ⟨_, h⟩⟩ := hJ
    · omega
    · rcases hG with e | rfl
      · omega
      · exact tsLess_any G n c i j W h hi hj hn
  swap := fun W i j hJ hi hj => by
    rcases hG with e | rfl
    · omega
    obtain ⟨h1, h2, h4, h | ⟨hb, h⟩⟩ := hJ
    · omega
    refine tsSwap_any G n c i j W h hi hj hn (fun w' => TJ B3 org fq s W0 rs G n b0 w' ∧ ∀ N e xs, N ≠ G → RowAt W N e xs → RowAt w' N e xs) ⟨⟨h1, h2, h4, .inr ⟨hb, h⟩⟩, fun _ _ _ _ h => h⟩ ?_ ?_
    · rintro W' ⟨⟨k1, k2, k4, k5⟩, k6⟩
      refine ⟨⟨k1.drew, k2, k4, ?_⟩, fun N e xs hN hr => ⟨(k6 N e xs hN hr).blk⟩⟩
      rcases k5 with k5 | ⟨k5, k7⟩
      · exact .inl k5
      · exact .inr ⟨k5, k7.below ((Below.refl _ _).drew)⟩
    · rintro W' k z ⟨⟨k1, k2, k4, k5⟩, k6⟩
      refine ⟨⟨k1.far hb k _, by rw [World.size_setCell]; exact k2, by rw [World.size_setCell]; exact k4, ?_⟩, fun N e xs hN hr => (k6 N e xs hN hr).setOther hN k _⟩
      rcases k5 with k5 | ⟨k5, k7⟩
      · exact .inl k5
      · exact .inr ⟨k5, k7.set k z⟩
  lt := fun W hJ => ⟨hJ.2.2.1, hJ.2.1⟩
  keepS := fun W S i v hS hne hJ => by
    obtain ⟨h1, h2, h4, h5⟩ := hJ
    refine ⟨h1.far (Nat.le_trans h3 hS) i v, by rw [World.size_setCell]; exact h2, by rw [World.size_setCell]; exact h4, ?_⟩
    rcases h5 with h5 | ⟨h5, h6⟩
    · exact .inl h5
    · exact .inr ⟨h5, h6.other (Ne.symm hne) i v⟩
  keep := fun W w' hJ hb => by
    obtain ⟨h1, h2, h4, h5⟩ := hJ
    refine ⟨h1.call hb, Nat.le_trans h2 hb.size, Nat.lt_of_lt_of_le h4 hb.size, ?_⟩
    rcases h5 with h5 | ⟨h5, h6⟩
    · exact .inl h5
    · exact .inr ⟨h5, h6.below hb⟩
/-- sort.Sort over the set of times: the rule's row stays. -/
theorem times_sort {B3 : Nat} {org : List Value} {fq s : Int} {W0 : World} {rs : List Value} {W : World} {a : Option Addr} {c : Nat} {ds : List (Int × Int)} (q : QQ B3 org fq s [] W0 rs W) (ho : W.ownsRow W0.heap.size 101 2 (.slice a ds.length c) ds.length (flat2 ds)) (hn : ds.length < 1000000000000) :
    Calls Tryz.prog 135 #[.iface 187 (.slice a ds.length c)] W fun e w' => e = .returned (.tuple #[]) ∧ QQ B3 org fq s [] W0 rs w' := by
  rcases own_time ho with h0 | ⟨g, rfl, hb, ht⟩
  · exact (sort_any (ts_form (G := B3) (b0 := W.heap.size) hn (.inl h0) q.fr.size) W ⟨q, Nat.le_refl _, q.row.lt, .inl h0⟩).mono fun _ _ ⟨h1, h2⟩ => ⟨h1, h2.1⟩
  · exact (sort_any (ts_form (G := g) (b0 := W.heap.size) hn (.inr rfl) q.fr.size) W ⟨q, Nat.le_refl _, ht.lt, .inr ⟨hb, ht⟩⟩).mono fun _ _ ⟨h1, h2⟩ => ⟨h1, h2.1⟩
end Go.Proofs.YtcfbkkcamiephaaGreatDoor
namespace Go.Proofs.YtcfbkkcamiephaaGreatDoor
open Go.RowKit

/-! ### buildRRule: the walk -/
set_option maxRecDepth 100000 in
set_option maxHeartbeats 12800000 in
theorem build_any : BuildAny := by
  intro o v w hv hk hb
  obtain ⟨v6, v7, v8, v9, v10, v11, v12, v13, v14, v15, rfl, hR⟩ := hv
  obtain ⟨a6, n6, c6, rfl⟩ := hR.l6.form
  obtain ⟨a7, n7, c7, rfl⟩ := hR.l7.form
  obtain ⟨a8, n8, c8, rfl⟩ := hR.l8.form
  obtain ⟨a9, n9, c9, rfl⟩ := hR.l9.form
  obtain ⟨a10, n10, c10, rfl⟩ := hR.l10.form
  obtain ⟨a12, n12, c12, rfl⟩ := hR.l12.form
  obtain ⟨a13, n13, c13, rfl⟩ := hR.l13.form
  obtain ⟨a14, n14, c14, rfl⟩ := hR.l14.form
  obtain ⟨a15, n15, c15, rfl⟩ := hR.l15.form
  obtain ⟨a11, c11, rfl, hdy⟩ := hR.l11.form
  have HR := Lib.hid hR
  have HK := Lib.hid hk
  have HBB := Lib.hid hb
  have HDY := Lib.hid hdy
  clear hR hk hb hdy
  unfold optVal
  go_enter Tryz.func100, Tryz.ntmps100
  go_upto_region 2 with (first
    | (refine Great.wpList_runTo rfl (some 14) rfl _ _ (run_build150 _ _ rfl _) ?_)
    | (refine Great.wpList_runTo rfl (some 3) rfl _ _ (run_al150 _ _ rfl _) ?_)
    | (refine wpList_store_fresh rfl 150 _ _ rfl rrZ rrZ rfl rfl (by as_aux_lemma => kernel_rfl) rfl rrZ_one ?_)
    | (fail))
  change Code.wp _ _ _ _ (bw0 w #[.int .i64 o.fq, .int .i64 o.st.1, .int .i64 o.st.2, .int .i64 o.iv, .int .i64 o.wk.1, .int .i64 o.wk.2, .int .i64 o.ct, .int .i64 o.un.1, .int .i64 o.un.2, .slice a6 n6 c6, .slice a7 n7 c7, .slice a8 n8 c8, .slice a9 n9 c9, .slice a10 n10 c10, .slice a11 o.dy.length c11, .slice a12 n12 c12, .slice a13 n13 c13, .slice a14 n14 c14, .slice a15 n15 c15])
  obtain ⟨hr1, hr2, hr3, hb0, hsz⟩ := bw0_rows w #[.int .i64 o.fq, .int .i64 o.st.1, .int .i64 o.st.2, .int .i64 o.iv, .int .i64 o.wk.1, .int .i64 o.wk.2, .int .i64 o.ct, .int .i64 o.un.1, .int .i64 o.un.2, .slice a6 n6 c6, .slice a7 n7 c7, .slice a8 n8 c8, .slice a9 n9 c9, .slice a10 n10 c10, .slice a11 o.dy.length c11, .slice a12 n12 c12, .slice a13 n13 c13, .slice a14 n14 c14, .slice a15 n15 c15]
  generalize bw0 w #[.int .i64 o.fq, .int .i64 o.st.1, .int .i64 o.st.2, .int .i64 o.iv, .int .i64 o.wk.1, .int .i64 o.wk.2, .int .i64 o.ct, .int .i64 o.un.1, .int .i64 o.un.2, .slice a6 n6 c6, .slice a7 n7 c7, .slice a8 n8 c8, .slice a9 n9 c9, .slice a10 n10 c10, .slice a11 o.dy.length c11, .slice a12 n12 c12, .slice a13 n13 c13, .slice a14 n14 c14, .slice a15 n15 c15] = W0 at *
  have ht := hr3.there 19 (by decide)
  have HR1 := Lib.hid hr1
  have HR2 := Lib.hid hr2
  have HR3 := Lib.hid hr3
  have HB0 := Lib.hid hb0
  have HSZ := Lib.hid hsz
  have HT := Lib.hid ht
  clear hr1 hr2 hr3 hb0 hsz ht
  go_upto_region 3 with (first
    | (refine wpList_load_row rfl 106 _ rfl w.heap.size rfl 106 #[.int .i64 o.fq, .int .i64 o.st.1, .int .i64 o.st.2, .int .i64 o.iv, .int .i64 o.wk.1, .int .i64 o.wk.2, .int .i64 o.ct, .int .i64 o.un.1, .int .i64 o.un.2, .slice a6 n6 c6, .slice a7 n7 c7, .slice a8 n8 c8, .slice a9 n9 c9, .slice a10 n10 c10, .slice a11 o.dy.length c11, .slice a12 n12 c12, .slice a13 n13 c13, .slice a14 n14 c14, .slice a15 n15 c15] (0, 0) _ HR1.out.blk Tryz.underlying106 rfl (by as_aux_lemma => kernel_rfl) ?_)
    | (refine wpList_store_mid rfl 106 _ _ rfl (w.heap.size + 1 + 1) 0 #[.int .i64 o.fq, .int .i64 o.st.1, .int .i64 o.st.2, .int .i64 o.iv, .int .i64 o.wk.1, .int .i64 o.wk.2, .int .i64 o.ct, .int .i64 o.un.1, .int .i64 o.un.2, .slice a6 n6 c6, .slice a7 n7 c7, .slice a8 n8 c8, .slice a9 n9 c9, .slice a10 n10 c10, .slice a11 o.dy.length c11, .slice a12 n12 c12, .slice a13 n13 c13, .slice a14 n14 c14, .slice a15 n15 c15] rfl rfl HT.out (by as_aux_lemma => kernel_rfl) (by simp [Value.oneCell']) ?_)
    | (fail))
  obtain ⟨L, hL⟩ : ∃ L : List Value, L = [.slice a6 n6 c6, .slice a7 n7 c7, .slice a8 n8 c8, .slice a9 n9 c9, .slice a10 n10 c10, .slice a11 o.dy.length c11, .slice a12 n12 c12, .slice a13 n13 c13, .slice a14 n14 c14, .slice a15 n15 c15] := ⟨_, rfl⟩
  have HA3 : Hid (RowAt (W0.setCells (w.heap.size + 1 + 1) 0 (aL o.fq o.st.1 o.st.2 o.iv o.wk.1 o.wk.2 o.ct o.un.1 o.un.2 L)) w.heap.size 106 (aL o.fq o.st.1 o.st.2 o.iv o.wk.1 o.wk.2 o.ct o.un.1 o.un.2 L)) := Lib.hid (by
    have h := HR1.out.setsOther (show w.heap.size ≠ w.heap.size + 1 + 1 by omega) 0 (aL o.fq o.st.1 o.st.2 o.iv o.wk.1 o.wk.2 o.ct o.un.1 o.un.2 L)
    rw [hL] at h ⊢
    exact h)
  have HZ3 := Lib.hid (HR2.out.setsOther (show w.heap.size + 1 ≠ w.heap.size + 1 + 1 by omega) 0 (aL o.fq o.st.1 o.st.2 o.iv o.wk.1 o.wk.2 o.ct o.un.1 o.un.2 L))
  have HR3b := Lib.hid (HR3.out.sets 0 (aL o.fq o.st.1 o.st.2 o.iv o.wk.1 o.wk.2 o.ct o.un.1 o.un.2 L))
  have HB3 := Lib.hid (bsets HB0.out (show w.heap.size ≤ w.heap.size + 1 + 1 by omega) 0 (aL o.fq o.st.1 o.st.2 o.iv o.wk.1 o.wk.2 o.ct o.un.1 o.un.2 L))
  have HBD : Hid (BD w w.heap.size (w.heap.size + 1) (w.heap.size + 1 + 1)) := Lib.hid ⟨by omega, by omega, by omega, by omega, by omega, by omega⟩
  have HVAL : Hid (Value.agg #[.int .i64 o.fq, .int .i64 o.st.1, .int .i64 o.st.2, .int .i64 o.iv, .int .i64 o.wk.1, .int .i64 o.wk.2, .int .i64 o.ct, .int .i64 o.un.1, .int .i64 o.un.2, .slice a6 n6 c6, .slice a7 n7 c7, .slice a8 n8 c8, .slice a9 n9 c9, .slice a10 n10 c10, .slice a11 o.dy.length c11, .slice a12 n12 c12, .slice a13 n13 c13, .slice a14 n14 c14, .slice a15 n15 c15] = .agg (aL o.fq o.st.1 o.st.2 o.iv o.wk.1 o.wk.2 o.ct o.un.1 o.un.2 L).toArray) := Lib.hid (by rw [hL]; rfl)
  have hsl : setsL rrZ.toList 0 (aL o.fq o.st.1 o.st.2 o.iv o.wk.1 o.wk.2 o.ct o.un.1 o.un.2 L) = aL o.fq o.st.1 o.st.2 o.iv o.wk.1 o.wk.2 o.ct o.un.1 o.un.2 L ++ rrZ.toList.drop 19 := by rw [hL]; rfl
  have hlen : (aL o.fq o.st.1 o.st.2 o.iv o.wk.1 o.wk.2 o.ct o.un.1 o.un.2 L).length = 19 := by rw [hL]; rfl
  rw [hsl] at HR3b
  have HLEN := Lib.hid hlen
  have HDZ : Hid ((aL o.fq o.st.1 o.st.2 o.iv o.wk.1 o.wk.2 o.ct o.un.1 o.un.2 L ++ rrZ.toList.drop 19).drop 48 = rrZ.toList.drop 48) := Lib.hid (by rw [hL]; rfl)
  have HONE : Hid (∀ x ∈ aL o.fq o.st.1 o.st.2 o.iv o.wk.1 o.wk.2 o.ct o.un.1 o.un.2 L ++ rrZ.toList.drop 19, x.oneCell' = true) := Lib.hid (by rw [hL]; simp [aL, rrZ, Value.oneCell'])
  change Code.wp _ _ _ _ (W0.setCells (w.heap.size + 1 + 1) 0 (aL o.fq o.st.1 o.st.2 o.iv o.wk.1 o.wk.2 o.ct o.un.1 o.un.2 [.slice a6 n6 c6, .slice a7 n7 c7, .slice a8 n8 c8, .slice a9 n9 c9, .slice a10 n10 c10, .slice a11 o.dy.length c11, .slice a12 n12 c12, .slice a13 n13 c13, .slice a14 n14 c14, .slice a15 n15 c15]))
  rw [← hL]
  have HLL := Lib.hid hL
  clear hsl hlen hL HR1 HR2 HR3 HB0 HT HSZ
  generalize W0.setCells (w.heap.size + 1 + 1) 0 (aL o.fq o.st.1 o.st.2 o.iv o.wk.1 o.wk.2 o.ct o.un.1 o.un.2 L) = W3 at *
  generalize w.heap.size + 1 + 1 = B3 at *
  generalize w.heap.size + 1 = B2 at *
  have hc0 := HA3.out.cell 0 (v := .int .i64 o.fq) rfl
  have hi38 : (aL o.fq o.st.1 o.st.2 o.iv o.wk.1 o.wk.2 o.ct o.un.1 o.un.2 L ++ rrZ.toList.drop 19)[38]? = some (.int .i64 0) := by rw [List.getElem?_append_right (by rw [HLEN.out]; omega), HLEN.out]; rfl
  have hc38 := HR3b.out.cell 38 hi38
  have hf38 := HR3b.out.frozen 38
  have HS4 : Hid (SS w w.heap.size B2 B3 (aL o.fq o.st.1 o.st.2 o.iv o.wk.1 o.wk.2 o.ct o.un.1 o.un.2 L) o.fq (aL o.fq o.st.1 o.st.2 o.iv o.wk.1 o.wk.2 o.ct o.un.1 o.un.2 L) ((aL o.fq o.st.1 o.st.2 o.iv o.wk.1 o.wk.2 o.ct o.un.1 o.un.2 L ++ rrZ.toList.drop 19).set 38 (.int .i64 o.fq)) (W3.setCell ⟨B3, 38, none⟩ (.int .i64 o.fq))) := Lib.hid ⟨HA3.out.setOther HBD.out.n13 _ _, HZ3.out.setOther HBD.out.n23 _ _, ⟨HR3b.out.set 38 _, by rw [List.length_set, List.length_append, HLEN.out]; rfl, by rw [List.take_set_of_le (by omega), ← HLEN.out, List.take_left], by rw [List.getElem?_set_self (by rw [List.length_append, HLEN.out]; decide)], by rw [List.drop_set_of_lt (by decide)]; exact HDZ.out, one_set HONE.out 38 rfl⟩, HB3.out.setCell HBD.out.g3 _⟩
  generalize aL o.fq o.st.1 o.st.2 o.iv o.wk.1 o.wk.2 o.ct o.un.1 o.un.2 L ++ rrZ.toList.drop 19 = rs3 at *
  clear HA3 HZ3 HR3b HB3 hi38
  generalize hB1 : w.heap.size = B1 at *
  have HB1 := Lib.hid hB1
  clear hB1
  go_upto_region 4 with fail
  change Code.wp _ _ _ _ (W3.setCell ⟨B3, 38, none⟩ (.int .i64 o.fq))
  clear hc0 hc38 hf38
  generalize W3.setCell ⟨B3, 38, none⟩ (.int .i64 o.fq) = W4 at *
  generalize rs3.set 38 (.int .i64 o.fq) = rs at *
  obtain ⟨org, horg⟩ : ∃ org, org = (aL o.fq o.st.1 o.st.2 o.iv o.wk.1 o.wk.2 o.ct o.un.1 o.un.2 L) := ⟨_, rfl⟩
  have HORG := Lib.hid horg
  have HS4 : Hid (SS w B1 B2 B3 org o.fq (aL o.fq o.st.1 o.st.2 o.iv o.wk.1 o.wk.2 o.ct o.un.1 o.un.2 L) rs W4) := Lib.hid (by rw [horg]; exact HS4.out)
  clear horg
  have hc3 := HS4.out.a.cell 3 (v := .int .i64 o.iv) rfl
  have hf3 := HS4.out.a.frozen 3
  obtain ⟨q, hq⟩ : ∃ q, decide (o.iv < 1) = q := ⟨_, rfl⟩
  go_upto_if 22 with fail
  go_cut [22] from 14 to 23 (fun _ wx => ∃ iv : Int, Hid (SS w B1 B2 B3 org o.fq (aL o.fq o.st.1 o.st.2 iv o.wk.1 o.wk.2 o.ct o.un.1 o.un.2 L) rs wx))
  case first =>
    cases q
    · go_wp2
      go_meet
      exact ⟨o.iv, HS4⟩
    · go_wp2
      go_meet
      exact ⟨1, Lib.hid (HS4.out.setA HBD.out 3 (.int .i64 1))⟩
  case rest =>
  obtain ⟨iv, HS6⟩ := hcut
  clear HS4 hc3 hf3 hq
  have hc3 := HS6.out.a.cell 3 (v := .int .i64 iv) rfl
  have hc6 := HS6.out.a.cell 6 (v := .int .i64 o.ct) rfl
  have hf6 := HS6.out.a.frozen 6
  obtain ⟨x41, hc41, hf41⟩ := HS6.out.r.at 41 (by omega)
  obtain ⟨q, hq⟩ : ∃ q, decide (o.ct < 0) = q := ⟨_, rfl⟩
  have HS7 := Lib.hid (HS6.out.setR HBD.out 41 (by omega) (by omega) (.int .i64 iv))
  have ne13 : B1 ≠ B3 := HBD.out.n13
  have ne31 : B3 ≠ B1 := Ne.symm HBD.out.n13
  go_upto_if 29 with fail
  go_cut [29] from 14 to 30 (fun _ wx => ∃ (ct : Int) (rs' : List Value), Hid (SS w B1 B2 B3 org o.fq (aL o.fq o.st.1 o.st.2 iv o.wk.1 o.wk.2 ct o.un.1 o.un.2 L) rs' wx))
  case first =>
    cases q
    · go_wp2
      go_meet
      exact ⟨o.ct, _, HS7⟩
    · go_wp2
      go_meet
      exact ⟨0, _, Lib.hid (HS7.out.setA HBD.out 6 (.int .i64 0))⟩
  case rest =>
  obtain ⟨ct, rs9, HS9⟩ := hcut
  clear HS6 HS7 hc3 hc6 hf6 hc41 hf41 hq
  have hc6 := HS9.out.a.cell 6 (v := .int .i64 ct) rfl
  obtain ⟨x43, hc43, hf43⟩ := HS9.out.r.at 43 (by omega)
  have HS10 := Lib.hid (HS9.out.setR HBD.out 43 (by omega) (by omega) (.int .i64 ct))
  have hc1 := HS10.out.a.cell 1 (v := .int .i64 o.st.1) rfl
  have hc2 := HS10.out.a.cell 2 (v := .int .i64 o.st.2) rfl
  have H93 := Lib.hid (fun w => isZero_any o.st.1 o.st.2 w)
  obtain ⟨q, hq⟩ : ∃ q, (o.st.1 == 0 && o.st.2 == 0) = q := ⟨_, rfl⟩
  rw [hq] at H93
  go_upto_if 36 with (first
    | (go_at_call 93; go_must (refine (H93.out _).mono ?_; rintro e w1 ⟨rfl, hb1⟩; have HS11 := Lib.hid (HS10.out.call hb1); clear hb1))
    | (fail))
  clear hc1 hc2 hc6 hc43 hf43 HS9 HS10 H93
  have hf1 := HS11.out.a.frozen 1
  have hf2 := HS11.out.a.frozen 2
  have hc1 := HS11.out.a.cell 1 (v := .int .i64 o.st.1) rfl
  have hc2 := HS11.out.a.cell 2 (v := .int .i64 o.st.2) rfl
  go_cut [36] from 14 to 38 (fun _ wx => ∃ (s n : Int) (rs' : List Value), Hid (InTime s) ∧ Hid (SS w B1 B2 B3 org o.fq (aL o.fq s n iv o.wk.1 o.wk.2 ct o.un.1 o.un.2 L) rs' wx))
  case first =>
    cases q
    · go_wp2
      go_meet
      exact ⟨o.st.1, o.st.2, _, Lib.hid HK.out.ok.st, HS11⟩
    · clear hc1 hc2 hf1 hf2
      go_upto_region 12 with (first
        | (go_at_call 124; go_must (refine (at0_any _).mono ?_; rintro e w2 ⟨rfl, hb2⟩; have HS12 := Lib.hid (HS11.out.call hb2); have hf1 := HS12.out.a.frozen 1; have hf2 := HS12.out.a.frozen 2; have hc1 := HS12.out.a.cell 1 (v := .int .i64 o.st.1) rfl; have hc2 := HS12.out.a.cell 2 (v := .int .i64 o.st.2) rfl; clear hb2))
        | (fail))
      go_meet
      exact ⟨62135596800, 0, _, Lib.hid ⟨by decide, by decide⟩, Lib.hid ((HS12.out.setA HBD.out 1 (.int .i64 62135596800)).setA HBD.out 2 (.int .i64 0))⟩
  case rest =>
  obtain ⟨s, n, rs12, HIT, HS12⟩ := hcut
  clear HS11 hf1 hf2 hc1 hc2 hq
  have hc1 := HS12.out.a.cell 1 (v := .int .i64 s) rfl
  have hc2 := HS12.out.a.cell 2 (v := .int .i64 n) rfl
  have H93 := Lib.hid (fun w => isZero_any o.un.1 o.un.2 w)
  obtain ⟨q, hq⟩ : ∃ q, (o.un.1 == 0 && o.un.2 == 0) = q := ⟨_, rfl⟩
  rw [hq] at H93
  obtain ⟨rs14, hrs⟩ : ∃ rs14, rs14 = (rs12.set 39 (.int .i64 s)).set 40 (.int .i64 0) := ⟨_, rfl⟩
  have H39 : Hid (rs14[39]? = some (.int .i64 s)) := Lib.hid (by rw [hrs, List.getElem?_set_ne (by omega), List.getElem?_set_self (by rw [HS12.out.r.len]; omega)])
  have H40 : Hid (rs14[40]? = some (.int .i64 0)) := Lib.hid (by rw [hrs, List.getElem?_set_self (by rw [List.length_set, HS12.out.r.len]; omega)])
  have HRS := Lib.hid hrs
  clear hrs
  go_upto_if 48 with (first
    | (go_at_call 125; go_must (refine (trunc_any s n _).mono ?_; rintro e w1 ⟨rfl, hb1⟩; have HS13 := Lib.hid (HS12.out.call hb1); have hf1 := HS13.out.a.frozen 1; have hf2 := HS13.out.a.frozen 2; have hc1 := HS13.out.a.cell 1 (v := .int .i64 s) rfl; have hc2 := HS13.out.a.cell 2 (v := .int .i64 n) rfl; obtain ⟨x39, hc39, hf39⟩ := HS13.out.r.at 39 (by omega); obtain ⟨x40, hc40, hf40⟩ := HS13.out.r.at 40 (by omega); have hc7 := HS13.out.a.cell 7 (v := .int .i64 o.un.1) rfl; have hc8 := HS13.out.a.cell 8 (v := .int .i64 o.un.2) rfl; clear hb1))
    | (go_at_call 93; go_must (refine (H93.out _).mono ?_; rintro e w2 ⟨rfl, hb2⟩; have HS15 : Hid (SS w B1 B2 B3 org o.fq (aL o.fq s 0 iv o.wk.1 o.wk.2 ct o.un.1 o.un.2 L) rs14 w2) := Lib.hid (by rw [HRS.out]; exact ((((HS13.out.setA HBD.out 1 (.int .i64 s)).setA HBD.out 2 (.int .i64 0)).setR HBD.out 39 (by omega) (by omega) (.int .i64 s)).setR HBD.out 40 (by omega) (by omega) (.int .i64 0)).call hb2); clear hb2))
    | (fail))
  clear hc1 hc2 hf1 hf2 hc39 hf39 hc40 hf40 hc7 hc8 HS13 HS12 H93 HRS
  clear hc1 hc2
  go_cut [48] from 14 to 59 (fun _ wx => ∃ (u m : Int) (rs' : List Value), Hid (rs'[39]? = some (.int .i64 s)) ∧ Hid (rs'[40]? = some (.int .i64 0)) ∧ Hid (SS w B1 B2 B3 org o.fq (aL o.fq s 0 iv o.wk.1 o.wk.2 ct u m L) rs' wx))
  case first =>
    cases q
    · have hc7 := HS15.out.a.cell 7 (v := .int .i64 o.un.1) rfl
      have hc8 := HS15.out.a.cell 8 (v := .int .i64 o.un.2) rfl
      go_wp2_with (first
        | (go_at_call 125; go_must (refine (trunc_any o.un.1 o.un.2 _).mono ?_; rintro e w3 ⟨rfl, hb3⟩; have HS16 := Lib.hid (HS15.out.call hb3); have hf7 := HS16.out.a.frozen 7; have hf8 := HS16.out.a.frozen 8; have hc7 := HS16.out.a.cell 7 (v := .int .i64 o.un.1) rfl; have hc8 := HS16.out.a.cell 8 (v := .int .i64 o.un.2) rfl; obtain ⟨x44, hc44, hf44⟩ := HS16.out.r.at 44 (by omega); obtain ⟨x45, hc45, hf45⟩ := HS16.out.r.at 45 (by omega); clear hb3))
        | (fail))
      go_meet
      exact ⟨o.un.1, 0, _, Lib.hid (by rw [List.getElem?_set_ne (by omega), List.getElem?_set_ne (by omega)]; exact H39.out), Lib.hid (by rw [List.getElem?_set_ne (by omega), List.getElem?_set_ne (by omega)]; exact H40.out), Lib.hid ((((HS16.out.setA HBD.out 7 (.int .i64 o.un.1)).setA HBD.out 8 (.int .i64 0)).setR HBD.out 44 (by omega) (by omega) (.int .i64 o.un.1)).setR HBD.out 45 (by omega) (by omega) (.int .i64 0))⟩
    · have hc39 := HS15.out.r.row.cell 39 H39.out
      have hc40 := HS15.out.r.row.cell 40 H40.out
      go_wp2_with (first
        | (go_at_call 126; go_must (refine (addMax_any s _).mono ?_; rintro e w3 ⟨⟨s1, n1, rfl⟩, hb3⟩; have HS16 := Lib.hid (HS15.out.call hb3); obtain ⟨x44, hc44, hf44⟩ := HS16.out.r.at 44 (by omega); obtain ⟨x45, hc45, hf45⟩ := HS16.out.r.at 45 (by omega); clear hb3))
        | (fail))
      go_meet
      exact ⟨o.un.1, o.un.2, _, Lib.hid (by rw [List.getElem?_set_ne (by omega), List.getElem?_set_ne (by omega)]; exact H39.out), Lib.hid (by rw [List.getElem?_set_ne (by omega), List.getElem?_set_ne (by omega)]; exact H40.out), Lib.hid ((HS16.out.setR HBD.out 44 (by omega) (by omega) (.int .i64 s1)).setR HBD.out 45 (by omega) (by omega) (.int .i64 n1))⟩
  case rest =>
  obtain ⟨u, m, rs17, H39, H40, HS17⟩ := hcut
  clear HS15 hq
  have HS17 : Hid (SS w B1 B2 B3 org o.fq (aL o.fq s 0 iv o.wk.1 o.wk.2 ct u m [.slice a6 n6 c6, .slice a7 n7 c7, .slice a8 n8 c8, .slice a9 n9 c9, .slice a10 n10 c10, .slice a11 o.dy.length c11, .slice a12 n12 c12, .slice a13 n13 c13, .slice a14 n14 c14, .slice a15 n15 c15]) rs17 wc) := Lib.hid (by rw [← HLL.out]; exact HS17.out)
  have hc4 := HS17.out.a.cell 4 (v := .int .i64 o.wk.1) rfl
  have hc9 := HS17.out.a.cell 9 (v := .slice a6 n6 c6) rfl
  obtain ⟨x42, hc42, hf42⟩ := HS17.out.r.at 42 (by omega)
  obtain ⟨x46, hc46, hf46⟩ := HS17.out.r.at 46 (by omega)
  have HS20 : Hid (SS w B1 B2 B3 org o.fq (aL o.fq s 0 iv o.wk.1 o.wk.2 ct u m [.slice a6 n6 c6, .slice a7 n7 c7, .slice a8 n8 c8, .slice a9 n9 c9, .slice a10 n10 c10, .slice a11 o.dy.length c11, .slice a12 n12 c12, .slice a13 n13 c13, .slice a14 n14 c14, .slice a15 n15 c15]) ((rs17.set 42 (.int .i64 o.wk.1)).set 46 (.slice a6 n6 c6)) ((wc.setCell ⟨B3, 42, none⟩ (.int .i64 o.wk.1)).setCell ⟨B3, 46, none⟩ (.slice a6 n6 c6))) := Lib.hid ((HS17.out.setR HBD.out 42 (by omega) (by omega) (.int .i64 o.wk.1)).setR HBD.out 46 (by omega) (by omega) (.slice a6 n6 c6))
  have H39 : Hid (((rs17.set 42 (.int .i64 o.wk.1)).set 46 (.slice a6 n6 c6))[39]? = some (.int .i64 s)) := Lib.hid (by rw [List.getElem?_set_ne (by omega), List.getElem?_set_ne (by omega)]; exact H39.out)
  have H40 : Hid (((rs17.set 42 (.int .i64 o.wk.1)).set 46 (.slice a6 n6 c6))[40]? = some (.int .i64 0)) := Lib.hid (by rw [List.getElem?_set_ne (by omega), List.getElem?_set_ne (by omega)]; exact H40.out)
  go_upto_region 20 with fail
  change Code.wp _ _ _ _ ((wc.setCell ⟨B3, 42, none⟩ (.int .i64 o.wk.1)).setCell ⟨B3, 46, none⟩ (.slice a6 n6 c6))
  clear hc4 hc9 hc42 hf42 hc46 hf46 HS17
  generalize (rs17.set 42 (.int .i64 o.wk.1)).set 46 (.slice a6 n6 c6) = rs20 at *
  generalize (wc.setCell ⟨B3, 42, none⟩ (.int .i64 o.wk.1)).setCell ⟨B3, 46, none⟩ (.slice a6 n6 c6) = W20 at *
  go_cut [94] from 14 to 94 (fun t wx => ∃ b : Bool, t = .bool b ∧ wx = W20)
  case first =>
    have hc13 := HS20.out.a.cell 13 (v := .slice a10 n10 c10) rfl
    have hc12 := HS20.out.a.cell 12 (v := .slice a9 n9 c9) rfl
    have hc11 := HS20.out.a.cell 11 (v := .slice a8 n8 c8) rfl
    have hc14 := HS20.out.a.cell 14 (v := .slice a11 o.dy.length c11) rfl
    have hc18 := HS20.out.a.cell 18 (v := .slice a15 n15 c15) rfl
    obtain ⟨q1, hq1⟩ : ∃ q, ((n10 : Int) == 0) = q := ⟨_, rfl⟩
    obtain ⟨q2, hq2⟩ : ∃ q, ((n9 : Int) == 0) = q := ⟨_, rfl⟩
    obtain ⟨q3, hq3⟩ : ∃ q, ((n8 : Int) == 0) = q := ⟨_, rfl⟩
    obtain ⟨q4, hq4⟩ : ∃ q, ((o.dy.length : Int) == 0) = q := ⟨_, rfl⟩
    obtain ⟨q5, hq5⟩ : ∃ q, ((n15 : Int) == 0) = q := ⟨_, rfl⟩
    have hcase : q1 = false ∨ (q1 = true ∧ (q2 = false ∨ (q2 = true ∧ (q3 = false ∨ (q3 = true ∧ (q4 = false ∨ (q4 = true ∧ (q5 = false ∨ q5 = true)))))))) := by
      cases q1 <;> cases q2 <;> cases q3 <;> cases q4 <;> cases q5 <;> simp
    rcases hcase with rfl | ⟨rfl, rfl | ⟨rfl, rfl | ⟨rfl, rfl | ⟨rfl, rfl | rfl⟩⟩⟩⟩
    all_goals
      go_wp2
      go_meet
      exact ⟨_, rfl, rfl⟩
  case rest =>
  obtain ⟨b, rfl, hwx⟩ := hcut
  subst hwx
  have HX2 := Lib.hid (HR.out.l8.toX HS20.out.hb HBD.out.g3)
  have HX5 := Lib.hid (HR.out.l11.toX HS20.out.hb HBD.out.g3)
  have HLM : Hid (o.md.length ≤ 1000000000) := Lib.hid ((optLens HK.out.ok).1 3 (by omega))
  have HLD : Hid (o.dy.length ≤ 1000000000) := Lib.hid (optLens HK.out.ok).2
  obtain ⟨yy, mo, dd, hh, mi, ss, HC⟩ : ∃ yy mo dd hh mi ss, Hid (Civ s yy mo dd hh mi ss) := ⟨_, _, _, _, _, _, Lib.hid (civ_of s HIT.out)⟩
  go_upto_if 94 with fail
  go_cut [94] from 14 to 129 (fun _ wx => ∃ (x1 : Option Addr) (m1 k0 : Nat) (v2 : Value) (y2 : List Int) (v5 : Value) (y5 : List (Int × Int)) (rs' : List Value), Hid (rs'[39]? = some (.int .i64 s)) ∧ Hid (rs'[40]? = some (.int .i64 0)) ∧ Hid (IntsX B3 wx v2 y2 ∧ y2.length ≤ 1000000000) ∧ Hid (DaysX B3 wx v5 y5 ∧ y5.length ≤ 1000000000) ∧ Hid (SS w B1 B2 B3 org o.fq (aL o.fq s 0 iv o.wk.1 o.wk.2 ct u m [.slice a6 n6 c6, .slice x1 m1 k0, v2, .slice a9 n9 c9, .slice a10 n10 c10, v5, .slice a12 n12 c12, .slice a13 n13 c13, .slice a14 n14 c14, .slice a15 n15 c15]) rs' wx))
  case first =>
    cases b
    · go_wp2
      go_meet
      exact ⟨a7, n7, c7, _, o.md, _, o.dy, rs20, H39, H40, Lib.hid ⟨HX2.out, HLM.out⟩, Lib.hid ⟨HX5.out, HLD.out⟩, HS20⟩
    have hc38 := HS20.out.r.row.cell 38 HS20.out.r.fq
    have hc39 := HS20.out.r.row.cell 39 H39.out
    have hc40 := HS20.out.r.row.cell 40 H40.out
    have hc10 := HS20.out.a.cell 10 (v := .slice a7 n7 c7) rfl
    obtain ⟨f0, hf0⟩ : ∃ q, (o.fq == 0) = q := ⟨_, rfl⟩
    obtain ⟨f1, hf1⟩ : ∃ q, (o.fq == 1) = q := ⟨_, rfl⟩
    obtain ⟨f2, hf2⟩ : ∃ q, (o.fq == 2) = q := ⟨_, rfl⟩
    obtain ⟨z7, hz7⟩ : ∃ q, ((n7 : Int) == 0) = q := ⟨_, rfl⟩
    have hcase : (f0 = true ∧ (z7 = true ∨ z7 = false)) ∨ (f0 = false ∧ (f1 = true ∨ (f1 = false ∧ (f2 = true ∨ f2 = false)))) := by
      cases f0 <;> cases f1 <;> cases f2 <;> cases z7 <;> simp
    rcases hcase with ⟨rfl, rfl | rfl⟩ | ⟨rfl, rfl | ⟨rfl, rfl | rfl⟩⟩
    · go_wp2_with (first
        | (go_at_call 127; go_must (refine (month_any s _ _ _ _ _ _ 0 _ HC.out).mono ?_; rintro e w1 ⟨rfl, hb1⟩; have hltm := (HS20.out.call hb1).lt1; have HSl := Lib.hid (HS20.out.call hb1); have hcm := HSl.out.a.cell 10 (v := .slice a7 n7 c7) rfl; have hfm := HSl.out.a.frozen 10; have HSn := Lib.hid (HSl.out.fresh1 HBD.out 10 mo).1; have hr39 := HSl.out.r.row.cell 39 H39.out; have hr40 := HSl.out.r.row.cell 40 H40.out; have hltr := HSl.out.lt3; clear hb1))
        | (go_at_call 128; go_must (refine (dayOf_any s _ _ _ _ _ _ 0 _ HC.out).mono ?_; rintro e w2 ⟨rfl, hb2⟩; have hlt1 := (HSn.out.call hb2).lt1; have HSc := Lib.hid (HSn.out.call hb2); have hcd := HSc.out.a.cell 11 (v := .slice a8 n8 c8) rfl; have hfd := HSc.out.a.frozen 11; clear hb2))
        | (fail))
      go_meet
      have HSe := Lib.hid (HSc.out.fresh1 HBD.out 11 dd)
      exact ⟨_, _, _, _, [dd], _, o.dy, rs20, H39, H40, Lib.hid ⟨HSe.out.2, by show (1 : Nat) ≤ 1000000000; decide⟩, Lib.hid ⟨HR.out.l11.toX HSe.out.1.hb HBD.out.g3, HLD.out⟩, Lib.hid HSe.out.1⟩
    · go_wp2_with (first
        | (go_at_call 128; go_must (refine (dayOf_any s _ _ _ _ _ _ 0 _ HC.out).mono ?_; rintro e w2 ⟨rfl, hb2⟩; have hlt1 := (HS20.out.call hb2).lt1; have HSc := Lib.hid (HS20.out.call hb2); have hcd := HSc.out.a.cell 11 (v := .slice a8 n8 c8) rfl; have hfd := HSc.out.a.frozen 11; clear hb2))
        | (fail))
      go_meet
      have HSe := Lib.hid (HSc.out.fresh1 HBD.out 11 dd)
      exact ⟨_, _, _, _, [dd], _, o.dy, rs20, H39, H40, Lib.hid ⟨HSe.out.2, by show (1 : Nat) ≤ 1000000000; decide⟩, Lib.hid ⟨HR.out.l11.toX HSe.out.1.hb HBD.out.g3, HLD.out⟩, Lib.hid HSe.out.1⟩
    · go_wp2_with (first
        | (go_at_call 128; go_must (refine (dayOf_any s _ _ _ _ _ _ 0 _ HC.out).mono ?_; rintro e w2 ⟨rfl, hb2⟩; have hlt1 := (HS20.out.call hb2).lt1; have HSc := Lib.hid (HS20.out.call hb2); have hcd := HSc.out.a.cell 11 (v := .slice a8 n8 c8) rfl; have hfd := HSc.out.a.frozen 11; clear hb2))
        | (fail))
      go_meet
      have HSe := Lib.hid (HSc.out.fresh1 HBD.out 11 dd)
      exact ⟨_, _, _, _, [dd], _, o.dy, rs20, H39, H40, Lib.hid ⟨HSe.out.2, by show (1 : Nat) ≤ 1000000000; decide⟩, Lib.hid ⟨HR.out.l11.toX HSe.out.1.hb HBD.out.g3, HLD.out⟩, Lib.hid HSe.out.1⟩
    · have hb1' := HIT.out.1
      have hb2' := HIT.out.2
      go_wp2_with (first
        | (go_at_call 130; go_must (refine (weekday_any s 0 _ (by omega) (by omega)).mono ?_; rintro e w1 ⟨⟨z, hz1, hz2, rfl⟩, hb1⟩; have HSw := Lib.hid (HS20.out.call hb1); clear hb1))
        | (go_at_call 129; go_must (refine (pyWeekday_any z _ hz1 hz2).mono ?_; rintro e w2 ⟨⟨u0, rfl⟩, hb2⟩; have hlt1 := (HSw.out.call hb2).lt1; have HSc := Lib.hid (HSw.out.call hb2); have hcd := HSc.out.a.cell 14 (v := .slice a11 o.dy.length c11) rfl; have hfd := HSc.out.a.frozen 14; clear hb2))
        | (fail))
      go_meet
      have HSe := Lib.hid (HSc.out.fresh2 HBD.out 14 u0 0)
      exact ⟨_, _, _, _, o.md, _, [(u0, 0)], rs20, H39, H40, Lib.hid ⟨HR.out.l8.toX HSe.out.1.hb HBD.out.g3, HLM.out⟩, Lib.hid ⟨HSe.out.2, by show (1 : Nat) ≤ 1000000000; decide⟩, Lib.hid HSe.out.1⟩
    · go_wp2
      go_meet
      exact ⟨a7, n7, c7, _, o.md, _, o.dy, rs20, H39, H40, Lib.hid ⟨HX2.out, HLM.out⟩, Lib.hid ⟨HX5.out, HLD.out⟩, HS20⟩
  case rest =>
  obtain ⟨x1, m1, k0, v2, y2, v5, y5, rs29, H39, H40, HX2, HX5, HS29⟩ := hcut
  have HCR : Hid ((0 ≤ hh ∧ hh ≤ 59) ∧ (0 ≤ mi ∧ mi ≤ 59) ∧ (0 ≤ ss ∧ ss ≤ 59)) := Lib.hid (by have c := HC.out; have := c.h0; have := c.h1; have := c.n0; have := c.n1; have := c.s0; have := c.s1; omega)
  have HT29 := Lib.hid (HS29.out.toST H39.out H40.out)
  clear HS29 H39 H40
  obtain ⟨W29, hW29⟩ : ∃ W : World, W = wc := ⟨_, rfl⟩
  subst hW29
  obtain ⟨a2, c2, rfl, hf2⟩ := HX2.out.1.form
  obtain ⟨a5, c5, rfl, hf5⟩ := HX5.out.1.form
  have HF2 := Lib.hid hf2
  have HF5 := Lib.hid hf5
  have hl2 := HX2.out.2
  have hl5 := HX5.out.2
  clear hf2 hf5 HX2 HX5
  have hc10 := HT29.out.a.cell 10 (v := .slice x1 m1 k0) rfl
  have hc12 := HT29.out.a.cell 12 (v := .slice a9 n9 c9) rfl
  have hc18 := HT29.out.a.cell 18 (v := .slice a15 n15 c15) rfl
  have hc11 := HT29.out.a.cell 11 (v := .slice a2 y2.length c2) rfl
  obtain ⟨x47, hc47, hf47⟩ := HT29.out.q.at 47 (by omega)
  obtain ⟨x50, hc50, hf50⟩ := HT29.out.q.at 50 (by omega)
  obtain ⟨x57, hc57, hf57⟩ := HT29.out.q.at 57 (by omega)
  have HQ32 := Lib.hid (((HT29.out.q.set 47 (by omega) (by simp) (.slice x1 m1 k0)).set 50 (by omega) (by simp) (.slice a9 n9 c9)).set 57 (by omega) (by simp) (.slice a15 n15 c15))
  go_upto_block 0 with fail
  change Code.wp _ _ _ _ (((W29.setCell ⟨B3, 47, none⟩ (.slice x1 m1 k0)).setCell ⟨B3, 50, none⟩ (.slice a9 n9 c9)).setCell ⟨B3, 57, none⟩ (.slice a15 n15 c15))
  clear hc10 hc12 hc18 hc11 hc47 hf47 hc50 hf50 hc57 hf57
  generalize ((W29.setCell ⟨B3, 47, none⟩ (.slice x1 m1 k0)).setCell ⟨B3, 50, none⟩ (.slice a9 n9 c9)).setCell ⟨B3, 57, none⟩ (.slice a15 n15 c15) = W32 at *
  generalize ((rs29.set 47 (.slice x1 m1 k0)).set 50 (.slice a9 n9 c9)).set 57 (.slice a15 n15 c15) = rs32 at *
  go_cut [5, 142] from 139 to 162 (fun _ _ wx => ∃ rs' : List Value, Hid (QQ B3 org o.fq s [52, 53] W29 rs' wx))
  case first =>
    go_wp2
    go_loopw [142] (fun vi wr => ∃ (k : Nat) (rs' : List Value), vi = .int .i64 k ∧ k ≤ y2.length ∧ Hid (QQ B3 org o.fq s [52, 53] W29 rs' wr) ∧ Hid (TwoL 48 49 3 3 1 1 W29.heap.size k rs' wr)) (fun vi _ => y2.length - (intOf vi).toNat)
    case atStart => exact ⟨0, rs32, rfl, Nat.zero_le _, Lib.hid (HQ32.out.less (by simp)), Lib.hid (TwoL.start (HQ32.out.zs 48 (by simp)) (HQ32.out.zs 49 (by simp)))⟩
    case round =>
    obtain ⟨k, rs', rfl, hk, HQ, HW⟩ := hrel
    by_cases hlt : k < y2.length
    case neg =>
      go_wp2
      go_meet
      exact ⟨rs', HQ⟩
    obtain ⟨g, gq, rfl, hgn, hg⟩ := HF2.out k hlt
    have hcx := (HQ.out.fr.ints hg hgn).cell k y2[k] (List.getElem?_eq_getElem hlt)
    obtain ⟨z, hz⟩ : ∃ z, y2[k] = z := ⟨_, rfl⟩
    rw [hz] at hcx
    obtain ⟨v1, p1, xs1, v2, p2, xs2, e1, e2, l1, l2, o1, o2, hd⟩ := HW.out
    have hc48 := HQ.out.row.cell 48 e1
    have hc49 := HQ.out.row.cell 49 e2
    have HO1 := Lib.hid o1
    have HO2 := Lib.hid o2
    have HD := Lib.hid hd
    have HE1 := Lib.hid e1
    have HE2 := Lib.hid e2
    have HSZ := Lib.hid HQ.out.fr.size
    clear hz hg hgn e1 e2 o1 o2 hd HW
    rcases (show 0 < z ∨ (¬ 0 < z ∧ z < 0) ∨ (¬ 0 < z ∧ ¬ z < 0) by omega) with h1 | ⟨h1, h2⟩ | ⟨h1, h2⟩
    · go_wp2_with (first
        | (at_builtin; go_must (refine appQ _ _ 23 (.int .i64 0) Tryz.underlying23 Tryz.info3 rfl (by omega) HO1.out HSZ.out (by omega) (by omega) rfl (by simp [Value.oneCell']) rfl rfl rfl rfl rfl ?_; intro g1 c1 w1 ho hgb hl; have HQ1 := Lib.hid (HQ.out.grown hgb (fun k hk => (HO1.out.lt k hk).1)); have HO3 := Lib.hid ho; have HO4 := Lib.hid (HO2.out.kept hgb (own_apart HD.out)); have HD1 := Lib.hid (own_apart2 HD.out HO2.out hl); have hcn := HQ1.out.row.cell 48 HE1.out; have hfn := HQ1.out.row.frozen 48; clear ho hgb hl))
        | (fail))
      go_roundw
      case rel => exact ⟨k + 1, _, by go_num, by omega, Lib.hid (HQ1.out.set 48 (by omega) (by simp) _), Lib.hid (TwoL.fst HQ1.out.len (by omega) (by omega) HE2.out l1 l2 HO3.out HO4.out HQ1.out.lt HD1.out)⟩
      case measure => simp [intOf]; omega
    · go_wp2_with (first
        | (at_builtin; go_must (refine appQ _ _ 23 (.int .i64 0) Tryz.underlying23 Tryz.info3 rfl (by omega) HO2.out HSZ.out (by omega) (by omega) rfl (by simp [Value.oneCell']) rfl rfl rfl rfl rfl ?_; intro g1 c1 w1 ho hgb hl; have HQ1 := Lib.hid (HQ.out.grown hgb (fun k hk => (HO2.out.lt k hk).1)); have HO3 := Lib.hid ho; have HO4 := Lib.hid (HO1.out.kept hgb (own_apart (fun g h e => HD.out g e h))); have HD1 := Lib.hid (own_apart2 (fun g h e => HD.out g e h) HO1.out hl); have hcn := HQ1.out.row.cell 49 HE2.out; have hfn := HQ1.out.row.frozen 49; clear ho hgb hl))
        | (fail))
      go_roundw
      case rel => exact ⟨k + 1, _, by go_num, by omega, Lib.hid (HQ1.out.set 49 (by omega) (by simp) _), Lib.hid (TwoL.snd HQ1.out.len (by omega) (by omega) HE1.out l1 l2 HO3.out HO4.out HQ1.out.lt HD1.out)⟩
      case measure => simp [intOf]; omega
    · go_wp2
      go_roundw
      case rel => exact ⟨k + 1, _, by go_num, by omega, HQ, Lib.hid ⟨v1, p1, xs1, v2, p2, xs2, HE1.out, HE2.out, by omega, by omega, HO1.out, HO2.out, HD.out⟩⟩
      case measure => simp [intOf]; omega
  case rest =>
  obtain ⟨rs39, HQ39⟩ := hcut
  clear HQ32 HF2
  obtain ⟨W39, hW39⟩ : ∃ W : World, W = wc := ⟨_, rfl⟩
  subst hW39
  have hA39 := HQ39.out.fr.row HT29.out.a HBD.out.n13
  have hc13 := hA39.cell 13 (v := .slice a10 n10 c10) rfl
  have hc14 := hA39.cell 14 (v := .slice a5 y5.length c5) rfl
  obtain ⟨x51, hc51, hf51⟩ := HQ39.out.at 51 (by omega)
  clear hA39
  have HQ41 := Lib.hid (HQ39.out.set 51 (by omega) (by simp) (.slice a10 n10 c10))
  go_upto_block 2 with fail
  change Code.wp _ _ _ _ (W39.setCell ⟨B3, 51, none⟩ (.slice a10 n10 c10))
  clear hc13 hc14 hc51 hf51 HQ39
  generalize W39.setCell ⟨B3, 51, none⟩ (.slice a10 n10 c10) = W41 at *
  generalize rs39.set 51 (.slice a10 n10 c10) = rs41 at *
  go_cut [7, 169] from 163 to 194 (fun _ _ wx => ∃ rs' : List Value, Hid (QQ B3 org o.fq s [] W29 rs' wx))
  case first =>
    go_wp2
    go_loopw [169] (fun vi wr => ∃ (k : Nat) (rs' : List Value), vi = .int .i64 k ∧ k ≤ y5.length ∧ Hid (QQ B3 org o.fq s [] W29 rs' wr) ∧ Hid (TwoL 52 53 3 103 1 2 W29.heap.size k rs' wr)) (fun vi _ => y5.length - (intOf vi).toNat)
    case atStart => exact ⟨0, rs41, rfl, Nat.zero_le _, Lib.hid (HQ41.out.less (by simp)), Lib.hid (TwoL.start (HQ41.out.zs 52 (by simp)) (HQ41.out.zs 53 (by simp)))⟩
    case round =>
    obtain ⟨k, rs', rfl, hk, HQ, HW⟩ := hrel
    by_cases hlt : k < y5.length
    case neg =>
      go_wp2
      go_meet
      exact ⟨rs', HQ⟩
    obtain ⟨g, gq, rfl, hgn, hg⟩ := HF5.out k hlt
    obtain ⟨hcx, hcy⟩ := (HQ.out.fr.days hg hgn).cell k y5[k] (List.getElem?_eq_getElem hlt)
    obtain ⟨z, hz⟩ : ∃ z, y5[k] = z := ⟨_, rfl⟩
    rw [hz] at hcx hcy
    obtain ⟨z1, z2⟩ := z
    simp only at hcx hcy
    clear hz hg hgn
    go_upto_region 44 with fail
    change Code.wp _ _ _ _ (wr.alloc (.cells #[.int .i64 z1, .int .i64 z2] 103))
    have hal : Below wr.heap.size wr (wr.alloc (.cells #[.int .i64 z1, .int .i64 z2] 103)) := (Below.refl _ _).alloc (Nat.le_refl _) _
    have HQa := Lib.hid (HQ.out.call hal)
    have HR7 : Hid (RowAt (wr.alloc (.cells #[.int .i64 z1, .int .i64 z2] 103)) wr.heap.size 103 [.int .i64 z1, .int .i64 z2]) := Lib.hid ⟨by rw [heap_alloc_new]⟩
    obtain ⟨v1, p1, xs1, v2, p2, xs2, e1, e2, l1, l2, o1, o2, hd⟩ := HW.out.call hal
    clear hal hcx hcy HQ HW
    generalize wr.alloc (.cells #[.int .i64 z1, .int .i64 z2] 103) = Wa at *
    generalize wr.heap.size = na at *
    have hca := HR7.out.cell 0 (v := .int .i64 z1) rfl
    have hcb := HR7.out.cell 1 (v := .int .i64 z2) rfl
    have hc38 := HQa.out.row.cell 38 HQa.out.fq
    have hc52 := HQa.out.row.cell 52 e1
    have hc53 := HQa.out.row.cell 53 e2
    have HO1 := Lib.hid o1
    have HO2 := Lib.hid o2
    have HD := Lib.hid hd
    have HE1 := Lib.hid e1
    have HE2 := Lib.hid e2
    have HSZ := Lib.hid HQa.out.fr.size
    clear e1 e2 o1 o2 hd
    obtain ⟨q1, hq1⟩ : ∃ q, (z2 == 0) = q := ⟨_, rfl⟩
    obtain ⟨q2, hq2⟩ : ∃ q, decide (1 < o.fq) = q := ⟨_, rfl⟩
    have hcase : (q1 = true ∨ (q1 = false ∧ q2 = true)) ∨ (q1 = false ∧ q2 = false) := by cases q1 <;> cases q2 <;> simp
    rcases hcase with (rfl | ⟨rfl, rfl⟩) | ⟨rfl, rfl⟩
    iterate 2
      · go_wp2_with (first
          | (at_builtin; go_must (refine appQ _ _ 23 (.int .i64 0) Tryz.underlying23 Tryz.info3 rfl (by omega) HO1.out HSZ.out (by omega) (by omega) rfl (by simp [Value.oneCell']) rfl rfl rfl rfl rfl ?_; intro g1 c1 w1 ho hgb hl; have HQ1 := Lib.hid (HQa.out.grown hgb (fun k hk => (HO1.out.lt k hk).1)); have HO3 := Lib.hid ho; have HO4 := Lib.hid (HO2.out.kept hgb (own_apart HD.out)); have HD1 := Lib.hid (own_apart2 HD.out HO2.out hl); have hcn := HQ1.out.row.cell 52 HE1.out; have hfn := HQ1.out.row.frozen 52; clear ho hgb hl))
          | (fail))
        go_roundw
        case rel => exact ⟨k + 1, _, by go_num, by omega, Lib.hid (HQ1.out.set 52 (by omega) (by simp) _), Lib.hid (TwoL.fst HQ1.out.len (by omega) (by omega) HE2.out l1 l2 HO3.out HO4.out HQ1.out.lt HD1.out)⟩
        case measure => simp [intOf]; omega
    · go_wp2_with (first
        | (at_builtin; go_must (refine appQ _ _ 104 (.agg #[.int .i64 0, .int .i64 0]) Tryz.underlying104 Tryz.info103 rfl (by omega) HO2.out HSZ.out (by omega) (by omega) rfl (by simp [Value.oneCell']) rfl rfl rfl rfl rfl ?_; intro g1 c1 w1 ho hgb hl; have HQ1 := Lib.hid (HQa.out.grown hgb (fun k hk => (HO2.out.lt k hk).1)); have HO3 := Lib.hid ho; have HO4 := Lib.hid (HO1.out.kept hgb (own_apart (fun g h e => HD.out g e h))); have HD1 := Lib.hid (own_apart2 (fun g h e => HD.out g e h) HO1.out hl); have hcn := HQ1.out.row.cell 53 HE2.out; have hfn := HQ1.out.row.frozen 53; clear ho hgb hl))
        | (fail))
      go_roundw
      case rel => exact ⟨k + 1, _, by go_num, by omega, Lib.hid (HQ1.out.set 53 (by omega) (by simp) _), Lib.hid (TwoL.snd HQ1.out.len (by omega) (by omega) HE1.out l1 l2 HO3.out HO4.out HQ1.out.lt HD1.out)⟩
      case measure => simp [intOf]; omega
  case rest =>
  obtain ⟨rs47, HQ47⟩ := hcut
  have HT47 := Lib.hid (HT29.out.of HBD.out HQ47.out)
  have HL47 := Lib.hid HQ47.out.len
  clear HQ41 HF5 HT29 HQ47
  obtain ⟨W47, hW47⟩ : ∃ W : World, W = wc := ⟨_, rfl⟩
  subst hW47
  have hca := HT47.out.a.cell 15 (v := .slice a12 n12 c12) rfl
  have hc38 := HT47.out.q.row.cell 38 HT47.out.q.fq
  have hc39 := HT47.out.q.row.cell 39 HT47.out.q.s39
  have hc40 := HT47.out.q.row.cell 40 HT47.out.q.s40
  obtain ⟨xo, hxo⟩ : ∃ xo, rs47[54]? = some xo := ⟨_, List.getElem?_eq_getElem (show 54 < rs47.length by rw [HT47.out.q.len]; omega)⟩
  have hco := HT47.out.q.row.cell 54 hxo
  have hfo := HT47.out.q.row.frozen 54
  have HXO := Lib.hid (set_same hxo)
  clear hxo
  go_upto_if 198 with fail
  go_cut [198] from 195 to 209 (fun _ wx => ∃ (x : Value) (yh : List Int), Hid (QQ B3 org o.fq s [] W47 (rs47.set 54 x) wx) ∧ Hid (o.fq < 4 → Tl B3 wx x yh))
  case first =>
    rcases (show n12 = 0 ∨ (n12 : Int) ≠ 0 by omega) with rfl | hnz
    · rcases (show o.fq < 4 ∨ ¬ o.fq < 4 by omega) with hfq | hfq
      · go_wp2_with (first
          | (go_at_call 131; go_must (refine (hour_any s _ _ _ _ _ _ 0 _ HC.out).mono ?_; rintro e w1 ⟨rfl, hb1⟩; have HQ1 := Lib.hid (HT47.out.q.call hb1); have hlt1 := HQ1.out.row.lt; have hcn := HQ1.out.row.cell 54 (List.getElem?_eq_getElem (show 54 < rs47.length by rw [HQ1.out.len]; omega)); have hfn := HQ1.out.row.frozen 54; clear hb1))
          | (fail))
        go_meet
        have HF := Lib.hid (HQ1.out.freshL 54 (by omega) (by simp) hh)
        exact ⟨_, [hh], Lib.hid HF.out.1, Lib.hid (fun _ => Tl.one HF.out.2 HCR.out.1)⟩
      · go_wp2
        go_meet
        exact ⟨xo, [], Lib.hid (by rw [HXO.out]; exact HT47.out.q), Lib.hid (fun h => absurd h (by omega))⟩
    · have hnb : ((n12 : Int) == 0) = false := beq_eq_false_iff_ne.2 hnz
      go_wp2
      go_meet
      have HQ1 := Lib.hid (HT47.out.q.set 54 (by omega) (by simp) (.slice a12 n12 c12))
      exact ⟨_, o.ho, HQ1, Lib.hid (fun _ => ⟨HQ1.out.fr.intsX (HR.out.l12.toX HT47.out.hb HBD.out.g3), HK.out.ok.ho.len, win_in (bnd_at HBB.out 2 (by omega)) (by decide)⟩)⟩
  case rest =>
  obtain ⟨x54, y54, HQn, HTh⟩ := hcut
  have HT51 := Lib.hid (HT47.out.of HBD.out HQn.out)
  clear hca hc38 hc39 hc40 hco hfo HXO HQn HT47
  obtain ⟨W47n, hWn⟩ : ∃ W : World, W = wc := ⟨_, rfl⟩
  subst hWn
  have hca := HT51.out.a.cell 16 (v := .slice a13 n13 c13) rfl
  have hc38 := HT51.out.q.row.cell 38 HT51.out.q.fq
  have hc39 := HT51.out.q.row.cell 39 HT51.out.q.s39
  have hc40 := HT51.out.q.row.cell 40 HT51.out.q.s40
  obtain ⟨xo, hxo⟩ : ∃ xo, (rs47.set 54 x54)[55]? = some xo := ⟨_, List.getElem?_eq_getElem (show 55 < (rs47.set 54 x54).length by rw [HT51.out.q.len]; omega)⟩
  have hco := HT51.out.q.row.cell 55 hxo
  have hfo := HT51.out.q.row.frozen 55
  have HXO := Lib.hid (set_same hxo)
  clear hxo
  go_upto_if 213 with fail
  go_cut [213] from 210 to 224 (fun _ wx => ∃ (x : Value) (yh : List Int), Hid (QQ B3 org o.fq s [] W47n ((rs47.set 54 x54).set 55 x) wx) ∧ Hid (o.fq < 4 → Tl B3 wx x yh))
  case first =>
    rcases (show n13 = 0 ∨ (n13 : Int) ≠ 0 by omega) with rfl | hnz
    · rcases (show o.fq < 5 ∨ ¬ o.fq < 5 by omega) with hfq | hfq
      · go_wp2_with (first
          | (go_at_call 132; go_must (refine (minute_any s _ _ _ _ _ _ 0 _ HC.out).mono ?_; rintro e w1 ⟨rfl, hb1⟩; have HQ1 := Lib.hid (HT51.out.q.call hb1); have hlt1 := HQ1.out.row.lt; have hcn := HQ1.out.row.cell 55 (List.getElem?_eq_getElem (show 55 < (rs47.set 54 x54).length by rw [HQ1.out.len]; omega)); have hfn := HQ1.out.row.frozen 55; clear hb1))
          | (fail))
        go_meet
        have HF := Lib.hid (HQ1.out.freshL 55 (by omega) (by simp) mi)
        exact ⟨_, [mi], Lib.hid HF.out.1, Lib.hid (fun _ => Tl.one HF.out.2 HCR.out.2.1)⟩
      · go_wp2
        go_meet
        exact ⟨xo, [], Lib.hid (by rw [HXO.out]; exact HT51.out.q), Lib.hid (fun h => absurd h (by omega))⟩
    · have hnb : ((n13 : Int) == 0) = false := beq_eq_false_iff_ne.2 hnz
      go_wp2
      go_meet
      have HQ1 := Lib.hid (HT51.out.q.set 55 (by omega) (by simp) (.slice a13 n13 c13))
      exact ⟨_, o.mi, HQ1, Lib.hid (fun _ => ⟨HQ1.out.fr.intsX (HR.out.l13.toX HT51.out.hb HBD.out.g3), HK.out.ok.mi.len, win_in (bnd_at HBB.out 1 (by omega)) (by decide)⟩)⟩
  case rest =>
  obtain ⟨x55, y55, HQn, HTm⟩ := hcut
  have HT55 := Lib.hid (HT51.out.of HBD.out HQn.out)
  have HTh : Hid (o.fq < 4 → Tl B3 wc x54 y54) := Lib.hid (fun h => (HTh.out h).fr HQn.out.fr)
  clear hca hc38 hc39 hc40 hco hfo HXO HQn HT51
  obtain ⟨W55, hWn⟩ : ∃ W : World, W = wc := ⟨_, rfl⟩
  subst hWn
  have hca := HT55.out.a.cell 17 (v := .slice a14 n14 c14) rfl
  have hc38 := HT55.out.q.row.cell 38 HT55.out.q.fq
  have hc39 := HT55.out.q.row.cell 39 HT55.out.q.s39
  have hc40 := HT55.out.q.row.cell 40 HT55.out.q.s40
  obtain ⟨xo, hxo⟩ : ∃ xo, ((rs47.set 54 x54).set 55 x55)[56]? = some xo := ⟨_, List.getElem?_eq_getElem (show 56 < ((rs47.set 54 x54).set 55 x55).length by rw [HT55.out.q.len]; omega)⟩
  have hco := HT55.out.q.row.cell 56 hxo
  have hfo := HT55.out.q.row.frozen 56
  have HXO := Lib.hid (set_same hxo)
  clear hxo
  go_upto_if 228 with fail
  go_cut [228] from 225 to 239 (fun _ wx => ∃ (x : Value) (yh : List Int), Hid (QQ B3 org o.fq s [] W55 (((rs47.set 54 x54).set 55 x55).set 56 x) wx) ∧ Hid (o.fq < 4 → Tl B3 wx x yh))
  case first =>
    rcases (show n14 = 0 ∨ (n14 : Int) ≠ 0 by omega) with rfl | hnz
    · rcases (show o.fq < 6 ∨ ¬ o.fq < 6 by omega) with hfq | hfq
      · go_wp2_with (first
          | (go_at_call 133; go_must (refine (second_any s _ _ _ _ _ _ 0 _ HC.out).mono ?_; rintro e w1 ⟨rfl, hb1⟩; have HQ1 := Lib.hid (HT55.out.q.call hb1); have hlt1 := HQ1.out.row.lt; have hcn := HQ1.out.row.cell 56 (List.getElem?_eq_getElem (show 56 < ((rs47.set 54 x54).set 55 x55).length by rw [HQ1.out.len]; omega)); have hfn := HQ1.out.row.frozen 56; clear hb1))
          | (fail))
        go_meet
        have HF := Lib.hid (HQ1.out.freshL 56 (by omega) (by simp) ss)
        exact ⟨_, [ss], Lib.hid HF.out.1, Lib.hid (fun _ => Tl.one HF.out.2 HCR.out.2.2)⟩
      · go_wp2
        go_meet
        exact ⟨xo, [], Lib.hid (by rw [HXO.out]; exact HT55.out.q), Lib.hid (fun h => absurd h (by omega))⟩
    · have hnb : ((n14 : Int) == 0) = false := beq_eq_false_iff_ne.2 hnz
      go_wp2
      go_meet
      have HQ1 := Lib.hid (HT55.out.q.set 56 (by omega) (by simp) (.slice a14 n14 c14))
      exact ⟨_, o.se, HQ1, Lib.hid (fun _ => ⟨HQ1.out.fr.intsX (HR.out.l14.toX HT55.out.hb HBD.out.g3), HK.out.ok.se.len, win_in (bnd_at HBB.out 0 (by omega)) (by decide)⟩)⟩
  case rest =>
  obtain ⟨x56, y56, HQn, HTs⟩ := hcut
  have HT59 := Lib.hid (HT55.out.of HBD.out HQn.out)
  have HTh : Hid (o.fq < 4 → Tl B3 wc x54 y54) := Lib.hid (fun h => (HTh.out h).fr HQn.out.fr)
  have HTm : Hid (o.fq < 4 → Tl B3 wc x55 y55) := Lib.hid (fun h => (HTm.out h).fr HQn.out.fr)
  clear hca hc38 hc39 hc40 hco hfo HXO HQn HT55
  obtain ⟨W59, hWn⟩ : ∃ W : World, W = wc := ⟨_, rfl⟩
  subst hWn
  obtain ⟨rs59, hrs59⟩ : ∃ rs59, rs59 = ((rs47.set 54 x54).set 55 x55).set 56 x56 := ⟨_, rfl⟩
  have HE54 : Hid (rs59[54]? = some x54) := Lib.hid (by rw [hrs59, List.getElem?_set_ne (by omega), List.getElem?_set_ne (by omega), List.getElem?_set_self (by rw [HL47.out]; omega)])
  have HE55 : Hid (rs59[55]? = some x55) := Lib.hid (by rw [hrs59, List.getElem?_set_ne (by omega), List.getElem?_set_self (by rw [List.length_set, HL47.out]; omega)])
  have HE56 : Hid (rs59[56]? = some x56) := Lib.hid (by rw [hrs59, List.getElem?_set_self (by rw [List.length_set, List.length_set, HL47.out]; omega)])
  rw [← hrs59] at HT59
  clear hrs59 HL47
  have HL59 := Lib.hid HT59.out.q.len
  obtain ⟨x58, hc58, hf58⟩ := HT59.out.q.at 58 (by omega)
  have hc38 := HT59.out.q.row.cell 38 HT59.out.q.fq
  have HQ61 := Lib.hid (HT59.out.q.set 58 (by omega) (by simp) (.slice none 0 0))
  go_upto_if 243 with fail
  go_cut [9, 11, 13, 243] from 240 to 296 (fun _ _ _ _ wx => ∃ rs' : List Value, Hid (QQ B3 org o.fq s [] W59 rs' wx))
  case first =>
    rcases (show ¬ o.fq < 4 ∨ o.fq < 4 by omega) with hfq | hfq
    · go_wp2
      go_meet
      exact ⟨_, HQ61⟩
    have hTh := HTh.out hfq
    have hTm := HTm.out hfq
    have hTs := HTs.out hfq
    clear HTh HTm HTs
    obtain ⟨ah, ch, rfl, hfh⟩ := hTh.x.form
    obtain ⟨am, cm, rfl, hfm⟩ := hTm.x.form
    obtain ⟨asl, csl, rfl, hfs⟩ := hTs.x.form
    have hlh := hTh.len
    have hlm := hTm.len
    have hls := hTs.len
    have HRh := Lib.hid hTh.rng
    have HRm := Lib.hid hTm.rng
    have HRs := Lib.hid hTs.rng
    have HFh := Lib.hid hfh
    have HFm := Lib.hid hfm
    have HFs := Lib.hid hfs
    clear hTh hTm hTs hfh hfm hfs
    have ht54 := HT59.out.q.row.cell 54 HE54.out
    have ht55 := HT59.out.q.row.cell 55 HE55.out
    have ht56 := HT59.out.q.row.cell 56 HE56.out
    obtain ⟨P1, hP1⟩ : ∃ P1 : Nat, P1 = y54.length * y55.length := ⟨_, rfl⟩
    obtain ⟨P2, hP2⟩ : ∃ P2 : Nat, P2 = P1 * y56.length := ⟨_, rfl⟩
    have hp1 : P1 ≤ 1000 * 1000 := by rw [hP1]; exact Nat.mul_le_mul hlh hlm
    have hp2 : P2 ≤ 1000 * 1000 * 1000 := by rw [hP2]; exact Nat.mul_le_mul hp1 hls
    have hm1 : wrap64 ((y54.length : Int) * (y55.length : Int)) = (P1 : Int) := by rw [show ((y54.length : Int) * (y55.length : Int)) = (P1 : Int) by rw [hP1]; exact (Int.natCast_mul _ _).symm]; exact IntWalk.wrap64_in _ (by omega)
    have hm2 : wrap64 ((P1 : Int) * (y56.length : Int)) = (P2 : Int) := by rw [show ((P1 : Int) * (y56.length : Int)) = (P2 : Int) by rw [hP2]; exact (Int.natCast_mul _ _).symm]; exact IntWalk.wrap64_in _ (by omega)
    have HM2 := Lib.hid hm2
    clear hm2
    obtain ⟨i0, hi0, hz0, hz1, hz2⟩ := info_parts Tryz.t101
    have HI0 := Lib.hid hi0
    have HZ0 := Lib.hid hz0
    have HZ1 := Lib.hid hz1
    have HZ2 := Lib.hid hz2
    have HSZ := Lib.hid HQ61.out.fr.size
    clear hP1 hP2 hi0 hz0 hz1 hz2
    go_upto_region 63 with (first
      | (at_make; go_must (refine wpList_make_own _ rfl _ _ 125 rfl W59.heap.size 101 i0 (.agg #[.int .i64 0, .int .i64 0]) 2 Tryz.v125 HI0.out HZ0.out HZ1.out .i64 .i64 _ P2 rfl rfl HM2.out (by rw [HZ2.out]; omega) (by simp only [maxLen]; omega) HSZ.out ?_; intro w1 hown hgr; have HQ62 := Lib.hid (HQ61.out.grown hgr (fun k hk => by cases hk)); have HOWa := Lib.hid hown; have hcn := HQ62.out.row.cell 58 (v := .slice none 0 0) (List.getElem?_set_self (by rw [HL59.out]; omega)); have hfn := HQ62.out.row.frozen 58; clear hown hgr))
      | (fail))
    have HOW : Hid (w1.ownsRow W59.heap.size 101 2 (.slice (some ⟨W59.heap.size, 0, none⟩) 0 P2) 0 []) := Lib.hid (by have h := HOWa.out; rw [World.size_setCell] at h; exact h)
    have HM0 : Hid (TM B3 org o.fq s W59 rs59 0 (w1.setCell ⟨B3, 58, none⟩ (.slice (some ⟨W59.heap.size, 0, none⟩) 0 P2))) := Lib.hid ⟨_, P2, [], by have h := HQ62.out.set 58 (by omega) (by simp) (.slice (some ⟨W59.heap.size, 0, none⟩) 0 P2); rw [List.set_set] at h; exact h, ownsRow_setCell_below HOW.out HQ62.out.lt _, Nat.le_refl _⟩
    change Code.wp _ _ _ _ (w1.setCell ⟨B3, 58, none⟩ (.slice (some ⟨W59.heap.size, 0, none⟩) 0 P2))
    clear hcn hfn HOW HOWa HQ62 HSZ hm1 HM2 hc38 hc58 hf58
    generalize w1.setCell ⟨B3, 58, none⟩ (.slice (some ⟨W59.heap.size, 0, none⟩) 0 P2) = W63 at *
    have hc54 : W63.cell? ⟨B3, 54, none⟩ = some (.slice ah y54.length ch) := by
      obtain ⟨a, c, ds, hq, _, _⟩ := HM0.out
      exact hq.row.cell 54 (by rw [List.getElem?_set_ne (by omega)]; exact HE54.out)
    go_wp2
    go_loopw [260] (fun vi wr => ∃ k1 : Nat, vi = .int .i64 k1 ∧ k1 ≤ y54.length ∧ Hid (TM B3 org o.fq s W59 rs59 (1000000 * k1) wr)) (fun vi _ => y54.length - (intOf vi).toNat)
    case atStart => exact ⟨0, rfl, Nat.zero_le _, HM0⟩
    case round =>
    obtain ⟨k1, rfl, hk1, HM⟩ := hrel
    clear HM0 hc54
    by_cases hlt1 : k1 < y54.length
    case neg =>
      obtain ⟨a, c, ds, hq, ho, hm⟩ := HM.out
      have hc58 := hq.row.cell 58 (v := .slice a ds.length c) (List.getElem?_set_self (by rw [HL59.out]; omega))
      have HSRT := Lib.hid (times_sort hq ho (by omega))
      clear hq ho HM
      go_wp2_with (first
        | (go_at_call 135; go_must (refine HSRT.out.mono ?_; rintro e w2 ⟨rfl, hq2⟩))
        | (fail))
      go_meet
      exact ⟨_, Lib.hid hq2⟩
    obtain ⟨g1, q1, rfl, hgn1, hg1⟩ := HFh.out k1 hlt1
    have HZH := Lib.hid (HRh.out _ (List.getElem_mem hlt1))
    have hcz : wr.cell? ⟨g1, q1 + k1, none⟩ = some (.int .i64 y54[k1]) := by
      obtain ⟨a, c, ds, hq, _, _⟩ := HM.out
      exact (hq.fr.ints hg1 hgn1).cell k1 y54[k1] (List.getElem?_eq_getElem hlt1)
    have hc55 : wr.cell? ⟨B3, 55, none⟩ = some (.slice am y55.length cm) := by
      obtain ⟨a, c, ds, hq, _, _⟩ := HM.out
      exact hq.row.cell 55 (by rw [List.getElem?_set_ne (by omega)]; exact HE55.out)
    obtain ⟨zh, hzh⟩ : ∃ z, y54[k1] = z := ⟨_, rfl⟩
    rw [hzh] at hcz HZH
    clear hzh hg1 hgn1
    obtain ⟨wo1, rfl⟩ : ∃ W : World, W = wr := ⟨_, rfl⟩
    go_wp2
    go_loopw [267] (fun vi wr => ∃ k2 : Nat, vi = .int .i64 k2 ∧ k2 ≤ y55.length ∧ Hid (TM B3 org o.fq s W59 rs59 (1000000 * k1 + 1000 * k2) wr)) (fun vi _ => y55.length - (intOf vi).toNat)
    case atStart => exact ⟨0, rfl, Nat.zero_le _, HM⟩
    case round =>
    obtain ⟨k2, rfl, hk2, HN⟩ := hrel
    clear hcz hc55
    by_cases hlt2 : k2 < y55.length
    case neg =>
      go_wp2
      go_roundw
      case rel => exact ⟨k1 + 1, by go_num, by omega, Lib.hid (HN.out.more (by omega))⟩
      case measure => simp [intOf]; omega
    obtain ⟨g2, q2, rfl, hgn2, hg2⟩ := HFm.out k2 hlt2
    have HZM := Lib.hid (HRm.out _ (List.getElem_mem hlt2))
    have hcz : wr.cell? ⟨g2, q2 + k2, none⟩ = some (.int .i64 y55[k2]) := by
      obtain ⟨a, c, ds, hq, _, _⟩ := HN.out
      exact (hq.fr.ints hg2 hgn2).cell k2 y55[k2] (List.getElem?_eq_getElem hlt2)
    have hc56 : wr.cell? ⟨B3, 56, none⟩ = some (.slice asl y56.length csl) := by
      obtain ⟨a, c, ds, hq, _, _⟩ := HN.out
      exact hq.row.cell 56 (by rw [List.getElem?_set_ne (by omega)]; exact HE56.out)
    obtain ⟨zm, hzm⟩ : ∃ z, y55[k2] = z := ⟨_, rfl⟩
    rw [hzm] at hcz HZM
    clear hzm hg2 hgn2
    obtain ⟨wo2, rfl⟩ : ∃ W : World, W = wr := ⟨_, rfl⟩
    go_wp2
    go_loopw [274] (fun vi wr => ∃ k3 : Nat, vi = .int .i64 k3 ∧ k3 ≤ y56.length ∧ Hid (TM B3 org o.fq s W59 rs59 (1000000 * k1 + 1000 * k2 + k3) wr)) (fun vi _ => y56.length - (intOf vi).toNat)
    case atStart => exact ⟨0, rfl, Nat.zero_le _, HN⟩
    case round =>
    obtain ⟨k3, rfl, hk3, HO⟩ := hrel
    clear hcz hc56
    by_cases hlt3 : k3 < y56.length
    case neg =>
      go_wp2
      go_roundw
      case rel => exact ⟨k2 + 1, by go_num, by omega, Lib.hid (HO.out.more (by omega))⟩
      case measure => simp [intOf]; omega
    obtain ⟨g3, q3, rfl, hgn3, hg3⟩ := HFs.out k3 hlt3
    have HZS := Lib.hid (HRs.out _ (List.getElem_mem hlt3))
    obtain ⟨a, c, ds, hq, ho, hm⟩ := HO.out
    have hcz := (hq.fr.ints hg3 hgn3).cell k3 y56[k3] (List.getElem?_eq_getElem hlt3)
    obtain ⟨zs, hzs⟩ : ∃ z, y56[k3] = z := ⟨_, rfl⟩
    rw [hzs] at hcz HZS
    have HQr := Lib.hid hq
    have HOr := Lib.hid ho
    clear hzs hg3 hgn3 HO hq ho
    go_upto_region 72 with fail
    obtain ⟨T, hT⟩ : ∃ T, T = dayNum 1 1 1 * 86400 + zh * 3600 + zm * 60 + zs := ⟨_, rfl⟩
    have H134 : Hid (∀ w, Calls Tryz.prog 134 #[.int .i64 1, .int .i64 1, .int .i64 1, .int .i64 zh, .int .i64 zm, .int .i64 zs, .int .i64 0, .agg #[]] w fun e w' => e = .returned (.agg #[.int .i64 T, .int .i64 0]) ∧ Below w.heap.size w w') := Lib.hid (fun w => by
      have h1 := HZH.out; have h2 := HZM.out; have h3 := HZS.out
      rw [hT]
      exact date_any 1 1 1 zh zm zs w (by omega) (by omega) (by omega) (by omega) (by omega) (by omega) (by omega) (by omega) (by omega) (by omega) (by omega) (by omega) 0 (by omega) (by omega))
    have H120 := Lib.hid (fun w => locT_any s 0 w)
    have H58 : Hid ((rs59.set 58 (.slice a ds.length c))[58]? = some (.slice a ds.length c)) := Lib.hid (List.getElem?_set_self (by rw [HL59.out]; omega))
    clear hT hcz
    --T72
    refine wp_region_table (β := Nat × Value) (fun b => #[.agg (Value.int .i64 o.fq :: Value.int .i64 o.st.1 :: Value.int .i64 o.st.2 :: Value.int .i64 o.iv :: Value.int .i64 o.wk.1 :: Value.int .i64 o.wk.2 :: Value.int .i64 o.ct :: Value.int .i64 o.un.1 :: Value.int .i64 o.un.2 :: L).toArray, .pointer (some ⟨B1, 0, none⟩), .pointer (some ⟨B2, 0, none⟩), .pointer (some ⟨B3, 0, none⟩), undef, u5, undef, u7, undef, .int .i64 (zh), undef, .int .i64 (zm), undef, .int .i64 (zs), u14, u15, u16, u17, u18, u19, u20, u21, u22, u23, u24, u25, u26, u27, u28, u29, u30, u31, u32, u33, u34, u35, u36, u37, u38, u39, u40, u41, u42, u43, u44, u45, u46, u47, u48, u49, u50, u51, u52, u53, u54, u55, u56, u57, u58, u59, u60, u61, u62, u63, u64, u65, u66, u67, u68, u69, u70, u71, u72, u73, u74, u75, u76, u77, u78, u79, u80, u81, u82, u83, u84, u85, u86, u87, u88, u89, u90, u91, u92, u93, u94, u95, u96, u97, u98, u99, u100, u101, u102, u103, u104, u105, u106, u107, u108, u109, u110, u111, u112, u113, u114, u115, u116, u117, u118, u119, u120, u121, u122, u123, u124, u125, u126, u127, u128, u129, .pointer (some ⟨B1, 10, none⟩), .slice x1 m1 k0, .pointer (some ⟨B3, 47, none⟩), .pointer (some ⟨B1, 12, none⟩), .slice a9 n9 c9, .pointer (some ⟨B3, 50, none⟩), .pointer (some ⟨B1, 18, none⟩), .slice a15 n15 c15, .pointer (some ⟨B3, 57, none⟩), u139, u140, u141, u142, u143, u144, u145, u146, u147, u148, u149, u150, u151, u152, u153, u154, u155, u156, u157, u158, u159, u160, u161, u162, u163, u164, u165, u166, u167, u168, u169, u170, u171, u172, u173, u174, u175, u176, u177, u178, u179, u180, u181, u182, u183, u184, u185, u186, u187, u188, u189, u190, u191, u192, u193, u194, u195, u196, u197, u198, u199, u200, u201, u202, u203, u204, u205, u206, u207, u208, u209, u210, u211, u212, u213, u214, u215, u216, u217, u218, u219, u220, u221, u222, u223, u224, u225, u226, u227, u228, u229, u230, u231, u232, u233, u234, u235, u236, u237, u238, u239, .pointer (some ⟨B3, 58, none⟩), .pointer (some ⟨B3, 38, none⟩), .int .i64 (o.fq), .bool true, .pointer (some ⟨B3, 54, none⟩), .slice (some ⟨g1, q1, none⟩) y54.length ch, .int .i64 (y54.length), .pointer (some ⟨B3, 55, none⟩), .slice (some ⟨g2, q2, none⟩) y55.length cm, .int .i64 (y55.length), .int .i64 (P1), .pointer (some ⟨B3, 56, none⟩), .slice (some ⟨g3, q3, none⟩) y56.length csl, .int .i64 (y56.length), .int .i64 (wrap64 ((P1 : Int) * (y56.length : Int))), .slice (some ⟨W59.heap.size, 0, none⟩) 0 P2, .pointer (some ⟨B3, 58, none⟩), .pointer (some ⟨B3, 54, none⟩), .slice (some ⟨g1, q1, none⟩) y54.length ch, .int .i64 (y54.length), .int .i64 (k1), .bool true, .pointer (some ⟨g1, q1 + k1, none⟩), .int .i64 (zh), .pointer (some ⟨B3, 55, none⟩), .slice (some ⟨g2, q2, none⟩) y55.length cm, .int .i64 (y55.length), .int .i64 (k2), .bool true, .pointer (some ⟨g2, q2 + k2, none⟩), .int .i64 (zm), .pointer (some ⟨B3, 56, none⟩), .slice (some ⟨g3, q3, none⟩) y56.length csl, .int .i64 (y56.length), .int .i64 (k3), .bool true, .pointer (some ⟨g3, q3 + k3, none⟩), .int .i64 (zs), .pointer (some ⟨B3, 58, none⟩), .slice a ds.length c, .int .i64 (zh), .int .i64 (zm), .int .i64 (zs), .pointer (some ⟨B3, 39, none⟩), .agg #[.int .i64 s, .int .i64 0], .agg #[], .agg #[.int .i64 T, .int .i64 0], .slice (some ⟨b.1, 0, none⟩) 1 1, b.2, .pointer (some ⟨B3, 58, none⟩), u290, u291, u292, undef, undef, undef, undef, undef, undef, undef]) (fun b listed W => K72 B3 org o.fq s W59 (rs59.set 58 (.slice a ds.length c)) (.slice a ds.length c) ds.length (flat2 ds) T b listed W) 300 (fun _ => rfl) rfl (by kernel_rfl) (0, undef) rfl [278, 279, 280, 281, 282, 283, 284, 285, 286, 287, 288, 289] (by kernel_rfl) (by kernel_rfl) (K72.start 13 (HQr.out.drew) HOr.out) ?hs ?hdone
    case hs =>
      refine ⟨StepF.of (fun b listed w1 hB hf hdep K' Q' hK' => ?_), ?_⟩
      · clear hf hdep
        go_simp
        refine hK'.out _ _ ⟨rfl, b, fun _ _ => rfl, fun d e => (by cases e; rfl), hB.other (by decide) (by decide) (by decide)⟩
      refine ⟨StepF.of (fun b listed w1 hB hf hdep K' Q' hK' => ?_), ?_⟩
      · obtain ⟨hcc, _⟩ := hB.c58 (hB.n1 hf) H58.out
        clear hf hdep
        go_simp
        refine hK'.out _ _ ⟨rfl, b, fun _ _ => rfl, fun d e => (by cases e; rfl), hB.other (by decide) (by decide) (by decide)⟩
      refine ⟨StepF.of (fun b listed w1 hB hf hdep K' Q' hK' => ?_), ?_⟩
      · clear hf hdep
        go_simp
        refine hK'.out _ _ ⟨rfl, b, fun _ _ => rfl, fun d e => (by cases e; rfl), hB.other (by decide) (by decide) (by decide)⟩
      refine ⟨StepF.of (fun b listed w1 hB hf hdep K' Q' hK' => ?_), ?_⟩
      · clear hf hdep
        go_simp
        refine hK'.out _ _ ⟨rfl, b, fun _ _ => rfl, fun d e => (by cases e; rfl), hB.other (by decide) (by decide) (by decide)⟩
      refine ⟨StepF.of (fun b listed w1 hB hf hdep K' Q' hK' => ?_), ?_⟩
      · clear hf hdep
        go_simp
        refine hK'.out _ _ ⟨rfl, b, fun _ _ => rfl, fun d e => (by cases e; rfl), hB.other (by decide) (by decide) (by decide)⟩
      refine ⟨StepF.of (fun b listed w1 hB hf hdep K' Q' hK' => ?_), ?_⟩
      · clear hf hdep
        go_simp
        refine hK'.out _ _ ⟨rfl, b, fun _ _ => rfl, fun d e => (by cases e; rfl), hB.other (by decide) (by decide) (by decide)⟩
      refine ⟨StepF.of (fun b listed w1 hB hf hdep K' Q' hK' => ?_), ?_⟩
      · obtain ⟨hcc, hcd⟩ := hB.c39
        clear hf hdep
        go_simp
        refine hK'.out _ _ ⟨rfl, b, fun _ _ => rfl, fun d e => (by cases e; rfl), hB.other (by decide) (by decide) (by decide)⟩
      refine ⟨StepF.of (fun b listed w1 hB hf hdep K' Q' hK' => ?_), ?_⟩
      · clear hf hdep
        go_simp
        go_at_call 120
        refine (H120.out _).mono ?_
        rintro e w2 ⟨rfl, hb2⟩
        try dsimp only
        refine hK'.out _ _ ⟨rfl, b, fun _ _ => rfl, fun d e => (by cases e; rfl), (hB.call hb2).other (by decide) (by decide) (by decide)⟩
      refine ⟨StepF.of (fun b listed w1 hB hf hdep K' Q' hK' => ?_), ?_⟩
      · clear hf hdep
        go_simp
        go_at_call 134
        refine (H134.out _).mono ?_
        rintro e w2 ⟨rfl, hb2⟩
        try dsimp only
        refine hK'.out _ _ ⟨rfl, b, fun _ _ => rfl, fun d e => (by cases e; rfl), (hB.call hb2).other (by decide) (by decide) (by decide)⟩
      refine ⟨StepF.of (fun b listed w1 hB hf hdep K' Q' hK' => ?_), ?_⟩
      · have hm9 := hB.made9 hf
        clear hf hdep
        go_simp
        refine hK'.out _ _ ⟨rfl, (w1.heap.size, b.2), fun k e => getD_upd2 (d := 287) (v := .slice (some ⟨w1.heap.size, 0, none⟩) 1 1) rfl e, fun d e => (by cases e; rfl), hm9⟩
      refine ⟨StepF.of (fun b listed w1 hB hf hdep K' Q' hK' => ?_), ?_⟩
      · have h9 := hdep ⟨9, .data⟩ (by simp) rfl
        have h1 := hdep ⟨1, .data⟩ (by simp) rfl
        refine step_k10 (.tmp 279) (.tmp 287) hB h9 h1 hf (by omega) rfl rfl rfl (fun v1 w2 h => ?_)
        exact hK'.out _ _ ⟨rfl, (b.1, v1), fun k e => getD_upd2 (d := 288) (v := v1) rfl e, fun d e => (by cases e; rfl), h⟩
      refine ⟨StepF.of (fun b listed w1 hB hf hdep K' Q' hK' => ?_), ?_⟩
      · clear hf hdep
        go_simp
        refine hK'.out _ _ ⟨rfl, b, fun _ _ => rfl, fun d e => (by cases e; rfl), hB.other (by decide) (by decide) (by decide)⟩
      refine ⟨StepF.of (fun b listed w1 hB hf hdep K' Q' hK' => ?_), ?_⟩
      · have h10 := hdep ⟨10, .data⟩ (by simp) rfl
        have hs := hB.store12 h10 hf
        obtain ⟨bn, bv⟩ := b
        obtain ⟨g5, c5, hbv, _⟩ := (hB.own1 h10).form (by omega)
        simp only at hbv
        subst hbv
        obtain ⟨hcc, hcf⟩ := hB.c58 (fun e => by rw [hf] at e; cases e) H58.out
        clear hf hdep h10
        go_simp
        refine hK'.out _ _ ⟨rfl, (bn, _), fun _ _ => rfl, fun d e => (by cases e), hs⟩
      trivial
    case hdone =>
      intro b listed w5 hK hall
      have HM5 := Lib.hid (TM.next hK hall hm)
      clear hK hall
      go_wp2
      go_roundw
      case rel => exact ⟨k3 + 1, by go_num, by omega, Lib.hid (HM5.out.more (by omega))⟩
      case measure => simp [intOf]; omega
    --T72e
  case rest =>
  obtain ⟨rs76, HQ76⟩ := hcut
  have HT76 := Lib.hid (HT59.out.of HBD.out HQ76.out)
  clear HTh HTm HTs HE54 HE55 HE56 HQ61 HQ76 hc38 hc58 hf58 HT59
  obtain ⟨W76, hW76⟩ : ∃ W : World, W = wc := ⟨_, rfl⟩
  subst hW76
  obtain ⟨cs, hcs, hsz, hone⟩ : ∃ cs : Array Value, cs.toList = aL o.fq s 0 iv o.wk.1 o.wk.2 ct u m [.slice a6 n6 c6, .slice x1 m1 k0, .slice a2 y2.length c2, .slice a9 n9 c9, .slice a10 n10 c10, .slice a5 y5.length c5, .slice a12 n12 c12, .slice a13 n13 c13, .slice a14 n14 c14, .slice a15 n15 c15] ∧ cs.size = 19 ∧ cs.all (·.oneCell') = true := ⟨(aL o.fq s 0 iv o.wk.1 o.wk.2 ct u m [.slice a6 n6 c6, .slice x1 m1 k0, .slice a2 y2.length c2, .slice a9 n9 c9, .slice a10 n10 c10, .slice a5 y5.length c5, .slice a12 n12 c12, .slice a13 n13 c13, .slice a14 n14 c14, .slice a15 n15 c15]).toArray, rfl, rfl, by simp [aL, Value.oneCell']⟩
  have hT := HT76.out
  rw [← hcs] at hT
  have HA := Lib.hid hT.a
  have HCS := Lib.hid hsz
  have HONE := Lib.hid hone
  have hls : cs.toList.length = 19 := by rw [Array.length_toList]; exact hsz
  have HTH := Lib.hid (hT.q.row.thereAt 19 cs.size (by rw [hsz, hT.q.len]; omega))
  have hR3 := hT.q.row.sets 19 cs.toList
  have hZ3 := hT.z.setsOther HBD.out.n23 19 cs.toList
  have hB77 := bsets hT.hb HBD.out.g3 19 cs.toList
  have hlen : (setsL rs76 19 cs.toList).length = 60 := by rw [setsL_length]; exact hT.q.len
  have htk : (setsL rs76 19 cs.toList).take 19 = org := by rw [setsL_take _ _ _ _ (Nat.le_refl _)]; exact hT.q.org
  have hon2 := setsL_one cs.toList (fun x hx => by have := Array.all_eq_true_iff_forall_mem.1 hone x (by simpa using hx); exact this) rs76 19 hT.q.one
  generalize setsL rs76 19 cs.toList = rsF at *
  have HR3 := Lib.hid hR3
  have HZ3 := Lib.hid hZ3
  have HB77 := Lib.hid hB77
  have HLF := Lib.hid (show rsF.toArray.size = 60 by rw [List.size_toArray]; exact hlen)
  have HTK := Lib.hid htk
  have HON2 := Lib.hid (all_oneCell_toArray hon2)
  clear hT hR3 hZ3 hB77 hlen htk hon2 hcs hsz hone hls HT76
  go_upto_region 78 with (first
    | (refine wpList_load_row rfl 106 _ rfl B1 rfl 106 cs (0, 0) _ HA.out.blk Tryz.underlying106 rfl (by rw [HCS.out]; as_aux_lemma => kernel_rfl) ?_)
    | (refine wpList_store_mid rfl 106 _ _ rfl B3 19 cs rfl rfl HTH.out (by rw [HCS.out]; as_aux_lemma => kernel_rfl) HONE.out ?_)
    | (fail))
  change Code.wp _ _ _ _ (W76.setCells B3 19 cs.toList)
  generalize W76.setCells B3 19 cs.toList = W77 at *
  go_wp2_with (first
    | (refine wpList_load_row rfl 150 _ rfl B3 rfl 150 rsF.toArray (0, 0) _ HR3.out.blk Tryz.underlying150 rfl (by rw [HLF.out]; as_aux_lemma => kernel_rfl) ?_)
    | (refine wpList_store_row rfl 150 _ _ rfl B2 rsF.toArray rfl rfl 150 _ HZ3.out.blk (by rw [HLF.out]; as_aux_lemma => kernel_rfl) (by rw [HLF.out]; rfl) HON2.out ?_)
    | (fail))
  refine bodyPost_ret (results_cell_row rfl _ _ B2 150 rsF.toArray (0, 0) _ rfl (setRow_heap _ _ _ _ _ _ HZ3.out.blk) Tryz.underlying150 rfl (by rw [HLF.out]; as_aux_lemma => kernel_rfl)) rfl ⟨rsF.toArray, rfl, HLF.out, HON2.out, ?_, ?_⟩
  · rw [List.toList_toArray, HTK.out, HORG.out]
    exact HVAL.out
  · exact below_setRow HB77.out HBD.out.g2 _
end Go.Proofs.YtcfbkkcamiephaaGreatDoor
