import Derived.Test.YtcfbkkcamiephaaGreatDoorE6
import Derived.Test.YtcfbkkcamiephaaGreatDoorS1
import Derived.Deep.LoopGhost
import Derived.Deep.RegionHeld3
import Derived.Deep.RegionLaw
import Derived.Deep.DrawnRows
import Derived.Deep.AppendLies
import Derived.Deep.DeepCutAuto
import Derived.Deep.CutBlock
namespace Go.Proofs.YtcfbkkcamiephaaGreatDoor
open Go.RowKit
attribute [local go_sem ↓] Go.wp_at_zero Go.wp_at_succ

/-! ### impl.rule -/
def ruleZ : Array Value := #[.int .u8 0, .bool false, .int .i64 0, .int .i64 0, .int .i64 0, .int .i64 0, .bool false, .int .i64 0, .slice none 0 0, .slice none 0 0, .slice none 0 0, .slice none 0 0, .slice none 0 0, .slice none 0 0, .slice none 0 0, .slice none 0 0, .slice none 0 0, .slice none 0 0]
structure Kp (w : World) (N R : Nat) (W : World) : Prop where
  lt : N < W.heap.size
  hb : Below w.heap.size w W
  row : RowAt W R 31 ruleZ.toList
theorem kp_call {w W w1 : World} {N R : Nat} {L : Nat → Option Value} (h : (∀ i, W.cell? ⟨N, i, none⟩ = L i) ∧ Kp w N R W) (hb : Below W.heap.size W w1) : (∀ i, w1.cell? ⟨N, i, none⟩ = L i) ∧ Kp w N R w1 :=
  ⟨fun i => ((bcell hb).1 N i h.2.lt).trans (h.1 i), Nat.lt_of_lt_of_le h.2.lt hb.size, h.2.hb.trans (hb.mono h.2.hb.size), h.2.row.below hb⟩
theorem kp_drew {w W : World} {N R : Nat} {L : Nat → Option Value} (h : (∀ i, W.cell? ⟨N, i, none⟩ = L i) ∧ Kp w N R W) : (∀ i, W.drew.cell? ⟨N, i, none⟩ = L i) ∧ Kp w N R W.drew :=
  kp_call h (Below.refl _ _).drew
theorem kp_alloc {w W : World} {N R : Nat} {L : Nat → Option Value} (h : (∀ i, W.cell? ⟨N, i, none⟩ = L i) ∧ Kp w N R W) (ob : Obj) : (∀ i, (W.alloc ob).cell? ⟨N, i, none⟩ = L i) ∧ Kp w N R (W.alloc ob) :=
  kp_call h ((Below.refl _ _).alloc (Nat.le_refl _) _)
theorem kp_setRow {w W : World} {N : Nat} {L : Nat → Option Value} (hN : N < w.heap.size) (h : (∀ i, W.cell? ⟨N, i, none⟩ = L i) ∧ Kp w N w.heap.size W) (b : Nat) (c : Array Value) (hb : w.heap.size < b) : (∀ i, (W.setRow b c).cell? ⟨N, i, none⟩ = L i) ∧ Kp w N w.heap.size (W.setRow b c) :=
  ⟨fun i => (cell_setRow_other W b c _ (by show N ≠ b; omega)).trans (h.1 i), by rw [setRow_size]; exact h.2.lt, below_setRow h.2.hb (Nat.le_of_lt hb) c, ⟨(setRow_other W b _ c (by omega)).trans h.2.row.blk⟩⟩
theorem Kp.rlt {w W : World} {N R : Nat} {L : Nat → Option Value} (h : (∀ i, W.cell? ⟨N, i, none⟩ = L i) ∧ Kp w N R W) : R < W.heap.size := h.2.row.lt
theorem rowA_new {W w1 : World} {c : Array Value} {n : Nat} (hb : Below n (W.alloc (.cells c 31)) w1) (hn : W.heap.size < n) : w1.heap[W.heap.size]? = some (.cells c 31 (0, 0)) :=
  (hb.block _ hn).trans (heap_alloc_new W _)
theorem rowA_newd {W w1 : World} {c : Array Value} {n : Nat} (hb : Below n (W.alloc (.cells c 31)).drew w1) (hn : W.heap.size < n) : w1.heap[W.heap.size]? = some (.cells c 31 (0, 0)) :=
  (hb.block _ hn).trans (heap_alloc_new W _)
theorem rowA_next {W w1 : World} {b : Nat} {c : Array Value} (h : W.heap[b]? = some (.cells c 31 (0, 0))) (hb : Below W.heap.size W w1) : w1.heap[b]? = some (.cells c 31 (0, 0)) :=
  (hb.block _ (Array.getElem?_eq_some_iff.1 h).1).trans h
/-- The store of a whole row, kept from the walk's unfolding. -/
def lockStore (a : Addr) (l : List Value) : Sem Unit := storeCells a l 0
/-- what the region keeps of the world, the rule's block and what stands in it -/
def KB (w : World) (N : Nat) (L : Nat → Option Value) (M : Array Value) (b : Nat) (listed : Array Bool) (W : World) : Prop :=
  ((∀ i, W.cell? ⟨N, i, none⟩ = L i) ∧ Kp w N w.heap.size W) ∧ (listed[77]? = some true → listed[76]? = some true) ∧
  (listed[76]? = some true → w.heap.size < b ∧ b < W.heap.size ∧ (listed[77]? = some false → W.heap[b]? = some (.cells ruleZ 31 (0, 0))) ∧ (listed[77]? = some true → W.heap[b]? = some (.cells M 31 (0, 0))))
theorem row_next {W w1 : World} {b : Nat} {c : Array Value} (h : W.heap[b]? = some (.cells c 31 (0, 0))) (_ : b < W.heap.size) (hb : Below W.heap.size W w1) : w1.heap[b]? = some (.cells c 31 (0, 0)) := rowA_next h hb
theorem KB.call {w W w1 : World} {N : Nat} {L : Nat → Option Value} {M : Array Value} {b : Nat} {listed : Array Bool} (h : KB w N L M b listed W) (hb : Below W.heap.size W w1) : KB w N L M b listed w1 :=
  ⟨kp_call h.1 hb, h.2.1, fun h6 => by
    obtain ⟨h1, h2, h3, h4⟩ := h.2.2 h6
    exact ⟨h1, Nat.lt_of_lt_of_le h2 hb.size, fun h7 => row_next (h3 h7) h2 hb, fun h7 => row_next (h4 h7) h2 hb⟩⟩
theorem KB.other {w W : World} {N : Nat} {L : Nat → Option Value} {M : Array Value} {b i : Nat} {listed : Array Bool} (h : KB w N L M b listed W) (h6 : i ≠ 76) (h7 : i ≠ 77) : KB w N L M b (listed.setIfInBounds i true) W := by
  unfold KB
  rw [Array.getElem?_setIfInBounds_ne h6, Array.getElem?_setIfInBounds_ne h7]
  exact h
theorem getD_upd {s t : Array Value} {d k : Nat} {v : Value} (h : s = t.setIfInBounds d v) (e : some d ≠ some k) : s.getD k undef = t.getD k undef := by
  rw [h, Array.getD_eq_getD_getElem?, Array.getD_eq_getD_getElem?, Array.getElem?_setIfInBounds_ne (fun h => e (by rw [h]))]
theorem set_self {listed : Array Bool} {i : Nat} {x : Bool} (h : listed[i]? = some x) : (listed.setIfInBounds i true)[i]? = some true := by
  have := (Array.getElem?_eq_some_iff.1 h).1
  simp [this]
theorem KB.made {w W : World} {N : Nat} {L : Nat → Option Value} {M : Array Value} {b : Nat} {listed : Array Bool} (h : KB w N L M b listed W) (hf : listed[76]? = some false) : KB w N L M W.heap.size (listed.setIfInBounds 76 true) (W.alloc (.cells ruleZ 31)) := by
  have h7 : listed[77]? ≠ some true := fun e => by have := h.2.1 e; rw [hf] at this; cases this
  refine ⟨kp_alloc h.1 _, fun _ => set_self hf, fun _ => ⟨Kp.rlt h.1, by simp, fun _ => heap_alloc_new W _, fun e => ?_⟩⟩
  rw [Array.getElem?_setIfInBounds_ne (by omega)] at e
  exact absurd e h7
theorem KB.kept {w W : World} {N : Nat} {L : Nat → Option Value} {M : Array Value} {b : Nat} {listed : Array Bool} (hN : N < w.heap.size) (h : KB w N L M b listed W) (hf : listed[77]? = some false) (h6 : listed[76]? = some true) : KB w N L M b (listed.setIfInBounds 77 true) (W.setRow b M) := by
  obtain ⟨h1, h2, h3, h4⟩ := h.2.2 h6
  have h6' : (listed.setIfInBounds 77 true)[76]? = some true := by rw [Array.getElem?_setIfInBounds_ne (by omega)]; exact h6
  refine ⟨kp_setRow hN h.1 b M h1, fun _ => h6', fun _ => ⟨h1, ?_, fun e => ?_, fun _ => ?_⟩⟩
  · have : (W.setRow b M).heap[b]? = _ := setRow_heap _ _ _ _ _ _ (h3 hf)
    exact (Array.getElem?_eq_some_iff.1 this).1
  · rw [set_self hf] at e; cases e
  · exact setRow_heap _ _ _ _ _ _ (h3 hf)
theorem lock_eq (a : Addr) (l : List Value) : storeCells a l 0 = lockStore a l := rfl
theorem lock_one {w : World} {a : Addr} {y : Value} (p : Option Addr) (n c : Nat) (hc : w.cell? a = some y) (hf : w.frozen? a = false) : (lockStore a [.slice p n c]).run Tryz.prog w = .ok () (w.setCell a (.slice p n c)) := by
  obtain ⟨b, o, hh⟩ := a
  simp [lockStore, storeCells, go_sem, stored, Addr.add, hc, hf]
attribute [local go_sem ↓] lock_eq
/-- A step of a drawn region: 'append(v, T{x, y})' onto a row of the call's own. -/
theorem step_app2 {P : Program} {ops : Array Oper} {o : Oper} {a : Act} {K : Act → World → Prop} {Q : Exit → Act → World → Prop} {E : Prop} {w0 W : World} {x y : Int} {e : TypeId}
    (base : Nat) (s z : Operand) (t : TypeId) (zv : Value) (bytes : Nat) (ht : P.underlying t = some (.slice e))
    (hinfo : (P.info? e).map (fun i => (i.zero, i.size, i.bytes)) = some (some zv, 2, bytes)) (hz : zv.cells.size = 2)
    {v : Value} {n : Nat} {xs : List Value} (HO : W.ownsRow base e 2 v n xs) (HB : Below base w0 W) (hbase : base ≤ W.heap.size) (hlen : n ≤ 1000000000000) (hb : bytes ≤ 100)
    (hgd : o.guard = none) (ho : o.op = .call { callee := .builtin .append, args := #[s, z], argTypes := #[t, t] })
    (hs : a.eval s = v) {H : Nat} (hx : a.eval z = .slice (some ⟨H, 0, none⟩) 1 1) (hH : W.heap.size = H)
    (h : ∀ v1 w1, w1.ownsRow base e 2 v1 (n + 1) (xs ++ [.int .i64 x, .int .i64 y]) → Below base w0 w1 → W.heap.size ≤ w1.heap.size → K (a.put o.dst v1) w1) :
    if Region.wanted o (yielded ops a.tmps) = true then Oper.wp P o a (W.alloc (.cells #[.int .i64 x, .int .i64 y] e)) K Q else E := by
  subst hH
  obtain ⟨i0, hi, hz0, hz1, hz2⟩ := info_parts hinfo
  have hbb : (n + 1) * bytes ≤ 140737488355328 := Nat.le_trans (Nat.mul_le_mul (show n + 1 ≤ 1000000000001 by omega) hb) (by omega)
  refine step_append_lies (w := W.alloc (.cells #[.int .i64 x, .int .i64 y] e)) hgd s z t ho base e i0 zv 2 bytes ht hi hz0 hz1 hz2 hz (by omega) v n xs hs (HO.alloc _) ⟨W.heap.size, 0, none⟩ 1 1 [.int .i64 x, .int .i64 y] hx rfl
    (World.news_of_block (cs := #[.int .i64 x, .int .i64 y]) (t := e) (fr := (0, 0)) (heap_alloc_new W _)) (by simp [Value.oneCell']) (by omega) (by simp only [maxLen]; omega) hbb (by simp; omega) (W.heap.size + 1) (by simp) ?_
  intro g cap w1 hown hg _ _
  refine h _ w1 hown ((HB.alloc hbase _).grown hg (by simp; omega) (fun k hk => (HO.lt k hk).1)) ?_
  have := hg.size
  simp at this
  omega
set_option maxRecDepth 100000 in
set_option maxHeartbeats 64000000 in
/-- impl.rule. -/
theorem rule_any : RuleAny := by
  intro o N w ho hf hlen
  obtain ⟨v6, v7, v8, v9, v10, v11, v12, v13, v14, v15, ho⟩ := ho
  obtain ⟨a6, n6, c6, rfl⟩ := ho.l6.toV0.form
  obtain ⟨a7, n7, c7, rfl⟩ := ho.l7.toV0.form
  obtain ⟨a8, n8, c8, rfl⟩ := ho.l8.toV0.form
  obtain ⟨a9, n9, c9, rfl⟩ := ho.l9.toV0.form
  obtain ⟨a10, n10, c10, rfl⟩ := ho.l10.toV0.form
  obtain ⟨a12, n12, c12, rfl⟩ := ho.l12.toV0.form
  obtain ⟨a13, n13, c13, rfl⟩ := ho.l13.toV0.form
  obtain ⟨a14, n14, c14, rfl⟩ := ho.l14.toV0.form
  obtain ⟨a15, n15, c15, rfl⟩ := ho.l15.toV0.form
  obtain ⟨a11, c11, rfl, hdy⟩ := ho.l11.toV0.form
  have hrow := ho.row
  have HL := Lib.hid (show RuleAt0 w (ruleOf o) _ _ _ _ _ _ _ _ _ _ from ⟨ho.l6.toV0, ho.l7.toV0, ho.l8.toV0, ho.l9.toV0, ho.l10.toV0, ho.l11.toV0, ho.l12.toV0, ho.l13.toV0, ho.l14.toV0, ho.l15.toV0⟩)
  have HDY := Lib.hid hdy
  clear ho hdy
  obtain ⟨fq, ⟨st, sn⟩, iv, ⟨wk, wn2⟩, ct, ⟨un, un2⟩, sp, mo, md, yd, wn, dy, ho, mi, se, ea⟩ := o
  simp only at hrow hf hlen
  have hfw : IntKind.u8.wrap fq = fq := IntWalk.u8_in _ (by omega)
  have hc0 := hrow.cells
  obtain ⟨L, hLe⟩ : ∃ L : Nat → Option Value, L = fun i => ([.int .i64 fq, .int .i64 st, .int .i64 sn, .int .i64 iv, .int .i64 wk, .int .i64 wn2, .int .i64 ct, .int .i64 un, .int .i64 un2, .slice a6 n6 c6, .slice a7 n7 c7, .slice a8 n8 c8, .slice a9 n9 c9, .slice a10 n10 c10, .slice a11 dy.length c11, .slice a12 n12 c12, .slice a13 n13 c13, .slice a14 n14 c14, .slice a15 n15 c15] : List Value)[i]? := ⟨_, rfl⟩
  have hL0 : L 0 = some (.int .i64 fq) := by rw [hLe]; rfl
  have hL1 : L 1 = some (.int .i64 st) := by rw [hLe]; rfl
  have hL2 : L 2 = some (.int .i64 sn) := by rw [hLe]; rfl
  have hL3 : L 3 = some (.int .i64 iv) := by rw [hLe]; rfl
  have hL4 : L 4 = some (.int .i64 wk) := by rw [hLe]; rfl
  have hL5 : L 5 = some (.int .i64 wn2) := by rw [hLe]; rfl
  have hL6 : L 6 = some (.int .i64 ct) := by rw [hLe]; rfl
  have hL7 : L 7 = some (.int .i64 un) := by rw [hLe]; rfl
  have hL8 : L 8 = some (.int .i64 un2) := by rw [hLe]; rfl
  have hL9 : L 9 = some (.slice a6 n6 c6) := by rw [hLe]; rfl
  have hL10 : L 10 = some (.slice a7 n7 c7) := by rw [hLe]; rfl
  have hL11 : L 11 = some (.slice a8 n8 c8) := by rw [hLe]; rfl
  have hL12 : L 12 = some (.slice a9 n9 c9) := by rw [hLe]; rfl
  have hL13 : L 13 = some (.slice a10 n10 c10) := by rw [hLe]; rfl
  have hL14 : L 14 = some (.slice a11 dy.length c11) := by rw [hLe]; rfl
  have hL15 : L 15 = some (.slice a12 n12 c12) := by rw [hLe]; rfl
  have hL16 : L 16 = some (.slice a13 n13 c13) := by rw [hLe]; rfl
  have hL17 : L 17 = some (.slice a14 n14 c14) := by rw [hLe]; rfl
  have hL18 : L 18 = some (.slice a15 n15 c15) := by rw [hLe]; rfl
  have hc : ∀ i, w.cell? ⟨N, i, none⟩ = L i := fun i => by rw [hc0 i, hLe]
  clear hc0 hLe
  have hN := hrow.lt
  clear hrow
  have HRO : Hid (ruleOf ⟨fq, (st, sn), iv, (wk, wn2), ct, (un, un2), sp, mo, md, yd, wn, dy, ho, mi, se, ea⟩ = ⟨fq, !(st == 0 && sn == 0), st, iv, wk, ct, !(un == 0 && un2 == 0), un, sp, mo, md, yd, wn, dy, ho, mi, se, ea⟩) := rfl
  generalize ruleOf ⟨fq, (st, sn), iv, (wk, wn2), ct, (un, un2), sp, mo, md, yd, wn, dy, ho, mi, se, ea⟩ = RR at *
  generalize hz1 : (st == 0 && sn == 0) = z1 at *
  generalize hz2 : (un == 0 && un2 == 0) = z2 at *
  have H93a : Hid (∀ W, Calls Tryz.prog 93 #[.agg #[.int .i64 st, .int .i64 sn]] W fun e w' => e = .returned (.bool z1) ∧ Below W.heap.size W w') := fun W => by rw [← hz1]; exact isZero_any st sn W
  have H93b : Hid (∀ W, Calls Tryz.prog 93 #[.agg #[.int .i64 un, .int .i64 un2]] W fun e w' => e = .returned (.bool z2) ∧ Below W.heap.size W w') := fun W => by rw [← hz2]; exact isZero_any un un2 W
  clear hz1 hz2
  go_enter Tryz.func60, Tryz.ntmps60
  go_wp2_with fail
  have hK0 : (∀ i, (w.alloc (.cells ruleZ 31)).cell? ⟨N, i, none⟩ = L i) ∧ Kp w N w.heap.size (w.alloc (.cells ruleZ 31)) :=
    ⟨fun i => ((bcell ((Below.refl _ _).alloc (Nat.le_refl _) _)).1 N i hN).trans (hc i), by simp; omega, (Below.refl _ _).alloc (Nat.le_refl _) _, ⟨heap_alloc_new w _⟩⟩
  change Code.wp _ _ _ _ (w.alloc (.cells ruleZ 31))
  generalize w.alloc (.cells ruleZ 31) = W0 at *
  clear hc
  obtain ⟨hc, hk⟩ := hK0
  obtain ⟨M, hM⟩ : ∃ M : Array Value, M = #[.int .u8 fq, .bool !z1, .int .i64 st, .int .i64 iv, .int .i64 wk, .int .i64 ct, .bool !z2, .int .i64 un, .slice a6 n6 c6, .slice a7 n7 c7, .slice a8 n8 c8, .slice a9 n9 c9, .slice a10 n10 c10, .slice none 0 0, .slice a12 n12 c12, .slice a13 n13 c13, .slice a14 n14 c14, .slice a15 n15 c15] := ⟨_, rfl⟩
  have hst : ∀ W : World, (lockStore ⟨W.heap.size, 0, none⟩ [.int .u8 fq, .bool !z1, .int .i64 st, .int .i64 iv, .int .i64 wk, .int .i64 ct, .bool !z2, .int .i64 un, .slice a6 n6 c6, .slice a7 n7 c7, .slice a8 n8 c8, .slice a9 n9 c9, .slice a10 n10 c10, .slice none 0 0, .slice a12 n12 c12, .slice a13 n13 c13, .slice a14 n14 c14, .slice a15 n15 c15]).run Tryz.prog (W.alloc (.cells ruleZ 31)) = .ok () (W.alloc (.cells M 31)) := fun W => by rw [hM]; exact run_storeCells_new W 31 ruleZ #[.int .u8 fq, .bool !z1, .int .i64 st, .int .i64 iv, .int .i64 wk, .int .i64 ct, .bool !z2, .int .i64 un, .slice a6 n6 c6, .slice a7 n7 c7, .slice a8 n8 c8, .slice a9 n9 c9, .slice a10 n10 c10, .slice none 0 0, .slice a12 n12 c12, .slice a13 n13 c13, .slice a14 n14 c14, .slice a15 n15 c15] (by as_aux_lemma => kernel_rfl) rfl (by simp [Value.oneCell'])
  have HST : Hid (∀ (W : World) (b : Nat), W.heap[b]? = some (.cells ruleZ 31 (0, 0)) → (lockStore ⟨b, 0, none⟩ [.int .u8 fq, .bool !z1, .int .i64 st, .int .i64 iv, .int .i64 wk, .int .i64 ct, .bool !z2, .int .i64 un, .slice a6 n6 c6, .slice a7 n7 c7, .slice a8 n8 c8, .slice a9 n9 c9, .slice a10 n10 c10, .slice none 0 0, .slice a12 n12 c12, .slice a13 n13 c13, .slice a14 n14 c14, .slice a15 n15 c15]).run Tryz.prog W = .ok () (W.setRow b M)) := fun W b h => by
    rw [hM]
    have := run_storeCells_from (P := Tryz.prog) b 31 [.int .u8 fq, .bool !z1, .int .i64 st, .int .i64 iv, .int .i64 wk, .int .i64 ct, .bool !z2, .int .i64 un, .slice a6 n6 c6, .slice a7 n7 c7, .slice a8 n8 c8, .slice a9 n9 c9, .slice a10 n10 c10, .slice none 0 0, .slice a12 n12 c12, .slice a13 n13 c13, .slice a14 n14 c14, .slice a15 n15 c15] 0 ruleZ W h rfl (by simp [Value.oneCell'])
    simpa [lockStore] using this
  unfold ruleZ at hst HST
  have HM := Lib.hid hM
  clear hM
  go_cut [3] from 6 to 81 (fun s3 wx => ∃ b, s3 = .pointer (some ⟨b, 0, none⟩) ∧ RowAt wx b 31 M.toList ∧ w.heap.size < b ∧ (∀ i, wx.cell? ⟨N, i, none⟩ = L i) ∧ Kp w N w.heap.size wx)
  case first =>
    (try dsimp only [List.append])
    have hKB : KB w N L M 0 (Array.replicate 78 false) W0.drew := ⟨kp_drew ⟨hc, hk⟩, fun h => by simp at h, fun h => by simp at h⟩
    refine wp_region_table (β := Nat) (fun b => #[.pointer (some ⟨N, 0, none⟩), undef, .pointer (some ⟨w.heap.size, 0, none⟩), .pointer (some ⟨b, 0, none⟩), undef, undef, .pointer (some ⟨N, 0, none⟩), .pointer (some ⟨N, 0, none⟩), .pointer (some ⟨N, 0, none⟩), .int .i64 fq, .int .u8 fq, .pointer (some ⟨N, 0, none⟩), .pointer (some ⟨N, 0, none⟩), .pointer (some ⟨N, 1, none⟩), .agg #[.int .i64 st, .int .i64 sn], .bool z1, .bool !z1, .pointer (some ⟨N, 0, none⟩), .pointer (some ⟨N, 0, none⟩), .pointer (some ⟨N, 1, none⟩), .agg #[.int .i64 st, .int .i64 sn], .int .i64 st, .pointer (some ⟨N, 0, none⟩), .pointer (some ⟨N, 0, none⟩), .pointer (some ⟨N, 3, none⟩), .int .i64 iv, .pointer (some ⟨N, 0, none⟩), .pointer (some ⟨N, 0, none⟩), .pointer (some ⟨N, 4, none⟩), .int .i64 wk, .pointer (some ⟨N, 0, none⟩), .pointer (some ⟨N, 0, none⟩), .pointer (some ⟨N, 6, none⟩), .int .i64 ct, .pointer (some ⟨N, 0, none⟩), .pointer (some ⟨N, 0, none⟩), .pointer (some ⟨N, 7, none⟩), .agg #[.int .i64 un, .int .i64 un2], .bool z2, .bool !z2, .pointer (some ⟨N, 0, none⟩), .pointer (some ⟨N, 0, none⟩), .pointer (some ⟨N, 7, none⟩), .agg #[.int .i64 un, .int .i64 un2], .int .i64 un, .pointer (some ⟨N, 0, none⟩), .pointer (some ⟨N, 0, none⟩), .pointer (some ⟨N, 9, none⟩), .slice a6 n6 c6, .pointer (some ⟨N, 0, none⟩), .pointer (some ⟨N, 0, none⟩), .pointer (some ⟨N, 10, none⟩), .slice a7 n7 c7, .pointer (some ⟨N, 0, none⟩), .pointer (some ⟨N, 0, none⟩), .pointer (some ⟨N, 11, none⟩), .slice a8 n8 c8, .pointer (some ⟨N, 0, none⟩), .pointer (some ⟨N, 0, none⟩), .pointer (some ⟨N, 12, none⟩), .slice a9 n9 c9, .pointer (some ⟨N, 0, none⟩), .pointer (some ⟨N, 0, none⟩), .pointer (some ⟨N, 13, none⟩), .slice a10 n10 c10, .pointer (some ⟨N, 0, none⟩), .pointer (some ⟨N, 0, none⟩), .pointer (some ⟨N, 15, none⟩), .slice a12 n12 c12, .pointer (some ⟨N, 0, none⟩), .pointer (some ⟨N, 0, none⟩), .pointer (some ⟨N, 16, none⟩), .slice a13 n13 c13, .pointer (some ⟨N, 0, none⟩), .pointer (some ⟨N, 0, none⟩), .pointer (some ⟨N, 17, none⟩), .slice a14 n14 c14, .pointer (some ⟨N, 0, none⟩), .pointer (some ⟨N, 0, none⟩), .pointer (some ⟨N, 18, none⟩), .slice a15 n15 c15, .agg #[.int .u8 fq, .bool !z1, .int .i64 st, .int .i64 iv, .int .i64 wk, .int .i64 ct, .bool !z2, .int .i64 un, .slice a6 n6 c6, .slice a7 n7 c7, .slice a8 n8 c8, .slice a9 n9 c9, .slice a10 n10 c10, .slice none 0 0, .slice a12 n12 c12, .slice a13 n13 c13, .slice a14 n14 c14, .slice a15 n15 c15], undef, undef, undef, undef, undef, undef, undef, undef, undef, undef, undef, undef, undef, undef, undef, undef, undef, undef, undef]) (KB w N L M) 101 (fun _ => rfl) rfl (by kernel_rfl) 0 rfl (3 :: List.range' 6 76) (by kernel_rfl) (by kernel_rfl) hKB ?hs ?hdone
    case hs =>
      refine ⟨StepF.of (fun b listed w1 hB hf hdep K' Q' hK' => ?_), ?_⟩
      · clear hf hdep
        go_simp
        refine hK'.out _ _ ⟨rfl, b, fun _ _ => rfl, fun d e => by cases e; rfl, hB.other (by decide) (by decide)⟩
      refine ⟨StepF.of (fun b listed w1 hB hf hdep K' Q' hK' => ?_), ?_⟩
      · clear hf hdep
        go_simp
        refine hK'.out _ _ ⟨rfl, b, fun _ _ => rfl, fun d e => by cases e; rfl, hB.other (by decide) (by decide)⟩
      refine ⟨StepF.of (fun b listed w1 hB hf hdep K' Q' hK' => ?_), ?_⟩
      · clear hf hdep
        go_simp
        refine hK'.out _ _ ⟨rfl, b, fun _ _ => rfl, fun d e => by cases e; rfl, hB.other (by decide) (by decide)⟩
      refine ⟨StepF.of (fun b listed w1 hB hf hdep K' Q' hK' => ?_), ?_⟩
      · clear hf hdep
        have hcx := hB.1.1
        go_simp
        refine hK'.out _ _ ⟨rfl, b, fun _ _ => rfl, fun d e => by cases e; rfl, hB.other (by decide) (by decide)⟩
      refine ⟨StepF.of (fun b listed w1 hB hf hdep K' Q' hK' => ?_), ?_⟩
      · clear hf hdep
        go_simp
        refine hK'.out _ _ ⟨rfl, b, fun _ _ => rfl, fun d e => by cases e; rfl, hB.other (by decide) (by decide)⟩
      refine ⟨StepF.of (fun b listed w1 hB hf hdep K' Q' hK' => ?_), ?_⟩
      · clear hf hdep
        go_simp
        refine hK'.out _ _ ⟨rfl, b, fun _ _ => rfl, fun d e => by cases e; rfl, hB.other (by decide) (by decide)⟩
      refine ⟨StepF.of (fun b listed w1 hB hf hdep K' Q' hK' => ?_), ?_⟩
      · clear hf hdep
        go_simp
        refine hK'.out _ _ ⟨rfl, b, fun _ _ => rfl, fun d e => by cases e; rfl, hB.other (by decide) (by decide)⟩
      refine ⟨StepF.of (fun b listed w1 hB hf hdep K' Q' hK' => ?_), ?_⟩
      · clear hf hdep
        go_simp
        refine hK'.out _ _ ⟨rfl, b, fun _ _ => rfl, fun d e => by cases e; rfl, hB.other (by decide) (by decide)⟩
      refine ⟨StepF.of (fun b listed w1 hB hf hdep K' Q' hK' => ?_), ?_⟩
      · clear hf hdep
        have hcx := hB.1.1
        go_simp
        refine hK'.out _ _ ⟨rfl, b, fun _ _ => rfl, fun d e => by cases e; rfl, hB.other (by decide) (by decide)⟩
      refine ⟨StepF.of (fun b listed w1 hB hf hdep K' Q' hK' => ?_), ?_⟩
      · clear hf hdep
        go_simp
        go_at_call 93
        refine (H93a.out _).mono ?_
        rintro e w2 ⟨rfl, hb2⟩
        try dsimp only
        refine hK'.out _ _ ⟨rfl, b, fun _ _ => rfl, fun d e => by cases e; rfl, (hB.call hb2).other (by decide) (by decide)⟩
      refine ⟨StepF.of (fun b listed w1 hB hf hdep K' Q' hK' => ?_), ?_⟩
      · clear hf hdep
        go_simp
        refine hK'.out _ _ ⟨rfl, b, fun _ _ => rfl, fun d e => by cases e; rfl, hB.other (by decide) (by decide)⟩
      refine ⟨StepF.of (fun b listed w1 hB hf hdep K' Q' hK' => ?_), ?_⟩
      · clear hf hdep
        go_simp
        refine hK'.out _ _ ⟨rfl, b, fun _ _ => rfl, fun d e => by cases e; rfl, hB.other (by decide) (by decide)⟩
      refine ⟨StepF.of (fun b listed w1 hB hf hdep K' Q' hK' => ?_), ?_⟩
      · clear hf hdep
        go_simp
        refine hK'.out _ _ ⟨rfl, b, fun _ _ => rfl, fun d e => by cases e; rfl, hB.other (by decide) (by decide)⟩
      refine ⟨StepF.of (fun b listed w1 hB hf hdep K' Q' hK' => ?_), ?_⟩
      · clear hf hdep
        go_simp
        refine hK'.out _ _ ⟨rfl, b, fun _ _ => rfl, fun d e => by cases e; rfl, hB.other (by decide) (by decide)⟩
      refine ⟨StepF.of (fun b listed w1 hB hf hdep K' Q' hK' => ?_), ?_⟩
      · clear hf hdep
        have hcx := hB.1.1
        go_simp
        refine hK'.out _ _ ⟨rfl, b, fun _ _ => rfl, fun d e => by cases e; rfl, hB.other (by decide) (by decide)⟩
      refine ⟨StepF.of (fun b listed w1 hB hf hdep K' Q' hK' => ?_), ?_⟩
      · clear hf hdep
        go_simp
        go_at_call 79
        refine (seconds_any _ _ _).mono ?_
        rintro e w2 ⟨rfl, hb2⟩
        try dsimp only
        refine hK'.out _ _ ⟨rfl, b, fun _ _ => rfl, fun d e => by cases e; rfl, (hB.call hb2).other (by decide) (by decide)⟩
      refine ⟨StepF.of (fun b listed w1 hB hf hdep K' Q' hK' => ?_), ?_⟩
      · clear hf hdep
        go_simp
        refine hK'.out _ _ ⟨rfl, b, fun _ _ => rfl, fun d e => by cases e; rfl, hB.other (by decide) (by decide)⟩
      refine ⟨StepF.of (fun b listed w1 hB hf hdep K' Q' hK' => ?_), ?_⟩
      · clear hf hdep
        go_simp
        refine hK'.out _ _ ⟨rfl, b, fun _ _ => rfl, fun d e => by cases e; rfl, hB.other (by decide) (by decide)⟩
      refine ⟨StepF.of (fun b listed w1 hB hf hdep K' Q' hK' => ?_), ?_⟩
      · clear hf hdep
        go_simp
        refine hK'.out _ _ ⟨rfl, b, fun _ _ => rfl, fun d e => by cases e; rfl, hB.other (by decide) (by decide)⟩
      refine ⟨StepF.of (fun b listed w1 hB hf hdep K' Q' hK' => ?_), ?_⟩
      · clear hf hdep
        have hcx := hB.1.1
        go_simp
        refine hK'.out _ _ ⟨rfl, b, fun _ _ => rfl, fun d e => by cases e; rfl, hB.other (by decide) (by decide)⟩
      refine ⟨StepF.of (fun b listed w1 hB hf hdep K' Q' hK' => ?_), ?_⟩
      · clear hf hdep
        go_simp
        refine hK'.out _ _ ⟨rfl, b, fun _ _ => rfl, fun d e => by cases e; rfl, hB.other (by decide) (by decide)⟩
      refine ⟨StepF.of (fun b listed w1 hB hf hdep K' Q' hK' => ?_), ?_⟩
      · clear hf hdep
        go_simp
        refine hK'.out _ _ ⟨rfl, b, fun _ _ => rfl, fun d e => by cases e; rfl, hB.other (by decide) (by decide)⟩
      refine ⟨StepF.of (fun b listed w1 hB hf hdep K' Q' hK' => ?_), ?_⟩
      · clear hf hdep
        go_simp
        refine hK'.out _ _ ⟨rfl, b, fun _ _ => rfl, fun d e => by cases e; rfl, hB.other (by decide) (by decide)⟩
      refine ⟨StepF.of (fun b listed w1 hB hf hdep K' Q' hK' => ?_), ?_⟩
      · clear hf hdep
        go_simp
        go_at_call 94
        refine (day94 _ _ _ _ ((hB.1.1 4).trans hL4)).mono ?_
        rintro e w2 ⟨rfl, rfl⟩
        try dsimp only
        refine hK'.out _ _ ⟨rfl, b, fun _ _ => rfl, fun d e => by cases e; rfl, hB.other (by decide) (by decide)⟩
      refine ⟨StepF.of (fun b listed w1 hB hf hdep K' Q' hK' => ?_), ?_⟩
      · clear hf hdep
        go_simp
        refine hK'.out _ _ ⟨rfl, b, fun _ _ => rfl, fun d e => by cases e; rfl, hB.other (by decide) (by decide)⟩
      refine ⟨StepF.of (fun b listed w1 hB hf hdep K' Q' hK' => ?_), ?_⟩
      · clear hf hdep
        go_simp
        refine hK'.out _ _ ⟨rfl, b, fun _ _ => rfl, fun d e => by cases e; rfl, hB.other (by decide) (by decide)⟩
      refine ⟨StepF.of (fun b listed w1 hB hf hdep K' Q' hK' => ?_), ?_⟩
      · clear hf hdep
        go_simp
        refine hK'.out _ _ ⟨rfl, b, fun _ _ => rfl, fun d e => by cases e; rfl, hB.other (by decide) (by decide)⟩
      refine ⟨StepF.of (fun b listed w1 hB hf hdep K' Q' hK' => ?_), ?_⟩
      · clear hf hdep
        have hcx := hB.1.1
        go_simp
        refine hK'.out _ _ ⟨rfl, b, fun _ _ => rfl, fun d e => by cases e; rfl, hB.other (by decide) (by decide)⟩
      refine ⟨StepF.of (fun b listed w1 hB hf hdep K' Q' hK' => ?_), ?_⟩
      · clear hf hdep
        go_simp
        refine hK'.out _ _ ⟨rfl, b, fun _ _ => rfl, fun d e => by cases e; rfl, hB.other (by decide) (by decide)⟩
      refine ⟨StepF.of (fun b listed w1 hB hf hdep K' Q' hK' => ?_), ?_⟩
      · clear hf hdep
        go_simp
        refine hK'.out _ _ ⟨rfl, b, fun _ _ => rfl, fun d e => by cases e; rfl, hB.other (by decide) (by decide)⟩
      refine ⟨StepF.of (fun b listed w1 hB hf hdep K' Q' hK' => ?_), ?_⟩
      · clear hf hdep
        go_simp
        refine hK'.out _ _ ⟨rfl, b, fun _ _ => rfl, fun d e => by cases e; rfl, hB.other (by decide) (by decide)⟩
      refine ⟨StepF.of (fun b listed w1 hB hf hdep K' Q' hK' => ?_), ?_⟩
      · clear hf hdep
        have hcx := hB.1.1
        go_simp
        refine hK'.out _ _ ⟨rfl, b, fun _ _ => rfl, fun d e => by cases e; rfl, hB.other (by decide) (by decide)⟩
      refine ⟨StepF.of (fun b listed w1 hB hf hdep K' Q' hK' => ?_), ?_⟩
      · clear hf hdep
        go_simp
        go_at_call 93
        refine (H93b.out _).mono ?_
        rintro e w2 ⟨rfl, hb2⟩
        try dsimp only
        refine hK'.out _ _ ⟨rfl, b, fun _ _ => rfl, fun d e => by cases e; rfl, (hB.call hb2).other (by decide) (by decide)⟩
      refine ⟨StepF.of (fun b listed w1 hB hf hdep K' Q' hK' => ?_), ?_⟩
      · clear hf hdep
        go_simp
        refine hK'.out _ _ ⟨rfl, b, fun _ _ => rfl, fun d e => by cases e; rfl, hB.other (by decide) (by decide)⟩
      refine ⟨StepF.of (fun b listed w1 hB hf hdep K' Q' hK' => ?_), ?_⟩
      · clear hf hdep
        go_simp
        refine hK'.out _ _ ⟨rfl, b, fun _ _ => rfl, fun d e => by cases e; rfl, hB.other (by decide) (by decide)⟩
      refine ⟨StepF.of (fun b listed w1 hB hf hdep K' Q' hK' => ?_), ?_⟩
      · clear hf hdep
        go_simp
        refine hK'.out _ _ ⟨rfl, b, fun _ _ => rfl, fun d e => by cases e; rfl, hB.other (by decide) (by decide)⟩
      refine ⟨StepF.of (fun b listed w1 hB hf hdep K' Q' hK' => ?_), ?_⟩
      · clear hf hdep
        go_simp
        refine hK'.out _ _ ⟨rfl, b, fun _ _ => rfl, fun d e => by cases e; rfl, hB.other (by decide) (by decide)⟩
      refine ⟨StepF.of (fun b listed w1 hB hf hdep K' Q' hK' => ?_), ?_⟩
      · clear hf hdep
        have hcx := hB.1.1
        go_simp
        refine hK'.out _ _ ⟨rfl, b, fun _ _ => rfl, fun d e => by cases e; rfl, hB.other (by decide) (by decide)⟩
      refine ⟨StepF.of (fun b listed w1 hB hf hdep K' Q' hK' => ?_), ?_⟩
      · clear hf hdep
        go_simp
        go_at_call 79
        refine (seconds_any _ _ _).mono ?_
        rintro e w2 ⟨rfl, hb2⟩
        try dsimp only
        refine hK'.out _ _ ⟨rfl, b, fun _ _ => rfl, fun d e => by cases e; rfl, (hB.call hb2).other (by decide) (by decide)⟩
      refine ⟨StepF.of (fun b listed w1 hB hf hdep K' Q' hK' => ?_), ?_⟩
      · clear hf hdep
        go_simp
        refine hK'.out _ _ ⟨rfl, b, fun _ _ => rfl, fun d e => by cases e; rfl, hB.other (by decide) (by decide)⟩
      refine ⟨StepF.of (fun b listed w1 hB hf hdep K' Q' hK' => ?_), ?_⟩
      · clear hf hdep
        go_simp
        refine hK'.out _ _ ⟨rfl, b, fun _ _ => rfl, fun d e => by cases e; rfl, hB.other (by decide) (by decide)⟩
      refine ⟨StepF.of (fun b listed w1 hB hf hdep K' Q' hK' => ?_), ?_⟩
      · clear hf hdep
        go_simp
        refine hK'.out _ _ ⟨rfl, b, fun _ _ => rfl, fun d e => by cases e; rfl, hB.other (by decide) (by decide)⟩
      refine ⟨StepF.of (fun b listed w1 hB hf hdep K' Q' hK' => ?_), ?_⟩
      · clear hf hdep
        have hcx := hB.1.1
        go_simp
        refine hK'.out _ _ ⟨rfl, b, fun _ _ => rfl, fun d e => by cases e; rfl, hB.other (by decide) (by decide)⟩
      refine ⟨StepF.of (fun b listed w1 hB hf hdep K' Q' hK' => ?_), ?_⟩
      · clear hf hdep
        go_simp
        refine hK'.out _ _ ⟨rfl, b, fun _ _ => rfl, fun d e => by cases e; rfl, hB.other (by decide) (by decide)⟩
      refine ⟨StepF.of (fun b listed w1 hB hf hdep K' Q' hK' => ?_), ?_⟩
      · clear hf hdep
        go_simp
        refine hK'.out _ _ ⟨rfl, b, fun _ _ => rfl, fun d e => by cases e; rfl, hB.other (by decide) (by decide)⟩
      refine ⟨StepF.of (fun b listed w1 hB hf hdep K' Q' hK' => ?_), ?_⟩
      · clear hf hdep
        go_simp
        refine hK'.out _ _ ⟨rfl, b, fun _ _ => rfl, fun d e => by cases e; rfl, hB.other (by decide) (by decide)⟩
      refine ⟨StepF.of (fun b listed w1 hB hf hdep K' Q' hK' => ?_), ?_⟩
      · clear hf hdep
        have hcx := hB.1.1
        go_simp
        refine hK'.out _ _ ⟨rfl, b, fun _ _ => rfl, fun d e => by cases e; rfl, hB.other (by decide) (by decide)⟩
      refine ⟨StepF.of (fun b listed w1 hB hf hdep K' Q' hK' => ?_), ?_⟩
      · clear hf hdep
        go_simp
        refine hK'.out _ _ ⟨rfl, b, fun _ _ => rfl, fun d e => by cases e; rfl, hB.other (by decide) (by decide)⟩
      refine ⟨StepF.of (fun b listed w1 hB hf hdep K' Q' hK' => ?_), ?_⟩
      · clear hf hdep
        go_simp
        refine hK'.out _ _ ⟨rfl, b, fun _ _ => rfl, fun d e => by cases e; rfl, hB.other (by decide) (by decide)⟩
      refine ⟨StepF.of (fun b listed w1 hB hf hdep K' Q' hK' => ?_), ?_⟩
      · clear hf hdep
        go_simp
        refine hK'.out _ _ ⟨rfl, b, fun _ _ => rfl, fun d e => by cases e; rfl, hB.other (by decide) (by decide)⟩
      refine ⟨StepF.of (fun b listed w1 hB hf hdep K' Q' hK' => ?_), ?_⟩
      · clear hf hdep
        have hcx := hB.1.1
        go_simp
        refine hK'.out _ _ ⟨rfl, b, fun _ _ => rfl, fun d e => by cases e; rfl, hB.other (by decide) (by decide)⟩
      refine ⟨StepF.of (fun b listed w1 hB hf hdep K' Q' hK' => ?_), ?_⟩
      · clear hf hdep
        go_simp
        refine hK'.out _ _ ⟨rfl, b, fun _ _ => rfl, fun d e => by cases e; rfl, hB.other (by decide) (by decide)⟩
      refine ⟨StepF.of (fun b listed w1 hB hf hdep K' Q' hK' => ?_), ?_⟩
      · clear hf hdep
        go_simp
        refine hK'.out _ _ ⟨rfl, b, fun _ _ => rfl, fun d e => by cases e; rfl, hB.other (by decide) (by decide)⟩
      refine ⟨StepF.of (fun b listed w1 hB hf hdep K' Q' hK' => ?_), ?_⟩
      · clear hf hdep
        go_simp
        refine hK'.out _ _ ⟨rfl, b, fun _ _ => rfl, fun d e => by cases e; rfl, hB.other (by decide) (by decide)⟩
      refine ⟨StepF.of (fun b listed w1 hB hf hdep K' Q' hK' => ?_), ?_⟩
      · clear hf hdep
        have hcx := hB.1.1
        go_simp
        refine hK'.out _ _ ⟨rfl, b, fun _ _ => rfl, fun d e => by cases e; rfl, hB.other (by decide) (by decide)⟩
      refine ⟨StepF.of (fun b listed w1 hB hf hdep K' Q' hK' => ?_), ?_⟩
      · clear hf hdep
        go_simp
        refine hK'.out _ _ ⟨rfl, b, fun _ _ => rfl, fun d e => by cases e; rfl, hB.other (by decide) (by decide)⟩
      refine ⟨StepF.of (fun b listed w1 hB hf hdep K' Q' hK' => ?_), ?_⟩
      · clear hf hdep
        go_simp
        refine hK'.out _ _ ⟨rfl, b, fun _ _ => rfl, fun d e => by cases e; rfl, hB.other (by decide) (by decide)⟩
      refine ⟨StepF.of (fun b listed w1 hB hf hdep K' Q' hK' => ?_), ?_⟩
      · clear hf hdep
        go_simp
        refine hK'.out _ _ ⟨rfl, b, fun _ _ => rfl, fun d e => by cases e; rfl, hB.other (by decide) (by decide)⟩
      refine ⟨StepF.of (fun b listed w1 hB hf hdep K' Q' hK' => ?_), ?_⟩
      · clear hf hdep
        have hcx := hB.1.1
        go_simp
        refine hK'.out _ _ ⟨rfl, b, fun _ _ => rfl, fun d e => by cases e; rfl, hB.other (by decide) (by decide)⟩
      refine ⟨StepF.of (fun b listed w1 hB hf hdep K' Q' hK' => ?_), ?_⟩
      · clear hf hdep
        go_simp
        refine hK'.out _ _ ⟨rfl, b, fun _ _ => rfl, fun d e => by cases e; rfl, hB.other (by decide) (by decide)⟩
      refine ⟨StepF.of (fun b listed w1 hB hf hdep K' Q' hK' => ?_), ?_⟩
      · clear hf hdep
        go_simp
        refine hK'.out _ _ ⟨rfl, b, fun _ _ => rfl, fun d e => by cases e; rfl, hB.other (by decide) (by decide)⟩
      refine ⟨StepF.of (fun b listed w1 hB hf hdep K' Q' hK' => ?_), ?_⟩
      · clear hf hdep
        go_simp
        refine hK'.out _ _ ⟨rfl, b, fun _ _ => rfl, fun d e => by cases e; rfl, hB.other (by decide) (by decide)⟩
      refine ⟨StepF.of (fun b listed w1 hB hf hdep K' Q' hK' => ?_), ?_⟩
      · clear hf hdep
        have hcx := hB.1.1
        go_simp
        refine hK'.out _ _ ⟨rfl, b, fun _ _ => rfl, fun d e => by cases e; rfl, hB.other (by decide) (by decide)⟩
      refine ⟨StepF.of (fun b listed w1 hB hf hdep K' Q' hK' => ?_), ?_⟩
      · clear hf hdep
        go_simp
        refine hK'.out _ _ ⟨rfl, b, fun _ _ => rfl, fun d e => by cases e; rfl, hB.other (by decide) (by decide)⟩
      refine ⟨StepF.of (fun b listed w1 hB hf hdep K' Q' hK' => ?_), ?_⟩
      · clear hf hdep
        go_simp
        refine hK'.out _ _ ⟨rfl, b, fun _ _ => rfl, fun d e => by cases e; rfl, hB.other (by decide) (by decide)⟩
      refine ⟨StepF.of (fun b listed w1 hB hf hdep K' Q' hK' => ?_), ?_⟩
      · clear hf hdep
        go_simp
        refine hK'.out _ _ ⟨rfl, b, fun _ _ => rfl, fun d e => by cases e; rfl, hB.other (by decide) (by decide)⟩
      refine ⟨StepF.of (fun b listed w1 hB hf hdep K' Q' hK' => ?_), ?_⟩
      · clear hf hdep
        have hcx := hB.1.1
        go_simp
        refine hK'.out _ _ ⟨rfl, b, fun _ _ => rfl, fun d e => by cases e; rfl, hB.other (by decide) (by decide)⟩
      refine ⟨StepF.of (fun b listed w1 hB hf hdep K' Q' hK' => ?_), ?_⟩
      · clear hf hdep
        go_simp
        refine hK'.out _ _ ⟨rfl, b, fun _ _ => rfl, fun d e => by cases e; rfl, hB.other (by decide) (by decide)⟩
      refine ⟨StepF.of (fun b listed w1 hB hf hdep K' Q' hK' => ?_), ?_⟩
      · clear hf hdep
        go_simp
        refine hK'.out _ _ ⟨rfl, b, fun _ _ => rfl, fun d e => by cases e; rfl, hB.other (by decide) (by decide)⟩
      refine ⟨StepF.of (fun b listed w1 hB hf hdep K' Q' hK' => ?_), ?_⟩
      · clear hf hdep
        go_simp
        refine hK'.out _ _ ⟨rfl, b, fun _ _ => rfl, fun d e => by cases e; rfl, hB.other (by decide) (by decide)⟩
      refine ⟨StepF.of (fun b listed w1 hB hf hdep K' Q' hK' => ?_), ?_⟩
      · clear hf hdep
        have hcx := hB.1.1
        go_simp
        refine hK'.out _ _ ⟨rfl, b, fun _ _ => rfl, fun d e => by cases e; rfl, hB.other (by decide) (by decide)⟩
      refine ⟨StepF.of (fun b listed w1 hB hf hdep K' Q' hK' => ?_), ?_⟩
      · clear hf hdep
        go_simp
        refine hK'.out _ _ ⟨rfl, b, fun _ _ => rfl, fun d e => by cases e; rfl, hB.other (by decide) (by decide)⟩
      refine ⟨StepF.of (fun b listed w1 hB hf hdep K' Q' hK' => ?_), ?_⟩
      · clear hf hdep
        go_simp
        refine hK'.out _ _ ⟨rfl, b, fun _ _ => rfl, fun d e => by cases e; rfl, hB.other (by decide) (by decide)⟩
      refine ⟨StepF.of (fun b listed w1 hB hf hdep K' Q' hK' => ?_), ?_⟩
      · clear hf hdep
        go_simp
        refine hK'.out _ _ ⟨rfl, b, fun _ _ => rfl, fun d e => by cases e; rfl, hB.other (by decide) (by decide)⟩
      refine ⟨StepF.of (fun b listed w1 hB hf hdep K' Q' hK' => ?_), ?_⟩
      · clear hf hdep
        have hcx := hB.1.1
        go_simp
        refine hK'.out _ _ ⟨rfl, b, fun _ _ => rfl, fun d e => by cases e; rfl, hB.other (by decide) (by decide)⟩
      refine ⟨StepF.of (fun b listed w1 hB hf hdep K' Q' hK' => ?_), ?_⟩
      · clear hf hdep
        go_simp
        refine hK'.out _ _ ⟨rfl, b, fun _ _ => rfl, fun d e => by cases e; rfl, hB.other (by decide) (by decide)⟩
      refine ⟨StepF.of (fun b listed w1 hB hf hdep K' Q' hK' => ?_), ?_⟩
      · clear hdep
        go_simp
        refine hK'.out _ _ ⟨rfl, w1.heap.size, fun k e => getD_upd (d := 3) (v := .pointer (some ⟨w1.heap.size, 0, none⟩)) rfl e, fun d e => ?_, hB.made hf⟩
        cases e
        rfl
      refine ⟨StepF.of (fun b listed w1 hB hf hdep K' Q' hK' => ?_), ?_⟩
      · have h6 := hdep ⟨76, .data⟩ (by simp) rfl
        have hst4 := HST.out _ _ ((hB.2.2 h6).2.2.1 hf)
        clear hdep
        go_simp
        refine hK'.out _ _ ⟨rfl, b, fun _ _ => rfl, fun d e => (by cases e), hB.kept hN hf h6⟩
      trivial
    case hdone =>
      intro b listed w' hKe hall
      have h6 := hall 76 (by decide)
      have h7 := hall 77 (by decide)
      obtain ⟨hke, -, hrow⟩ := hKe
      obtain ⟨hlt, -, -, hrw⟩ := hrow h6
      have hrw := hrw h7
      clear hrow h6 h7 hall
      go_wp2
      go_meet
      exact ⟨_, rfl, ⟨by rw [hrw]⟩, hlt, hke⟩
  case rest =>
  clear hst HST hc hk W0
  obtain ⟨b, rfl, hrb, hbz, hc, hk⟩ := hcut
  rw [HM.out] at hrb
  have hcx : wc.cell? ⟨N, 14, none⟩ = some (.slice a11 dy.length c11) := (hc 14).trans hL14
  go_wp2_with fail
  clear hcx hc hL0 hL1 hL2 hL3 hL4 hL5 hL6 hL7 hL8 hL9 hL10 hL11 hL12 hL13 hL14 hL15 hL16 hL17 hL18
  have hBz : b < wc.heap.size := hrb.lt
  have hown0 : wc.ownsRow wc.heap.size 61 2 (.slice none 0 0) 0 (flat2 (dy.take 0)) := World.ownsRow_nil _ _ _ _
  have hb0 := hk.hb
  have hrR := hk.row
  have hszc : w.heap.size ≤ wc.heap.size := hb0.size
  obtain ⟨B, hB⟩ : ∃ B, wc.heap.size = B := ⟨_, rfl⟩
  rw [hB] at hBz hown0 hszc
  have hBle : B ≤ wc.heap.size := by omega
  clear hB hk
  go_loopw [87] (fun i wr => ∃ (k : Nat) (v : Value), k ≤ dy.length ∧ i = .int .i64 k ∧ RowAt wr b 31 [.int .u8 fq, .bool !z1, .int .i64 st, .int .i64 iv, .int .i64 wk, .int .i64 ct, .bool !z2, .int .i64 un, .slice a6 n6 c6, .slice a7 n7 c7, .slice a8 n8 c8, .slice a9 n9 c9, .slice a10 n10 c10, v, .slice a12 n12 c12, .slice a13 n13 c13, .slice a14 n14 c14, .slice a15 n15 c15] ∧ RowAt wr w.heap.size 31 ruleZ.toList ∧ wr.ownsRow B 61 2 v k (flat2 (dy.take k)) ∧ B ≤ wr.heap.size ∧ Below w.heap.size w wr) (fun i _ => dy.length - (intOf i).toNat)
  case atStart => exact ⟨0, _, by omega, rfl, hrb, hrR, hown0, hBle, hb0⟩
  case round =>
    clear hrb hrR hown0 hBle hb0
    obtain ⟨k, v, hk, rfl, hrb, hrR, hown, hsz, hb⟩ := hrel
    obtain ⟨va, vn, vc, rfl⟩ := own_form hown
    by_cases hlt : k < dy.length
    · obtain ⟨g, rfl, hdr0⟩ : ∃ g, a11 = some ⟨g, 0, none⟩ ∧ DayRow w g dy := by
        rcases HDY.out with h | h
        · have h : dy = [] := h
          rw [h] at hlt; simp at hlt
        · exact h
      have hdr := hdr0.below hb
      clear hdr0
      obtain ⟨hcd, hcn⟩ := hdr.cell k dy[k] (by simp [hlt])
      have hsn := flat2_snoc dy k hlt
      generalize dy[k] = p at hcd hcn hsn
      obtain ⟨d, n⟩ := p
      simp only at hcd hcn hsn
      have HSN := Lib.hid hsn; clear hsn
      have hal : Below wr.heap.size wr (wr.alloc (.cells #[.int .i64 d, .int .i64 n] 103)) := (Below.refl _ _).alloc (Nat.le_refl _) _
      have hcv := (hrb.below hal).cell 13 (v := .slice va vn vc) rfl
      have hcf := (hrb.below hal).frozen 13
      have hOW := Lib.hid (hown.alloc (.cells #[.int .i64 d, .int .i64 n] 103))
      have hRB := Lib.hid hrb
      have hRR := Lib.hid hrR
      clear hown hrb hrR hdr
      have hst103 : (lockStore ⟨wr.heap.size, 0, none⟩ [.int .i64 d, .int .i64 n]).run Tryz.prog (wr.alloc (.cells #[.int .i64 0, .int .i64 0] 103)) = .ok () (wr.alloc (.cells #[.int .i64 d, .int .i64 n] 103)) := run_storeCells_new wr 103 #[.int .i64 0, .int .i64 0] #[.int .i64 d, .int .i64 n] (by kernel_rfl) rfl (by simp [Value.oneCell'])
      go_upto_region 5 with fail
      clear hst103
      clear hcd hcn
      have hdc : (wr.alloc (.cells #[.int .i64 d, .int .i64 n] 103)).cell? ⟨wr.heap.size, 0, none⟩ = some (.int .i64 d) := by simp
      have hdn : (wr.alloc (.cells #[.int .i64 d, .int .i64 n] 103)).cell? ⟨wr.heap.size, 0 + 1, none⟩ = some (.int .i64 n) := by simp
      have hRBa := Lib.hid (hRB.out.below hal)
      have hRRa := Lib.hid (hRR.out.below hal)
      have hba := Lib.hid (hb.trans (hal.mono hb.size))
      have hza : wr.heap.size + 1 ≤ (wr.alloc (.cells #[.int .i64 d, .int .i64 n] 103)).heap.size := by simp
      generalize hWa : wr.alloc (.cells #[.int .i64 d, .int .i64 n] 103) = Wa at *
      generalize hDD : wr.heap.size = D at *
      clear hWa hal hRB hRR hb hDD
      have hdcd : Hid (Wa.drew.cell? ⟨D, 0, none⟩ = some (.int .i64 d)) := hdc
      have hdnd : Hid (Wa.drew.cell? ⟨D, 0 + 1, none⟩ = some (.int .i64 n)) := hdn
      have hzd : D + 1 ≤ Wa.drew.heap.size := hza
      have hOWd : Hid (Wa.drew.ownsRow B 61 2 (.slice va vn vc) k (flat2 (dy.take k))) := hOW.out
      have hRBd : Hid (RowAt Wa.drew b 31 [.int .u8 fq, .bool !z1, .int .i64 st, .int .i64 iv, .int .i64 wk, .int .i64 ct, .bool !z2, .int .i64 un, .slice a6 n6 c6, .slice a7 n7 c7, .slice a8 n8 c8, .slice a9 n9 c9, .slice a10 n10 c10, .slice va vn vc, .slice a12 n12 c12, .slice a13 n13 c13, .slice a14 n14 c14, .slice a15 n15 c15]) := Lib.hid ⟨hRBa.out.blk⟩
      have hRRd : Hid (RowAt Wa.drew w.heap.size 31 ruleZ.toList) := Lib.hid ⟨hRRa.out.blk⟩
      have hbwd : Hid (Below w.heap.size w Wa.drew) := Lib.hid hba.out.drew
      clear hOW hRBa hRRa hba hdc hdn
      have hnew : Wa.heap.size ≠ b := by omega
      have hbW : b < Wa.heap.size := by omega
      go_region_law (first
        | (rw [if_pos (by rfl)]; go_simp; go_at_call 94; refine (day94 _ _ _ _ hdcd.out).mono ?_; rintro e w1 ⟨rfl, rfl⟩; (try go_simp))
        | (rw [if_pos (by rfl)]; go_simp; go_at_call 95; refine (num95 _ _ _ _ hdnd.out).mono ?_; rintro e w1 ⟨rfl, rfl⟩; (try go_simp))
        | (refine step_app2 B _ _ 29 (.agg #[.int .i64 0, .int .i64 0]) 16 Tryz.underlying29 Tryz.inf61d rfl hOWd.out (Below.refl _ _) (by omega) (by omega) (by omega) (by rfl) (by rfl) (by rfl) (by rfl) (by simp) ?_; intro v1 w2 hown2 hb2 hsz2; obtain ⟨va1, vn1, vc1, rfl⟩ := own_form hown2; have hlk := lock_one (a := ⟨b, 13, none⟩) va1 vn1 vc1 ((hRBd.out.belowB hb2 (by omega)).cell 13 (v := .slice va vn vc) rfl) ((hRBd.out.belowB hb2 (by omega)).frozen 13); have hrb2 := (hRBd.out.belowB hb2 (by omega)).cell 13 (v := .slice va vn vc) rfl; have hrf2 := (hRBd.out.belowB hb2 (by omega)).frozen 13))
      all_goals
        go_wp2
        go_roundw
        case rel =>
          refine ⟨k + 1, _, by omega, by go_num, (hRBd.out.belowB hb2 (by omega)).set 13 _, (hRRd.out.belowB hb2 (by omega)).setOther (by omega) _ _, ?_, ?_, ?_⟩
          · rw [HSN.out]; exact ownsRow_setCell_below hown2 (by show b < _; omega) _
          · have := hb2.size; simp [World.setCell]; omega
          · exact (hbwd.out.trans (hb2.mono (by omega))).setCell (by show w.heap.size ≤ b; omega) _
        case measure => simp [intOf]; omega
    · obtain rfl : k = dy.length := by omega
      rw [List.take_length] at hown
      have hOWN := Lib.hid hown; clear hown
      go_wp2_with (first
        | (refine wpList_load_row rfl 31 _ rfl b rfl 31 _ (0, 0) _ hrb.blk Tryz.underlying31 rfl (by as_aux_lemma => kernel_rfl) ?_)
        | (refine wpList_store_row rfl 31 _ _ rfl w.heap.size _ rfl rfl 31 _ hrR.blk (by as_aux_lemma => kernel_rfl) rfl (by simp [Value.oneCell']) ?_))
      have hBl := below_setRow hb (g := w.heap.size) (Nat.le_refl _) #[.int .u8 fq, .bool !z1, .int .i64 st, .int .i64 iv, .int .i64 wk, .int .i64 ct, .bool !z2, .int .i64 un, .slice a6 n6 c6, .slice a7 n7 c7, .slice a8 n8 c8, .slice a9 n9 c9, .slice a10 n10 c10, .slice va vn vc, .slice a12 n12 c12, .slice a13 n13 c13, .slice a14 n14 c14, .slice a15 n15 c15]
      have hA := HL.out.below hBl
      rw [HRO.out] at hA ⊢
      exact bodyPost_ret (results_cell_row rfl _ _ w.heap.size 31 _ (0, 0) _ rfl (setRow_heap _ _ _ _ _ _ hrR.blk) Tryz.underlying31 rfl (by as_aux_lemma => kernel_rfl)) rfl ⟨_, rfl, ⟨_, _, _, _, _, _, _, _, _, _, rfl, hA.l8, hA.l9, hA.l10, hA.l11, hA.l12, days_own0 (own_setRow hOWN.out (by omega) _), hA.l14, hA.l15, hA.l16, hA.l17⟩, hBl⟩
end Go.Proofs.YtcfbkkcamiephaaGreatDoor
