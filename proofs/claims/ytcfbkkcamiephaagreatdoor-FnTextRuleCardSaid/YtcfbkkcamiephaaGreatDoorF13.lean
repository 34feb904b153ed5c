import Derived.Test.YtcfbkkcamiephaaGreatDoorLk
import Derived.Test.YtcfbkkcamiephaaGreatDoorF3
import Derived.Deep.DeepCutAuto
import Derived.Deep.CutBlock
import Derived.Deep.RegionHeld3
import Derived.Deep.DrawnRows
import Derived.Deep.AppendLies
import Derived.Deep.RegionLaw
namespace Go.Proofs.YtcfbkkcamiephaaGreatDoor
open Go.RowKit Go.Proofs.YtcfbkkcamiephaaGreatDoor.Lk
attribute [local go_sem ↓] Go.wp_at_zero Go.wp_at_succ
attribute [local go_sem ↓] lock_eq

/-! ### impl.option -/
/-- What every step of the literal keeps. -/
structure Ks (w : World) (c : List Value) (W : World) : Prop where
  hb : Below w.heap.size w W
  box : RowAt W w.heap.size 31 c
  res : RowAt W (w.heap.size + 1) 106 [.int .i64 0, .int .i64 0, .int .i64 0, .int .i64 0, .int .i64 0, .int .i64 0, .int .i64 0, .int .i64 0, .int .i64 0, .slice none 0 0, .slice none 0 0, .slice none 0 0, .slice none 0 0, .slice none 0 0, .slice none 0 0, .slice none 0 0, .slice none 0 0, .slice none 0 0, .slice none 0 0]
def Kc (w : World) (c : List Value) (W : World) : Prop := Ks w c W
theorem ks_call {w W w1 : World} {c L : List Value} (h : (∀ i, W.cell? ⟨w.heap.size, i, none⟩ = L[i]?) ∧ Ks w c W) (hb : Below W.heap.size W w1) : (∀ i, w1.cell? ⟨w.heap.size, i, none⟩ = L[i]?) ∧ Ks w c w1 :=
  ⟨fun i => ((bcell hb).1 _ i h.2.box.lt).trans (h.1 i), h.2.hb.trans (hb.mono h.2.hb.size), h.2.box.below hb, h.2.res.below hb⟩
theorem ks_drew {w W : World} {c L : List Value} (h : (∀ i, W.cell? ⟨w.heap.size, i, none⟩ = L[i]?) ∧ Ks w c W) : (∀ i, W.drew.cell? ⟨w.heap.size, i, none⟩ = L[i]?) ∧ Ks w c W.drew := ks_call h (Below.refl _ _).drew
theorem ks_alloc {w W : World} {c L : List Value} (h : (∀ i, W.cell? ⟨w.heap.size, i, none⟩ = L[i]?) ∧ Ks w c W) (ob : Obj) : (∀ i, (W.alloc ob).cell? ⟨w.heap.size, i, none⟩ = L[i]?) ∧ Ks w c (W.alloc ob) := ks_call h ((Below.refl _ _).alloc (Nat.le_refl _) _)
theorem Ks.rlt {w W : World} {c L : List Value} (h : (∀ i, W.cell? ⟨w.heap.size, i, none⟩ = L[i]?) ∧ Ks w c W) : w.heap.size + 1 < W.heap.size := h.2.res.lt
theorem ks_set {w W : World} {c L : List Value} (_hA : True) (h : (∀ i, W.cell? ⟨w.heap.size, i, none⟩ = L[i]?) ∧ Ks w c W) (b : Nat) (hb : w.heap.size + 1 < b) (j : Nat) (x : Value) : (∀ i, (W.setCell ⟨b, j, none⟩ x).cell? ⟨w.heap.size, i, none⟩ = L[i]?) ∧ Ks w c (W.setCell ⟨b, j, none⟩ x) :=
  ⟨fun i => (World.cell?_of_block (w := W) (Below.heap_setCell W _ x _ (by show w.heap.size ≠ b; omega))).trans (h.1 i), h.2.hb.setCell (by show w.heap.size ≤ b; omega) x, ⟨(Below.heap_setCell W _ x _ (by show w.heap.size ≠ b; omega)).trans h.2.box.blk⟩, ⟨(Below.heap_setCell W _ x _ (by show w.heap.size + 1 ≠ b; omega)).trans h.2.res.blk⟩⟩
theorem ks_setRow {w W : World} {c L : List Value} (h : (∀ i, W.cell? ⟨w.heap.size, i, none⟩ = L[i]?) ∧ Ks w c W) (b : Nat) (c' : Array Value) (hb : w.heap.size + 1 < b) : (∀ i, (W.setRow b c').cell? ⟨w.heap.size, i, none⟩ = L[i]?) ∧ Ks w c (W.setRow b c') :=
  ⟨fun i => (cell_setRow_other W b c' _ (by show w.heap.size ≠ b; omega)).trans (h.1 i), below_setRow h.2.hb (by omega) c', ⟨(setRow_other W b _ c' (by omega)).trans h.2.box.blk⟩, ⟨(setRow_other W b _ c' (by omega)).trans h.2.res.blk⟩⟩
theorem ks_of {w W : World} {c L : List Value} (h : (∀ i, W.cell? ⟨w.heap.size, i, none⟩ = L[i]?) ∧ Ks w c W) : Ks w c W := h.2
theorem rowO_new {W w1 : World} {c : Array Value} {n : Nat} (hb : Below n (W.alloc (.cells c 106)) w1) (hn : W.heap.size < n) : w1.heap[W.heap.size]? = some (.cells c 106 (0, 0)) :=
  (hb.block _ hn).trans (heap_alloc_new W _)
theorem rowO_newd {W w1 : World} {c : Array Value} {n : Nat} (hb : Below n (W.alloc (.cells c 106)).drew w1) (hn : W.heap.size < n) : w1.heap[W.heap.size]? = some (.cells c 106 (0, 0)) :=
  (hb.block _ hn).trans (heap_alloc_new W _)
set_option maxRecDepth 100000 in
set_option maxHeartbeats 32000000 in
theorem option_any (r : RuleD) (v : Value) (w : World) (hv : RuleIs w v r) (hf : 0 ≤ r.fq ∧ r.fq ≤ 255) (hlen : r.dy.length ≤ 1000000000) :
    Calls Tryz.prog 66 #[v] w fun e w' => ∃ v', e = .returned v' ∧ OptVal w' v' (optOf r) ∧ Below w.heap.size w w' := by
  obtain ⟨v8, v9, v10, v11, v12, v13, v14, v15, v16, v17, rfl, hR⟩ := hv
  obtain ⟨a8, n8, c8, rfl⟩ := hR.l8.form
  obtain ⟨a9, n9, c9, rfl⟩ := hR.l9.form
  obtain ⟨a10, n10, c10, rfl⟩ := hR.l10.form
  obtain ⟨a11, n11, c11, rfl⟩ := hR.l11.form
  obtain ⟨a12, n12, c12, rfl⟩ := hR.l12.form
  obtain ⟨a14, n14, c14, rfl⟩ := hR.l14.form
  obtain ⟨a15, n15, c15, rfl⟩ := hR.l15.form
  obtain ⟨a16, n16, c16, rfl⟩ := hR.l16.form
  obtain ⟨a17, n17, c17, rfl⟩ := hR.l17.form
  obtain ⟨a13, c13, rfl, hdy⟩ := hR.l13.form
  have HR := Lib.hid hR; clear hR
  have HDY := Lib.hid hdy; clear hdy
  obtain ⟨f, hs, st, iv, wk, ct, hu, un, sp, mo, md, yd, wn, dy, ho, mi, se, ea⟩ := r
  simp only at hlen hf
  have hfw : IntKind.i64.wrap f = f := IntWalk.i64_in _ (by omega)
  unfold ruleVal
  simp only
  obtain ⟨hbox, hres, hb2, hz2⟩ := two_rows w #[.int .u8 f, .bool hs, .int .i64 st, .int .i64 iv, .int .i64 wk, .int .i64 ct, .bool hu, .int .i64 un, .slice a8 n8 c8, .slice a9 n9 c9, .slice a10 n10 c10, .slice a11 n11 c11, .slice a12 n12 c12, .slice a13 dy.length c13, .slice a14 n14 c14, .slice a15 n15 c15, .slice a16 n16 c16, .slice a17 n17 c17] #[.int .i64 0, .int .i64 0, .int .i64 0, .int .i64 0, .int .i64 0, .int .i64 0, .int .i64 0, .int .i64 0, .int .i64 0, .slice none 0 0, .slice none 0 0, .slice none 0 0, .slice none 0 0, .slice none 0 0, .slice none 0 0, .slice none 0 0, .slice none 0 0, .slice none 0 0, .slice none 0 0] 31 106
  have hK0 : (∀ i, ((w.alloc (.cells #[.int .u8 f, .bool hs, .int .i64 st, .int .i64 iv, .int .i64 wk, .int .i64 ct, .bool hu, .int .i64 un, .slice a8 n8 c8, .slice a9 n9 c9, .slice a10 n10 c10, .slice a11 n11 c11, .slice a12 n12 c12, .slice a13 dy.length c13, .slice a14 n14 c14, .slice a15 n15 c15, .slice a16 n16 c16, .slice a17 n17 c17] 31)).alloc (.cells #[.int .i64 0, .int .i64 0, .int .i64 0, .int .i64 0, .int .i64 0, .int .i64 0, .int .i64 0, .int .i64 0, .int .i64 0, .slice none 0 0, .slice none 0 0, .slice none 0 0, .slice none 0 0, .slice none 0 0, .slice none 0 0, .slice none 0 0, .slice none 0 0, .slice none 0 0, .slice none 0 0] 106)).cell? ⟨w.heap.size, i, none⟩ = ([.int .u8 f, .bool hs, .int .i64 st, .int .i64 iv, .int .i64 wk, .int .i64 ct, .bool hu, .int .i64 un, .slice a8 n8 c8, .slice a9 n9 c9, .slice a10 n10 c10, .slice a11 n11 c11, .slice a12 n12 c12, .slice a13 dy.length c13, .slice a14 n14 c14, .slice a15 n15 c15, .slice a16 n16 c16, .slice a17 n17 c17] : List Value)[i]?) ∧ Ks w [.int .u8 f, .bool hs, .int .i64 st, .int .i64 iv, .int .i64 wk, .int .i64 ct, .bool hu, .int .i64 un, .slice a8 n8 c8, .slice a9 n9 c9, .slice a10 n10 c10, .slice a11 n11 c11, .slice a12 n12 c12, .slice a13 dy.length c13, .slice a14 n14 c14, .slice a15 n15 c15, .slice a16 n16 c16, .slice a17 n17 c17] ((w.alloc (.cells #[.int .u8 f, .bool hs, .int .i64 st, .int .i64 iv, .int .i64 wk, .int .i64 ct, .bool hu, .int .i64 un, .slice a8 n8 c8, .slice a9 n9 c9, .slice a10 n10 c10, .slice a11 n11 c11, .slice a12 n12 c12, .slice a13 dy.length c13, .slice a14 n14 c14, .slice a15 n15 c15, .slice a16 n16 c16, .slice a17 n17 c17] 31)).alloc (.cells #[.int .i64 0, .int .i64 0, .int .i64 0, .int .i64 0, .int .i64 0, .int .i64 0, .int .i64 0, .int .i64 0, .int .i64 0, .slice none 0 0, .slice none 0 0, .slice none 0 0, .slice none 0 0, .slice none 0 0, .slice none 0 0, .slice none 0 0, .slice none 0 0, .slice none 0 0, .slice none 0 0] 106)) := ⟨hbox.cells, hb2, hbox, hres⟩
  have HK0 := Lib.hid hK0
  clear hbox hres hb2 hz2 hK0
  go_enter Tryz.func66, Tryz.ntmps66
  go_upto_region 1 with fail
  have hK1 := HK0.out
  generalize (w.alloc (.cells #[.int .u8 f, .bool hs, .int .i64 st, .int .i64 iv, .int .i64 wk, .int .i64 ct, .bool hu, .int .i64 un, .slice a8 n8 c8, .slice a9 n9 c9, .slice a10 n10 c10, .slice a11 n11 c11, .slice a12 n12 c12, .slice a13 dy.length c13, .slice a14 n14 c14, .slice a15 n15 c15, .slice a16 n16 c16, .slice a17 n17 c17] 31)).alloc (.cells #[.int .i64 0, .int .i64 0, .int .i64 0, .int .i64 0, .int .i64 0, .int .i64 0, .int .i64 0, .int .i64 0, .int .i64 0, .slice none 0 0, .slice none 0 0, .slice none 0 0, .slice none 0 0, .slice none 0 0, .slice none 0 0, .slice none 0 0, .slice none 0 0, .slice none 0 0, .slice none 0 0] 106) = W0 at *
  obtain ⟨hc, hk⟩ := hK1
  clear HK0
  have hst : ∀ W : World, (lockStore ⟨W.heap.size, 0, none⟩ [.int .i64 f, .int .i64 0, .int .i64 0, .int .i64 iv, .int .i64 wk, .int .i64 0, .int .i64 ct, .int .i64 0, .int .i64 0, .slice a8 n8 c8, .slice a9 n9 c9, .slice a10 n10 c10, .slice a11 n11 c11, .slice a12 n12 c12, .slice none 0 0, .slice a14 n14 c14, .slice a15 n15 c15, .slice a16 n16 c16, .slice a17 n17 c17]).run Tryz.prog (W.alloc (.cells #[.int .i64 0, .int .i64 0, .int .i64 0, .int .i64 0, .int .i64 0, .int .i64 0, .int .i64 0, .int .i64 0, .int .i64 0, .slice none 0 0, .slice none 0 0, .slice none 0 0, .slice none 0 0, .slice none 0 0, .slice none 0 0, .slice none 0 0, .slice none 0 0, .slice none 0 0, .slice none 0 0] 106)) = .ok () (W.alloc (.cells #[.int .i64 f, .int .i64 0, .int .i64 0, .int .i64 iv, .int .i64 wk, .int .i64 0, .int .i64 ct, .int .i64 0, .int .i64 0, .slice a8 n8 c8, .slice a9 n9 c9, .slice a10 n10 c10, .slice a11 n11 c11, .slice a12 n12 c12, .slice none 0 0, .slice a14 n14 c14, .slice a15 n15 c15, .slice a16 n16 c16, .slice a17 n17 c17] 106)) := fun W => run_storeCells_new W 106 #[.int .i64 0, .int .i64 0, .int .i64 0, .int .i64 0, .int .i64 0, .int .i64 0, .int .i64 0, .int .i64 0, .int .i64 0, .slice none 0 0, .slice none 0 0, .slice none 0 0, .slice none 0 0, .slice none 0 0, .slice none 0 0, .slice none 0 0, .slice none 0 0, .slice none 0 0, .slice none 0 0] #[.int .i64 f, .int .i64 0, .int .i64 0, .int .i64 iv, .int .i64 wk, .int .i64 0, .int .i64 ct, .int .i64 0, .int .i64 0, .slice a8 n8 c8, .slice a9 n9 c9, .slice a10 n10 c10, .slice a11 n11 c11, .slice a12 n12 c12, .slice none 0 0, .slice a14 n14 c14, .slice a15 n15 c15, .slice a16 n16 c16, .slice a17 n17 c17] (by as_aux_lemma => kernel_rfl) rfl (by simp [Value.oneCell'])
  have HST : Hid (∀ (W : World) (b : Nat), W.heap[b]? = some (.cells #[.int .i64 0, .int .i64 0, .int .i64 0, .int .i64 0, .int .i64 0, .int .i64 0, .int .i64 0, .int .i64 0, .int .i64 0, .slice none 0 0, .slice none 0 0, .slice none 0 0, .slice none 0 0, .slice none 0 0, .slice none 0 0, .slice none 0 0, .slice none 0 0, .slice none 0 0, .slice none 0 0] 106 (0, 0)) → (lockStore ⟨b, 0, none⟩ [.int .i64 f, .int .i64 0, .int .i64 0, .int .i64 iv, .int .i64 wk, .int .i64 0, .int .i64 ct, .int .i64 0, .int .i64 0, .slice a8 n8 c8, .slice a9 n9 c9, .slice a10 n10 c10, .slice a11 n11 c11, .slice a12 n12 c12, .slice none 0 0, .slice a14 n14 c14, .slice a15 n15 c15, .slice a16 n16 c16, .slice a17 n17 c17]).run Tryz.prog W = .ok () (W.setRow b #[.int .i64 f, .int .i64 0, .int .i64 0, .int .i64 iv, .int .i64 wk, .int .i64 0, .int .i64 ct, .int .i64 0, .int .i64 0, .slice a8 n8 c8, .slice a9 n9 c9, .slice a10 n10 c10, .slice a11 n11 c11, .slice a12 n12 c12, .slice none 0 0, .slice a14 n14 c14, .slice a15 n15 c15, .slice a16 n16 c16, .slice a17 n17 c17])) := fun W b h => by
    have := run_storeCells_from (P := Tryz.prog) b 106 [.int .i64 f, .int .i64 0, .int .i64 0, .int .i64 iv, .int .i64 wk, .int .i64 0, .int .i64 ct, .int .i64 0, .int .i64 0, .slice a8 n8 c8, .slice a9 n9 c9, .slice a10 n10 c10, .slice a11 n11 c11, .slice a12 n12 c12, .slice none 0 0, .slice a14 n14 c14, .slice a15 n15 c15, .slice a16 n16 c16, .slice a17 n17 c17] 0 #[.int .i64 0, .int .i64 0, .int .i64 0, .int .i64 0, .int .i64 0, .int .i64 0, .int .i64 0, .int .i64 0, .int .i64 0, .slice none 0 0, .slice none 0 0, .slice none 0 0, .slice none 0 0, .slice none 0 0, .slice none 0 0, .slice none 0 0, .slice none 0 0, .slice none 0 0, .slice none 0 0] W h rfl (by simp [Value.oneCell'])
    simpa [lockStore] using this
  go_cut [3] from 6 to 34 (fun s3 wx => ∃ b, s3 = .pointer (some ⟨b, 0, none⟩) ∧ RowAt wx b 106 [.int .i64 f, .int .i64 0, .int .i64 0, .int .i64 iv, .int .i64 wk, .int .i64 0, .int .i64 ct, .int .i64 0, .int .i64 0, .slice a8 n8 c8, .slice a9 n9 c9, .slice a10 n10 c10, .slice a11 n11 c11, .slice a12 n12 c12, .slice none 0 0, .slice a14 n14 c14, .slice a15 n15 c15, .slice a16 n16 c16, .slice a17 n17 c17] ∧ w.heap.size + 1 < b ∧ Ks w [.int .u8 f, .bool hs, .int .i64 st, .int .i64 iv, .int .i64 wk, .int .i64 ct, .bool hu, .int .i64 un, .slice a8 n8 c8, .slice a9 n9 c9, .slice a10 n10 c10, .slice a11 n11 c11, .slice a12 n12 c12, .slice a13 dy.length c13, .slice a14 n14 c14, .slice a15 n15 c15, .slice a16 n16 c16, .slice a17 n17 c17] wx)
  case first =>
    go_region_held3 (fun w' => (∀ i, w'.cell? ⟨w.heap.size, i, none⟩ = ([.int .u8 f, .bool hs, .int .i64 st, .int .i64 iv, .int .i64 wk, .int .i64 ct, .bool hu, .int .i64 un, .slice a8 n8 c8, .slice a9 n9 c9, .slice a10 n10 c10, .slice a11 n11 c11, .slice a12 n12 c12, .slice a13 dy.length c13, .slice a14 n14 c14, .slice a15 n15 c15, .slice a16 n16 c16, .slice a17 n17 c17] : List Value)[i]?) ∧ Ks w [.int .u8 f, .bool hs, .int .i64 st, .int .i64 iv, .int .i64 wk, .int .i64 ct, .bool hu, .int .i64 un, .slice a8 n8 c8, .slice a9 n9 c9, .slice a10 n10 c10, .slice a11 n11 c11, .slice a12 n12 c12, .slice a13 dy.length c13, .slice a14 n14 c14, .slice a15 n15 c15, .slice a16 n16 c16, .slice a17 n17 c17] w') (first
      | (with_reducible assumption)
      | (with_reducible exact ks_drew ⟨hc, hk⟩)
      | (with_reducible exact ks_alloc (by assumption) _)
      | (with_reducible exact ks_alloc (ks_drew ⟨hc, hk⟩) _)
      | (with_reducible exact ks_drew (ks_alloc ⟨hc, hk⟩ _))
      | (with_reducible exact ks_drew (ks_alloc (by assumption) _))
      | (with_reducible exact ks_setRow (by assumption) _ _ (Ks.rlt (by first | assumption | exact ⟨hc, hk⟩))))
      (first
      | (go_at_call 70; refine (zzDay_any _ _ _).mono ?_; rintro e w1 ⟨rfl, hb1⟩; have hKc := ks_call (by with_reducible first | assumption | exact ks_drew ⟨hc, hk⟩ | exact ks_alloc (by assumption) _ | exact ks_alloc (ks_drew ⟨hc, hk⟩) _ | exact ks_drew (ks_alloc ⟨hc, hk⟩ _) | exact ks_drew (ks_alloc (by assumption) _)) hb1; with_reducible first | (have hrw := rowO_newd hb1 (by first | (simp; done) | (simp; omega)); have hst3 := HST.out _ _ hrw) | (have hrw := rowO_new hb1 (by first | (simp; done) | (simp; omega)); (try dsimp only [World.drew] at hrw); have hst3 := HST.out _ _ hrw) | skip))
    all_goals
      go_wp2
      go_meet
      refine ⟨_, rfl, ?_, ?_, ?_⟩
      · first
          | (with_reducible exact ⟨heap_alloc_new _ _⟩)
          | (with_reducible exact ⟨setRow_heap _ _ _ _ _ _ hrw⟩)
      · first
          | (with_reducible exact Ks.rlt (c := [.int .u8 f, .bool hs, .int .i64 st, .int .i64 iv, .int .i64 wk, .int .i64 ct, .bool hu, .int .i64 un, .slice a8 n8 c8, .slice a9 n9 c9, .slice a10 n10 c10, .slice a11 n11 c11, .slice a12 n12 c12, .slice a13 dy.length c13, .slice a14 n14 c14, .slice a15 n15 c15, .slice a16 n16 c16, .slice a17 n17 c17]) (L := [.int .u8 f, .bool hs, .int .i64 st, .int .i64 iv, .int .i64 wk, .int .i64 ct, .bool hu, .int .i64 un, .slice a8 n8 c8, .slice a9 n9 c9, .slice a10 n10 c10, .slice a11 n11 c11, .slice a12 n12 c12, .slice a13 dy.length c13, .slice a14 n14 c14, .slice a15 n15 c15, .slice a16 n16 c16, .slice a17 n17 c17]) (w := w) (by assumption))
          | exact Ks.rlt (c := [.int .u8 f, .bool hs, .int .i64 st, .int .i64 iv, .int .i64 wk, .int .i64 ct, .bool hu, .int .i64 un, .slice a8 n8 c8, .slice a9 n9 c9, .slice a10 n10 c10, .slice a11 n11 c11, .slice a12 n12 c12, .slice a13 dy.length c13, .slice a14 n14 c14, .slice a15 n15 c15, .slice a16 n16 c16, .slice a17 n17 c17]) (L := [.int .u8 f, .bool hs, .int .i64 st, .int .i64 iv, .int .i64 wk, .int .i64 ct, .bool hu, .int .i64 un, .slice a8 n8 c8, .slice a9 n9 c9, .slice a10 n10 c10, .slice a11 n11 c11, .slice a12 n12 c12, .slice a13 dy.length c13, .slice a14 n14 c14, .slice a15 n15 c15, .slice a16 n16 c16, .slice a17 n17 c17]) (w := w) ⟨hc, hk⟩
      · (with_reducible exact ks_of (L := [.int .u8 f, .bool hs, .int .i64 st, .int .i64 iv, .int .i64 wk, .int .i64 ct, .bool hu, .int .i64 un, .slice a8 n8 c8, .slice a9 n9 c9, .slice a10 n10 c10, .slice a11 n11 c11, .slice a12 n12 c12, .slice a13 dy.length c13, .slice a14 n14 c14, .slice a15 n15 c15, .slice a16 n16 c16, .slice a17 n17 c17]) (by assumption))
  case rest =>
  obtain ⟨b, rfl, hrb, hbz, hks⟩ := hcut
  clear hst HST hc hk W0
  have hcb := hks.box.cells
  go_upto_if 36 with fail
  go_cut [37] from 38 to 40 (fun _ wx => RowAt wx b 106 [.int .i64 f, .int .i64 (if hs = true then st else 0), .int .i64 0, .int .i64 iv, .int .i64 wk, .int .i64 0, .int .i64 ct, .int .i64 0, .int .i64 0, .slice a8 n8 c8, .slice a9 n9 c9, .slice a10 n10 c10, .slice a11 n11 c11, .slice a12 n12 c12, .slice none 0 0, .slice a14 n14 c14, .slice a15 n15 c15, .slice a16 n16 c16, .slice a17 n17 c17] ∧ Ks w [.int .u8 f, .bool hs, .int .i64 st, .int .i64 iv, .int .i64 wk, .int .i64 ct, .bool hu, .int .i64 un, .slice a8 n8 c8, .slice a9 n9 c9, .slice a10 n10 c10, .slice a11 n11 c11, .slice a12 n12 c12, .slice a13 dy.length c13, .slice a14 n14 c14, .slice a15 n15 c15, .slice a16 n16 c16, .slice a17 n17 c17] wx)
  case first =>
    cases hs with
    | false =>
      go_wp2
      go_meet
      exact ⟨by simpa using hrb, hks⟩
    | true =>
      have hHB := Lib.hid hrb
      go_wp2_with (go_at_call 96; go_must (refine (of_any _ _).mono ?_; rintro e w1 ⟨rfl, hb1⟩; have hrb1 := hHB.out.below hb1; have c1 := hrb1.cell 1 (v := .int .i64 0) rfl; have c2 := hrb1.cell 2 (v := .int .i64 0) rfl; have f1 := hrb1.frozen 1; have f2 := hrb1.frozen 2; have hlk := lock_two (b := b) (o := 1) .i64 .i64 st 0 c1 c2 f1 f2))
      go_meet
      exact ⟨by simpa using (hrb1.set 1 (.int .i64 st)).set 2 (.int .i64 0), (ks_set trivial (ks_set trivial (ks_call ⟨hcb, hks⟩ hb1) b hbz 1 _) b hbz 2 _).2⟩
  case rest =>
  clear hrb hks hcb
  obtain ⟨hrb, hks⟩ := hcut
  have hcb := hks.box.cells
  go_upto_if 42 with fail
  go_cut [43] from 44 to 46 (fun _ wx => RowAt wx b 106 [.int .i64 f, .int .i64 (if hs = true then st else 0), .int .i64 0, .int .i64 iv, .int .i64 wk, .int .i64 0, .int .i64 ct, .int .i64 (if hu = true then un else 0), .int .i64 0, .slice a8 n8 c8, .slice a9 n9 c9, .slice a10 n10 c10, .slice a11 n11 c11, .slice a12 n12 c12, .slice none 0 0, .slice a14 n14 c14, .slice a15 n15 c15, .slice a16 n16 c16, .slice a17 n17 c17] ∧ Ks w [.int .u8 f, .bool hs, .int .i64 st, .int .i64 iv, .int .i64 wk, .int .i64 ct, .bool hu, .int .i64 un, .slice a8 n8 c8, .slice a9 n9 c9, .slice a10 n10 c10, .slice a11 n11 c11, .slice a12 n12 c12, .slice a13 dy.length c13, .slice a14 n14 c14, .slice a15 n15 c15, .slice a16 n16 c16, .slice a17 n17 c17] wx)
  case first =>
    cases hu with
    | false =>
      go_wp2
      go_meet
      exact ⟨by simpa using hrb, hks⟩
    | true =>
      have hHB := Lib.hid hrb
      go_wp2_with (go_at_call 96; go_must (refine (of_any _ _).mono ?_; rintro e w1 ⟨rfl, hb1⟩; have hrb1 := hHB.out.below hb1; have c1 := hrb1.cell 7 (v := .int .i64 0) rfl; have c2 := hrb1.cell 8 (v := .int .i64 0) rfl; have f1 := hrb1.frozen 7; have f2 := hrb1.frozen 8; have hlk := lock_two (b := b) (o := 7) .i64 .i64 un 0 c1 c2 f1 f2))
      go_meet
      exact ⟨by simpa using (hrb1.set 7 (.int .i64 un)).set 8 (.int .i64 0), (ks_set trivial (ks_set trivial (ks_call ⟨hcb, hks⟩ hb1) b hbz 7 _) b hbz 8 _).2⟩
  case rest =>
  clear hrb hks hcb
  obtain ⟨hrb, hks⟩ := hcut
  generalize hS1 : (if hs = true then st else 0) = S1 at *
  generalize hU1 : (if hu = true then un else 0) = U1 at *
  have HS1 := Lib.hid hS1; have HU1 := Lib.hid hU1
  clear hS1 hU1
  have hcx := hks.box.cell 13 (v := .slice a13 dy.length c13) rfl
  go_wp2_with fail
  clear hcx
  have hBz : b < wc.heap.size := hrb.lt
  have hRz : w.heap.size + 1 < wc.heap.size := hks.res.lt
  have hown0 : wc.ownsRow wc.heap.size 103 2 (.slice none 0 0) 0 (flat2 (dy.take 0)) := World.ownsRow_nil _ _ _ _
  have hb0 := hks.hb
  have hrR := hks.res
  have hszc : w.heap.size ≤ wc.heap.size := by omega
  obtain ⟨B, hB⟩ : ∃ B, wc.heap.size = B := ⟨_, rfl⟩
  rw [hB] at hBz hRz hown0 hszc
  have hBle : B ≤ wc.heap.size := by omega
  clear hB hks
  go_loopw [50] (fun i wr => ∃ (k : Nat) (v : Value), k ≤ dy.length ∧ i = .int .i64 k ∧ RowAt wr b 106 [.int .i64 f, .int .i64 S1, .int .i64 0, .int .i64 iv, .int .i64 wk, .int .i64 0, .int .i64 ct, .int .i64 U1, .int .i64 0, .slice a8 n8 c8, .slice a9 n9 c9, .slice a10 n10 c10, .slice a11 n11 c11, .slice a12 n12 c12, v, .slice a14 n14 c14, .slice a15 n15 c15, .slice a16 n16 c16, .slice a17 n17 c17] ∧ RowAt wr (w.heap.size + 1) 106 [.int .i64 0, .int .i64 0, .int .i64 0, .int .i64 0, .int .i64 0, .int .i64 0, .int .i64 0, .int .i64 0, .int .i64 0, .slice none 0 0, .slice none 0 0, .slice none 0 0, .slice none 0 0, .slice none 0 0, .slice none 0 0, .slice none 0 0, .slice none 0 0, .slice none 0 0, .slice none 0 0] ∧ wr.ownsRow B 103 2 v k (flat2 (dy.take k)) ∧ B ≤ wr.heap.size ∧ Below w.heap.size w wr) (fun i _ => dy.length - (intOf i).toNat)
  case atStart => exact ⟨0, _, by omega, rfl, hrb, hrR, hown0, hBle, hb0⟩
  case round =>
    clear hrb hrR hown0 hBle hb0
    obtain ⟨k, v, hk, rfl, hrb, hrR, hown, hsz, hb⟩ := hrel
    obtain ⟨va, vn, vc, rfl⟩ := own_form hown
    by_cases hlt : k < dy.length
    · obtain ⟨g, gq, rfl, hdr0⟩ : ∃ g gq, a13 = some ⟨g, gq, none⟩ ∧ DayRowQ w g gq dy := by
        rcases HDY.out with h | h
        · rw [h] at hlt; simp at hlt
        · exact h
      have hdr := hdr0.below hb
      have hgl := hdr0.lt
      clear hdr0
      obtain ⟨hcd, hcn⟩ := hdr.cell k dy[k] (by simp [hlt])
      have hsn := flat2_snoc dy k hlt
      generalize dy[k] = p at hcd hcn hsn
      obtain ⟨d, n⟩ := p
      simp only at hcd hcn hsn
      have HSN := Lib.hid hsn; clear hsn
      have hal : Below wr.heap.size wr (wr.alloc (.cells #[.int .i64 d, .int .i64 n] 61)) := (Below.refl _ _).alloc (Nat.le_refl _) _
      have hcv := (hrb.below hal).cell 14 (v := .slice va vn vc) rfl
      have hcf := (hrb.below hal).frozen 14
      have hOW := Lib.hid (hown.alloc (.cells #[.int .i64 d, .int .i64 n] 61))
      have hRB := Lib.hid hrb
      have hRR := Lib.hid hrR
      clear hown hrb hrR hdr
      have hst61 : (lockStore ⟨wr.heap.size, 0, none⟩ [.int .i64 d, .int .i64 n]).run Tryz.prog (wr.alloc (.cells #[.int .i64 0, .int .i64 0] 61)) = .ok () (wr.alloc (.cells #[.int .i64 d, .int .i64 n] 61)) := run_storeCells_new wr 61 #[.int .i64 0, .int .i64 0] #[.int .i64 d, .int .i64 n] (by kernel_rfl) rfl (by simp [Value.oneCell'])
      go_upto_region 9 with fail
      clear hst61
      clear hcd hcn
      have hdc : (wr.alloc (.cells #[.int .i64 d, .int .i64 n] 61)).cell? ⟨wr.heap.size, 0, none⟩ = some (.int .i64 d) := by simp
      have hdn : (wr.alloc (.cells #[.int .i64 d, .int .i64 n] 61)).cell? ⟨wr.heap.size, 1, none⟩ = some (.int .i64 n) := by simp
      have hRBa := Lib.hid (hRB.out.below hal)
      have hRRa := Lib.hid (hRR.out.below hal)
      have hba := Lib.hid (hb.trans (hal.mono hb.size))
      have hza : wr.heap.size + 1 ≤ (wr.alloc (.cells #[.int .i64 d, .int .i64 n] 61)).heap.size := by simp
      generalize hWa : wr.alloc (.cells #[.int .i64 d, .int .i64 n] 61) = Wa at *
      generalize hDD : wr.heap.size = D at *
      clear hWa hal hRB hRR hb hDD
      have hcvd : Hid (Wa.drew.cell? ⟨b, 14, none⟩ = some (.slice va vn vc)) := hcv
      have hcfd : Hid (Wa.drew.frozen? ⟨b, 14, none⟩ = false) := hcf
      have hzd : D + 1 ≤ Wa.drew.heap.size := hza
      have hOWd : Hid (Wa.drew.ownsRow B 103 2 (.slice va vn vc) k (flat2 (dy.take k))) := hOW.out
      have hRBd : Hid (RowAt Wa.drew b 106 [.int .i64 f, .int .i64 S1, .int .i64 0, .int .i64 iv, .int .i64 wk, .int .i64 0, .int .i64 ct, .int .i64 U1, .int .i64 0, .slice a8 n8 c8, .slice a9 n9 c9, .slice a10 n10 c10, .slice a11 n11 c11, .slice a12 n12 c12, .slice va vn vc, .slice a14 n14 c14, .slice a15 n15 c15, .slice a16 n16 c16, .slice a17 n17 c17]) := Lib.hid ⟨hRBa.out.blk⟩
      have hRRd : Hid (RowAt Wa.drew (w.heap.size + 1) 106 [.int .i64 0, .int .i64 0, .int .i64 0, .int .i64 0, .int .i64 0, .int .i64 0, .int .i64 0, .int .i64 0, .int .i64 0, .slice none 0 0, .slice none 0 0, .slice none 0 0, .slice none 0 0, .slice none 0 0, .slice none 0 0, .slice none 0 0, .slice none 0 0, .slice none 0 0, .slice none 0 0]) := Lib.hid ⟨hRRa.out.blk⟩
      have hbwd : Hid (Below w.heap.size w Wa.drew) := Lib.hid hba.out.drew
      clear hOW hRBa hRRa hba
      have hnew : Wa.heap.size ≠ b := by omega
      have hbW : b < Wa.heap.size := by omega
      go_region_law (first
        | (rw [if_pos (by rfl)]; go_simp; go_at_call 70; refine (zzDay_any _ _ _).mono ?_; rintro e w1 ⟨rfl, hb1⟩; have c14 := cell_below hb1 hcvd.out; have f14 := frozen_below hb1 (by show b < _; omega) hcfd.out; have hbw1 : b < w1.heap.size := (by have := hb1.size; omega); have hnw1 : w1.heap.size ≠ b := (by have := hb1.size; omega); (try go_simp))
        | (refine step_app2 B _ _ 104 (.agg #[.int .i64 0, .int .i64 0]) 16 Tryz.underlying104 Tryz.info103 rfl (own_below hOWd.out hb1) (Below.refl _ _) (by first | (have := hb1.size; omega) | omega) (by omega) (by omega) (by rfl) (by rfl) (by rfl) (by rfl) (by simp) ?_; intro v1 w2 hown2 hb2 hsz2; obtain ⟨va1, vn1, vc1, rfl⟩ := own_form hown2; have hlk := lock_one (a := ⟨b, 14, none⟩) va1 vn1 vc1 (((hRBd.out.below hb1).belowB hb2 (by omega)).cell 14 (v := .slice va vn vc) rfl) (((hRBd.out.below hb1).belowB hb2 (by omega)).frozen 14); have hrb2 := ((hRBd.out.below hb1).belowB hb2 (by omega)).cell 14 (v := .slice va vn vc) rfl; have hrf2 := ((hRBd.out.below hb1).belowB hb2 (by omega)).frozen 14))
      all_goals
        go_wp2
        go_roundw
        case rel =>
          refine ⟨k + 1, _, by omega, by go_num, ((hRBd.out.below hb1).belowB hb2 (by omega)).set 14 _, ((hRRd.out.below hb1).belowB hb2 (by omega)).setOther (by omega) _ _, ?_, ?_, ?_⟩
          · rw [HSN.out]; exact ownsRow_setCell_below hown2 (by show b < _; omega) _
          · have := hb2.size; have := hb1.size; simp [World.setCell]; omega
          · exact ((hbwd.out.trans (hb1.mono hbwd.out.size)).trans (hb2.mono (by omega))).setCell (by show w.heap.size ≤ b; omega) _
        case measure => simp [intOf]; omega
    · obtain rfl : k = dy.length := by omega
      rw [List.take_length] at hown
      have hOWN := Lib.hid hown; clear hown
      go_wp2_with (first
        | (refine wpList_load_row rfl 106 _ rfl b rfl 106 _ (0, 0) _ hrb.blk Tryz.underlying106 rfl (by as_aux_lemma => kernel_rfl) ?_)
        | (refine wpList_store_row rfl 106 _ _ rfl (w.heap.size + 1) _ rfl rfl 106 _ hrR.blk (by as_aux_lemma => kernel_rfl) rfl (by simp [Value.oneCell']) ?_))
      refine bodyPost_ret (results_cell_row rfl _ _ (w.heap.size + 1) 106 _ (0, 0) _ rfl (setRow_heap _ _ _ _ _ _ hrR.blk) Tryz.underlying106 rfl (by as_aux_lemma => kernel_rfl)) rfl ⟨_, rfl, ⟨_, _, _, _, _, _, _, _, _, _, by rw [← HS1.out, ← HU1.out]; rfl, ?_⟩, ?_⟩
      · have hBl := below_setRow hb (g := w.heap.size + 1) (by omega) #[.int .i64 f, .int .i64 S1, .int .i64 0, .int .i64 iv, .int .i64 wk, .int .i64 0, .int .i64 ct, .int .i64 U1, .int .i64 0, .slice a8 n8 c8, .slice a9 n9 c9, .slice a10 n10 c10, .slice a11 n11 c11, .slice a12 n12 c12, .slice va vn vc, .slice a14 n14 c14, .slice a15 n15 c15, .slice a16 n16 c16, .slice a17 n17 c17]
        have hA := HR.out.below hBl
        exact ⟨hA.l8, hA.l9, hA.l10, hA.l11, hA.l12, days_own (own_setRow hOWN.out (by omega) _), hA.l14, hA.l15, hA.l16, hA.l17⟩
      · exact below_setRow hb (by omega) _
end Go.Proofs.YtcfbkkcamiephaaGreatDoor
