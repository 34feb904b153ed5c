import Derived.Test.YtcfbkkcamiephaaGreatDoorSo
namespace Go.Proofs.YtcfbkkcamiephaaGreatDoor
open Go.RowKit Go.Lib

variable {T : TypeId} {rv : Value} {gn gl gs b0 G n : Nat} {J : World → Prop}
set_option maxHeartbeats 2000000 in
set_option maxRecDepth 100000 in
theorem order2_any (E : TS T rv gn gl gs b0 G n J) (w : World) (hJ : J w) (S : Nat) (k : Int) (hS : RowAt w S 3 [.int .i64 k]) (hb : b0 ≤ S ∧ S ≠ G) (lo hi i j : Int) (hr : 0 ≤ lo ∧ hi ≤ n) (hi' : lo ≤ i ∧ i < hi) (hj : lo ≤ j ∧ j < hi) :
    Calls Tryz.prog 223 #[.iface T rv, .int .i64 i, .int .i64 j, .pointer (some ⟨S, 0, none⟩)] w fun e w' => ∃ x y k', e = .returned (.tuple #[.int .i64 x, .int .i64 y]) ∧ (lo ≤ x ∧ x < hi) ∧ (lo ≤ y ∧ y < hi) ∧ J w' ∧ RowAt w' S 3 [.int .i64 k'] := by
  have mL := found E.rL
  have eL := E.rL.enters
  have HE := Lib.hid E
  have HJ := Lib.hid hJ
  have HR := Lib.hid hS
  clear hJ hS
  go_enter Tryz.func223, Tryz.ntmps223
  go_wp2_with (first
    | (go_at_fn gl; go_must (refine (HE.out.lessZ _ _ _ HJ.out (by omega) (by omega)).mono ?_; rintro e w2 ⟨⟨c, rfl⟩, hb2⟩; have HJ := Lib.hid (HE.out.keep _ _ HJ.out hb2); have HR := Lib.hid (HR.out.below hb2); have hc := HR.out.cell 0 (v := .int .i64 k) rfl; have hf := HR.out.frozen 0; clear hb2; cases c))
    | (fail))
  · go_ret2
    exact ⟨i, j, k, rfl, hi', hj, HJ.out, HR.out⟩
  · go_ret2
    exact ⟨j, i, _, rfl, hj, hi', HE.out.keepS _ _ _ _ hb.1 hb.2 HJ.out, HR.out.set 0 _⟩
set_option maxHeartbeats 2000000 in
set_option maxRecDepth 100000 in
theorem median_any (E : TS T rv gn gl gs b0 G n J) (w : World) (hJ : J w) (S : Nat) (k : Int) (hS : RowAt w S 3 [.int .i64 k]) (hb : b0 ≤ S ∧ S ≠ G) (lo hi i j m : Int) (hr : 0 ≤ lo ∧ hi ≤ n) (hi' : lo ≤ i ∧ i < hi) (hj : lo ≤ j ∧ j < hi) (hm : lo ≤ m ∧ m < hi) :
    Calls Tryz.prog 213 #[.iface T rv, .int .i64 i, .int .i64 j, .int .i64 m, .pointer (some ⟨S, 0, none⟩)] w fun e w' => ∃ x k', e = .returned (.int .i64 x) ∧ (lo ≤ x ∧ x < hi) ∧ J w' ∧ RowAt w' S 3 [.int .i64 k'] := by
  have HE := Lib.hid E
  have HJ := Lib.hid hJ
  have HR := Lib.hid hS
  clear hJ hS
  go_enter Tryz.func213, Tryz.ntmps213
  go_wp2_with (first
    | (go_at_call 223; go_must (refine (order2_any HE.out _ HJ.out S _ HR.out hb lo hi _ _ hr (by assumption) (by assumption)).mono ?_; rintro e w2 ⟨x, y, k', rfl, hx, hy, hj2, hr2⟩; have HJ := Lib.hid hj2; have HR := Lib.hid hr2; clear hj2 hr2))
    | (fail))
  go_ret
  exact ⟨_, _, rfl, by assumption, HJ.out, HR.out⟩
set_option maxHeartbeats 2000000 in
set_option maxRecDepth 100000 in
theorem adj_any (E : TS T rv gn gl gs b0 G n J) (w : World) (hJ : J w) (S : Nat) (k : Int) (hS : RowAt w S 3 [.int .i64 k]) (hb : b0 ≤ S ∧ S ≠ G) (lo hi i : Int) (hr : 0 ≤ lo ∧ hi ≤ n) (hi' : lo < i ∧ i + 1 < hi) :
    Calls Tryz.prog 212 #[.iface T rv, .int .i64 i, .pointer (some ⟨S, 0, none⟩)] w fun e w' => ∃ x k', e = .returned (.int .i64 x) ∧ (lo ≤ x ∧ x < hi) ∧ J w' ∧ RowAt w' S 3 [.int .i64 k'] := by
  have HE := Lib.hid E
  have HJ := Lib.hid hJ
  have HR := Lib.hid hS
  have hn := E.hn
  clear hJ hS
  go_enter Tryz.func212, Tryz.ntmps212
  go_wp2_with (first
    | (go_at_call 213; go_must (refine (median_any HE.out _ HJ.out S _ HR.out hb lo hi _ _ _ hr (by omega) (by omega) (by omega)).mono ?_; rintro e w2 ⟨x, k', rfl, hx, hj2, hr2⟩; have HJ := Lib.hid hj2; have HR := Lib.hid hr2; clear hj2 hr2))
    | (fail))
  go_ret
  exact ⟨_, _, rfl, by assumption, HJ.out, HR.out⟩
set_option maxHeartbeats 4000000 in
set_option maxRecDepth 100000 in
theorem pivot_any (E : TS T rv gn gl gs b0 G n J) (w : World) (hJ : J w) (a b : Int) (ha : 0 ≤ a) (hab : a < b) (hb : b ≤ n) :
    Calls Tryz.prog 187 #[.iface T rv, .int .i64 a, .int .i64 b] w fun e w' => ∃ x h, e = .returned (.tuple #[.int .i64 x, .int .i64 h]) ∧ (a ≤ x ∧ x < b) ∧ J w' := by
  have HE := Lib.hid E
  have HJ := Lib.hid (E.keep _ _ hJ ((Below.refl _ _).alloc (Nat.le_refl _) (.cells #[.int .i64 0] 3)))
  have HR : Hid (RowAt (w.alloc (.cells #[.int .i64 0] 3)) w.heap.size 3 [.int .i64 0]) := Lib.hid ⟨by rw [heap_alloc_new]⟩
  have hS : b0 ≤ w.heap.size ∧ w.heap.size ≠ G := by have := E.lt _ hJ; omega
  have hn := E.hn
  clear hJ
  obtain ⟨l, hl⟩ : ∃ l, l = b - a := ⟨_, rfl⟩
  have hb' : b = a + l := by omega
  subst hb'
  have h4 : l.tdiv 4 = l / 4 := Int.tdiv_eq_ediv_of_nonneg (by omega)
  have hl0 : a + l - a = l := by omega
  clear hl
  have hcase : l < 8 ∨ (8 ≤ l ∧ l < 50) ∨ 50 ≤ l := by omega
  rcases hcase with h1 | ⟨h1, h2⟩ | h1
  · go_enter Tryz.func187, Tryz.ntmps187
    go_wp2
    go_ret2
    exact ⟨_, _, rfl, by omega, HJ.out⟩
  · go_enter Tryz.func187, Tryz.ntmps187
    go_wp2_with (first
      | (go_at_call 213; go_must (refine (median_any HE.out _ HJ.out w.heap.size _ HR.out hS a (a + l) _ _ _ (by omega) (by omega) (by omega) (by omega)).mono ?_; rintro e w2 ⟨x, k', rfl, hx, hj2, hr2⟩; have HJ := Lib.hid hj2; have HR := Lib.hid hr2; have hc := HR.out.cell 0 (v := .int .i64 k') rfl; clear hj2 hr2))
      | (fail))
    all_goals (go_ret2; exact ⟨_, _, rfl, by omega, HJ.out⟩)
  · go_enter Tryz.func187, Tryz.ntmps187
    go_wp2_with (first
      | (go_at_call 212; go_must (refine (adj_any HE.out _ HJ.out w.heap.size _ HR.out hS a (a + l) _ (by omega) (by omega)).mono ?_; rintro e w2 ⟨x, k', rfl, hx, hj2, hr2⟩; have HJ := Lib.hid hj2; have HR := Lib.hid hr2; clear hj2 hr2))
      | (go_at_call 213; go_must (refine (median_any HE.out _ HJ.out w.heap.size _ HR.out hS a (a + l) _ _ _ (by omega) (by omega) (by omega) (by omega)).mono ?_; rintro e w2 ⟨x, k', rfl, hx, hj2, hr2⟩; have HJ := Lib.hid hj2; have HR := Lib.hid hr2; have hc := HR.out.cell 0 (v := .int .i64 k') rfl; clear hj2 hr2))
      | (fail))
    all_goals (go_ret2; exact ⟨_, _, rfl, by omega, HJ.out⟩)
set_option maxHeartbeats 4000000 in
set_option maxRecDepth 100000 in
theorem parteq_any (E : TS T rv gn gl gs b0 G n J) (w : World) (hJ : J w) (a b p : Int) (ha : 0 ≤ a) (hab : a < b) (hb : b ≤ n) (hp : a ≤ p ∧ p < b) :
    Calls Tryz.prog 190 #[.iface T rv, .int .i64 a, .int .i64 b, .int .i64 p] w fun e w' => ∃ x, e = .returned (.int .i64 x) ∧ a < x ∧ x ≤ b ∧ J w' := by
  have mL := found E.rL
  have eL := E.rL.enters
  have mS := found E.rS
  have eS := E.rS.enters
  have HE := Lib.hid E
  have HJ := Lib.hid hJ
  have hn := E.hn
  clear hJ
  go_enter Tryz.func190, Tryz.ntmps190
  go_wp2_with (first
    | (go_at_fn gs; go_must (refine (HE.out.swapZ _ _ _ HJ.out (by omega) (by omega)).mono ?_; rintro e w3 ⟨rfl, hj3, -⟩; have HJ := Lib.hid hj3; clear hj3))
    | (fail))
  go_loopw [9, 10] (fun vi vj wr => ∃ i j : Int, vi = .int .i64 i ∧ vj = .int .i64 j ∧ a < i ∧ i ≤ b ∧ j < b ∧ i ≤ j + 2 ∧ Hid (J wr)) (fun vi vj _ => (1 + intOf vj - intOf vi).toNat)
  case atStart => exact ⟨a + 1, b - 1, rfl, rfl, by omega, by omega, by omega, by omega, HJ⟩
  case round =>
    obtain ⟨i, j, rfl, rfl, hi1, hi2, hj1, hij, HJ1⟩ := hrel
    go_upto_block 2 with fail
    go_cut [9] from 19 to 30 (fun vi wx => ∃ i2 : Int, vi = .int .i64 i2 ∧ i ≤ i2 ∧ (i2 ≤ j + 1 ∨ i2 = i) ∧ Hid (J wx))
    case first =>
      go_wp2
      go_loopw [9] (fun vi wr => ∃ i2 : Int, vi = .int .i64 i2 ∧ i ≤ i2 ∧ (i2 ≤ j + 1 ∨ i2 = i) ∧ Hid (J wr)) (fun vi _ => (1 + j - intOf vi).toNat)
      case atStart => exact ⟨i, rfl, by omega, by omega, HJ1⟩
      case round =>
        obtain ⟨i2, rfl, hi3, hi5, HJ1⟩ := hrel
        have hcase : i2 ≤ j ∨ ¬ i2 ≤ j := by omega
        rcases hcase with h1 | h1
        all_goals go_wp2_with (first
          | (go_at_fn gl; go_must (refine (HE.out.lessZ _ _ _ HJ1.out (by omega) (by omega)).mono ?_; rintro e w2 ⟨⟨c, rfl⟩, hb2⟩; have HJ1 := Lib.hid (HE.out.keep _ _ HJ1.out hb2); clear hb2; cases c))
          | (fail))
        all_goals first
          | (exact ⟨⟨_, rfl, by omega, by omega, HJ1⟩, by simp only [intOf]; omega⟩)
          | (go_meet; exact ⟨_, rfl, by omega, by omega, HJ1⟩)
    case rest =>
    obtain ⟨i2, rfl, hi3, hi5, HJ1⟩ := hcut
    go_upto_block 4 with fail
    go_cut [10] from 31 to 41 (fun vj wx => ∃ j2 : Int, vj = .int .i64 j2 ∧ j2 ≤ j ∧ (i2 ≤ j2 + 1 ∨ j2 = j) ∧ Hid (J wx))
    case first =>
      go_wp2
      go_loopw [10] (fun vj wr => ∃ j2 : Int, vj = .int .i64 j2 ∧ j2 ≤ j ∧ (i2 ≤ j2 + 1 ∨ j2 = j) ∧ Hid (J wr)) (fun vj _ => (1 + intOf vj - i2).toNat)
      case atStart => exact ⟨j, rfl, by omega, by omega, HJ1⟩
      case round =>
        obtain ⟨j2, rfl, hj3, hj5, HJ1⟩ := hrel
        have hcase : i2 ≤ j2 ∨ ¬ i2 ≤ j2 := by omega
        rcases hcase with h1 | h1
        all_goals go_wp2_with (first
          | (go_at_fn gl; go_must (refine (HE.out.lessZ _ _ _ HJ1.out (by omega) (by omega)).mono ?_; rintro e w2 ⟨⟨c, rfl⟩, hb2⟩; have HJ1 := Lib.hid (HE.out.keep _ _ HJ1.out hb2); clear hb2; cases c))
          | (fail))
        all_goals first
          | (exact ⟨⟨_, rfl, by omega, by omega, HJ1⟩, by simp only [intOf]; omega⟩)
          | (go_meet; exact ⟨_, rfl, by omega, by omega, HJ1⟩)
    case rest =>
    obtain ⟨j2, rfl, hj3, hj5, HJ1⟩ := hcut
    rcases (show j2 < i2 ∨ ¬ j2 < i2 by omega) with h1 | h1
    all_goals go_wp2_with (first
      | (go_at_fn gs; go_must (refine (HE.out.swapZ _ _ _ HJ1.out (by omega) (by omega)).mono ?_; rintro e w3 ⟨rfl, hj3, -⟩; have HJ1 := Lib.hid hj3; clear hj3))
      | (fail))
    all_goals first
      | (go_ret; exact ⟨_, rfl, by omega, by omega, HJ1.out⟩)
      | (exact ⟨⟨_, _, rfl, rfl, by omega, by omega, by omega, by omega, HJ1⟩, by simp only [intOf]; omega⟩)
set_option maxHeartbeats 4000000 in
set_option maxRecDepth 100000 in
theorem part_any2 (E : TS T rv gn gl gs b0 G n J) (w : World) (hJ : J w) (a b p : Int) (ha : 0 ≤ a) (hab : a < b) (hb : b ≤ n) (hp : a ≤ p ∧ p < b) :
    Calls Tryz.prog 191 #[.iface T rv, .int .i64 a, .int .i64 b, .int .i64 p] w fun e w' => ∃ x c, e = .returned (.tuple #[.int .i64 x, .bool c]) ∧ a ≤ x ∧ x < b ∧ J w' := by
  have mL := found E.rL
  have eL := E.rL.enters
  have mS := found E.rS
  have eS := E.rS.enters
  have HE := Lib.hid E
  have HJ := Lib.hid hJ
  have hn := E.hn
  clear hJ
  go_enter Tryz.func191, Tryz.ntmps191
  go_upto_block 0 with (first
    | (go_at_fn gs; go_must (refine (HE.out.swapZ _ _ _ HJ.out (by omega) (by omega)).mono ?_; rintro e w3 ⟨rfl, hj3, -⟩; have HJ := Lib.hid hj3; clear hj3))
    | (fail))
  go_cut [10] from 20 to 30 (fun vi wx => ∃ i2 : Int, vi = .int .i64 i2 ∧ a < i2 ∧ i2 ≤ b ∧ Hid (J wx))
  case first =>
    go_wp2
    go_loopw [10] (fun vi wr => ∃ i2 : Int, vi = .int .i64 i2 ∧ a < i2 ∧ i2 ≤ b ∧ Hid (J wr)) (fun vi _ => (1 + b - intOf vi).toNat)
    case atStart => exact ⟨a + 1, rfl, by omega, by omega, HJ⟩
    case round =>
      obtain ⟨i2, rfl, hi3, hi5, HJ1⟩ := hrel
      rcases (show i2 ≤ b - 1 ∨ ¬ i2 ≤ b - 1 by omega) with h1 | h1
      all_goals go_wp2_with (first
        | (go_at_fn gl; go_must (refine (HE.out.lessZ _ _ _ HJ1.out (by omega) (by omega)).mono ?_; rintro e w2 ⟨⟨c, rfl⟩, hb2⟩; have HJ1 := Lib.hid (HE.out.keep _ _ HJ1.out hb2); clear hb2; cases c))
        | (fail))
      all_goals first
        | (exact ⟨⟨_, rfl, by omega, by omega, HJ1⟩, by simp only [intOf]; omega⟩)
        | (go_meet; exact ⟨_, rfl, by omega, by omega, HJ1⟩)
  case rest =>
  obtain ⟨i, rfl, hi1, hi2, HJ1⟩ := hcut
  go_upto_block 2 with fail
  go_cut [11] from 31 to 42 (fun vj wx => ∃ j2 : Int, vj = .int .i64 j2 ∧ j2 < b ∧ i ≤ j2 + 1 ∧ Hid (J wx))
  case first =>
    go_wp2
    go_loopw [11] (fun vj wr => ∃ j2 : Int, vj = .int .i64 j2 ∧ j2 < b ∧ i ≤ j2 + 1 ∧ Hid (J wr)) (fun vj _ => (1 + intOf vj - i).toNat)
    case atStart => exact ⟨b - 1, rfl, by omega, by omega, HJ1⟩
    case round =>
      obtain ⟨j2, rfl, hj3, hj5, HJ1⟩ := hrel
      rcases (show i ≤ j2 ∨ ¬ i ≤ j2 by omega) with h1 | h1
      all_goals go_wp2_with (first
        | (go_at_fn gl; go_must (refine (HE.out.lessZ _ _ _ HJ1.out (by omega) (by omega)).mono ?_; rintro e w2 ⟨⟨c, rfl⟩, hb2⟩; have HJ1 := Lib.hid (HE.out.keep _ _ HJ1.out hb2); clear hb2; cases c))
        | (fail))
      all_goals first
        | (exact ⟨⟨_, rfl, by omega, by omega, HJ1⟩, by simp only [intOf]; omega⟩)
        | (go_meet; exact ⟨_, rfl, by omega, by omega, HJ1⟩)
  case rest =>
  obtain ⟨j, rfl, hj1, hj2, HJ1⟩ := hcut
  rcases (show j < i ∨ ¬ j < i by omega) with h1 | h1
  · go_wp2_with (first
      | (go_at_fn gs; go_must (refine (HE.out.swapZ _ _ _ HJ1.out (by omega) (by omega)).mono ?_; rintro e w3 ⟨rfl, hj3, -⟩; have HJ1 := Lib.hid hj3; clear hj3))
      | (fail))
    go_ret2
    exact ⟨_, _, rfl, by omega, by omega, HJ1.out⟩
  go_wp2_with (first
    | (go_at_fn gs; go_must (refine (HE.out.swapZ _ _ _ HJ1.out (by omega) (by omega)).mono ?_; rintro e w3 ⟨rfl, hj3, -⟩; have HJ1 := Lib.hid hj3; clear hj3))
    | (fail))
  go_loopw [10, 11] (fun vi vj wr => ∃ i1 j1 : Int, vi = .int .i64 i1 ∧ vj = .int .i64 j1 ∧ a < i1 ∧ i1 ≤ b ∧ j1 < b ∧ a ≤ j1 ∧ i1 ≤ j1 + 2 ∧ Hid (J wr)) (fun vi vj _ => (1 + intOf vj - intOf vi).toNat)
  case atStart => exact ⟨i + 1, j - 1, rfl, rfl, by omega, by omega, by omega, by omega, by omega, HJ1⟩
  case round =>
    obtain ⟨i1, j1, rfl, rfl, hi3, hi4, hj3, hj4, hij, HJ1⟩ := hrel
    go_upto_block 6 with fail
    go_cut [10] from 59 to 69 (fun vi wx => ∃ i2 : Int, vi = .int .i64 i2 ∧ i1 ≤ i2 ∧ (i2 ≤ j1 + 1 ∨ i2 = i1) ∧ Hid (J wx))
    case first =>
      go_wp2
      go_loopw [10] (fun vi wr => ∃ i2 : Int, vi = .int .i64 i2 ∧ i1 ≤ i2 ∧ (i2 ≤ j1 + 1 ∨ i2 = i1) ∧ Hid (J wr)) (fun vi _ => (1 + j1 - intOf vi).toNat)
      case atStart => exact ⟨i1, rfl, by omega, by omega, HJ1⟩
      case round =>
        obtain ⟨i2, rfl, hi5, hi6, HJ1⟩ := hrel
        rcases (show i2 ≤ j1 ∨ ¬ i2 ≤ j1 by omega) with h2 | h2
        all_goals go_wp2_with (first
          | (go_at_fn gl; go_must (refine (HE.out.lessZ _ _ _ HJ1.out (by omega) (by omega)).mono ?_; rintro e w2 ⟨⟨c, rfl⟩, hb2⟩; have HJ1 := Lib.hid (HE.out.keep _ _ HJ1.out hb2); clear hb2; cases c))
          | (fail))
        all_goals first
          | (exact ⟨⟨_, rfl, by omega, by omega, HJ1⟩, by simp only [intOf]; omega⟩)
          | (go_meet; exact ⟨_, rfl, by omega, by omega, HJ1⟩)
    case rest =>
    obtain ⟨i2, rfl, hi5, hi6, HJ1⟩ := hcut
    go_upto_block 8 with fail
    go_cut [11] from 70 to 81 (fun vj wx => ∃ j2 : Int, vj = .int .i64 j2 ∧ j2 ≤ j1 ∧ (i2 ≤ j2 + 1 ∨ j2 = j1) ∧ Hid (J wx))
    case first =>
      go_wp2
      go_loopw [11] (fun vj wr => ∃ j2 : Int, vj = .int .i64 j2 ∧ j2 ≤ j1 ∧ (i2 ≤ j2 + 1 ∨ j2 = j1) ∧ Hid (J wr)) (fun vj _ => (1 + intOf vj - i2).toNat)
      case atStart => exact ⟨j1, rfl, by omega, by omega, HJ1⟩
      case round =>
        obtain ⟨j2, rfl, hj5, hj6, HJ1⟩ := hrel
        rcases (show i2 ≤ j2 ∨ ¬ i2 ≤ j2 by omega) with h2 | h2
        all_goals go_wp2_with (first
          | (go_at_fn gl; go_must (refine (HE.out.lessZ _ _ _ HJ1.out (by omega) (by omega)).mono ?_; rintro e w2 ⟨⟨c, rfl⟩, hb2⟩; have HJ1 := Lib.hid (HE.out.keep _ _ HJ1.out hb2); clear hb2; cases c))
          | (fail))
        all_goals first
          | (exact ⟨⟨_, rfl, by omega, by omega, HJ1⟩, by simp only [intOf]; omega⟩)
          | (go_meet; exact ⟨_, rfl, by omega, by omega, HJ1⟩)
    case rest =>
    obtain ⟨j2, rfl, hj5, hj6, HJ1⟩ := hcut
    rcases (show j2 < i2 ∨ ¬ j2 < i2 by omega) with h2 | h2
    all_goals go_wp2_with (first
      | (go_at_fn gs; go_must (refine (HE.out.swapZ _ _ _ HJ1.out (by omega) (by omega)).mono ?_; rintro e w3 ⟨rfl, hj3, -⟩; have HJ1 := Lib.hid hj3; clear hj3))
      | (fail))
    all_goals first
      | (go_ret2; exact ⟨_, _, rfl, by omega, by omega, HJ1.out⟩)
      | (exact ⟨⟨_, _, rfl, rfl, by omega, by omega, by omega, by omega, by omega, HJ1⟩, by simp only [intOf]; omega⟩)
end Go.Proofs.YtcfbkkcamiephaaGreatDoor
