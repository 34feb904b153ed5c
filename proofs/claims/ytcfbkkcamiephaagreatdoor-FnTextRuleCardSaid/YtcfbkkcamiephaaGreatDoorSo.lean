/- sort.Sort over any type whose three methods hold a world's form: it ends, and the form still holds. Nothing is said of the order. -/
import Derived.Test.YtcfbkkcamiephaaGreatDoorD3
import Derived.Test.YtcfbkkcamiephaaGreatDoorSl
import Derived.Deep.LoopGhost
import Derived.Deep.CutBlock
import Derived.Deep.DeepCutAuto
namespace Go.Proofs.YtcfbkkcamiephaaGreatDoor
open Go.RowKit Go.Lib

theorem bdrS {B : Nat} {a w : World} (h : Below B a w) (n : Nat) : Below B a (w.drewN n) := h.trans ⟨rfl, rfl, rfl, Nat.le_refl _, fun _ _ => rfl⟩

/-- what is asked of the three methods: 'J' is the form of the world that they keep, 'G' the block that Swap writes -/
structure TS (T : TypeId) (rv : Value) (gn gl gs b0 G n : Nat) (J : World → Prop) : Prop where
  rN : Reaches Tryz.prog T rv "Len" gn
  rL : Reaches Tryz.prog T rv "Less" gl
  rS : Reaches Tryz.prog T rv "Swap" gs
  hn : n < 1000000000000
  len : ∀ W, J W → Calls Tryz.prog gn #[rv] W fun e w' => e = .returned (.int .i64 n) ∧ Below W.heap.size W w'
  less : ∀ W i j, J W → i < n → j < n → Calls Tryz.prog gl #[rv, .int .i64 (i : Nat), .int .i64 (j : Nat)] W fun e w' => (∃ b, e = .returned (.bool b)) ∧ Below W.heap.size W w'
  swap : ∀ W i j, J W → i < n → j < n → Calls Tryz.prog gs #[rv, .int .i64 (i : Nat), .int .i64 (j : Nat)] W fun e w' => e = .returned (.tuple #[]) ∧ J w' ∧ ∀ N e xs, N ≠ G → RowAt W N e xs → RowAt w' N e xs
  lt : ∀ W, J W → G < W.heap.size ∧ b0 ≤ W.heap.size
  keepS : ∀ W S i v, b0 ≤ S → S ≠ G → J W → J (W.setCell ⟨S, i, none⟩ v)
  keep : ∀ W w', J W → Below W.heap.size W w' → J w'
theorem TS.lessZ {T : TypeId} {rv : Value} {gn gl gs b0 G n : Nat} {J : World → Prop} (E : TS T rv gn gl gs b0 G n J) (W : World) (i j : Int) (hJ : J W) (hi : 0 ≤ i ∧ i < n) (hj : 0 ≤ j ∧ j < n) :
    Calls Tryz.prog gl #[rv, .int .i64 i, .int .i64 j] W fun e w' => (∃ b, e = .returned (.bool b)) ∧ Below W.heap.size W w' := by
  have h := E.less W i.toNat j.toNat hJ (by omega) (by omega)
  rwa [Int.toNat_of_nonneg hi.1, Int.toNat_of_nonneg hj.1] at h
theorem TS.swapZ {T : TypeId} {rv : Value} {gn gl gs b0 G n : Nat} {J : World → Prop} (E : TS T rv gn gl gs b0 G n J) (W : World) (i j : Int) (hJ : J W) (hi : 0 ≤ i ∧ i < n) (hj : 0 ≤ j ∧ j < n) :
    Calls Tryz.prog gs #[rv, .int .i64 i, .int .i64 j] W fun e w' => e = .returned (.tuple #[]) ∧ J w' ∧ ∀ N e xs, N ≠ G → RowAt W N e xs → RowAt w' N e xs := by
  have h := E.swap W i.toNat j.toNat hJ (by omega) (by omega)
  rwa [Int.toNat_of_nonneg hi.1, Int.toNat_of_nonneg hj.1] at h
theorem found {T : TypeId} {rv : Value} {nm : String} {f : Nat} (h : Reaches Tryz.prog T rv nm f) : ∀ w, Sem.run Tryz.prog (method 418 T rv nm) w = .ok (f, rv) w := by
  have e : Tryz.prog.types.size + Made.depth = 418 := by kernel_rfl
  intro w
  rw [← e]
  exact h.finds w
variable {T : TypeId} {rv : Value} {gn gl gs b0 G n : Nat} {J : World → Prop}
set_option maxHeartbeats 2000000 in
set_option maxRecDepth 100000 in
theorem ins_any (E : TS T rv gn gl gs b0 G n J) (w : World) (hJ : J w) (a b : Int) (ha : 0 ≤ a) (hab : a ≤ b) (hb : b ≤ n) :
    Calls Tryz.prog 184 #[.iface T rv, .int .i64 a, .int .i64 b] w fun e w' => e = .returned (.tuple #[]) ∧ J w' := by
  have mL := found E.rL
  have mS := found E.rS
  have eL := E.rL.enters
  have eS := E.rS.enters
  have HE := Lib.hid E
  have HJ := Lib.hid hJ
  have hn := E.hn
  clear hJ
  go_enter Tryz.func184, Tryz.ntmps184
  go_wp2
  go_loopw [6] (fun vi wr => ∃ i : Int, vi = .int .i64 i ∧ a < i ∧ i ≤ b + 1 ∧ Hid (J wr)) (fun vi _ => (b + 1 - intOf vi).toNat)
  case atStart => exact ⟨a + 1, rfl, by omega, by omega, HJ⟩
  case round =>
    obtain ⟨i, rfl, hai, hib, HJ1⟩ := hrel
    go_wp2
    · go_loopw [7] (fun vj wr2 => ∃ j : Int, vj = .int .i64 j ∧ a ≤ j ∧ j ≤ i ∧ Hid (J wr2)) (fun vj _ => (intOf vj).toNat)
      case atStart => exact ⟨i, rfl, by omega, by omega, HJ1⟩
      case round =>
        obtain ⟨j, rfl, haj, hji, HJ2⟩ := hrel
        by_cases hja : a < j
        · go_wp2_with (first
            | (go_at_fn gl; go_must (refine (HE.out.lessZ _ j (j - 1) HJ2.out (by omega) (by omega)).mono ?_; rintro e w2 ⟨⟨c, rfl⟩, hb2⟩; have HJ3 := Lib.hid (HE.out.keep _ _ HJ2.out hb2); clear hb2; cases c))
            | (go_at_fn gs; go_must (refine (HE.out.swapZ _ j (j - 1) HJ3.out (by omega) (by omega)).mono ?_; rintro e w3 ⟨rfl, hj3, -⟩; have HJ4 := Lib.hid hj3; clear hj3))
            | (fail))
          · go_roundw
            case rel => exact ⟨i + 1, by go_num, by omega, by omega, HJ3⟩
            case measure => simp [intOf]; omega
          · go_roundw
            case rel =>
              (repeat apply Exists.intro)
              refine ⟨⟨j - 1, by go_num, by omega, by omega, HJ4⟩, by rw [decide_eq_true (show i < b by assumption)]⟩
            case measure => simp [intOf]; omega
        · go_wp2
          go_roundw
          case rel => exact ⟨i + 1, by go_num, by omega, by omega, HJ2⟩
          case measure => simp [intOf]; omega
    · go_end0
      exact ⟨rfl, HJ1.out⟩
set_option maxHeartbeats 2000000 in
set_option maxRecDepth 100000 in
theorem sift_any (E : TS T rv gn gl gs b0 G n J) (w : World) (hJ : J w) (lo hi a : Int) (hl : 0 ≤ lo) (ha : 0 ≤ a) (hb : a + hi ≤ n) (hh : 0 ≤ hi) (hlh : lo ≤ hi) :
    Calls Tryz.prog 209 #[.iface T rv, .int .i64 lo, .int .i64 hi, .int .i64 a] w fun e w' => e = .returned (.tuple #[]) ∧ J w' := by
  have mL := found E.rL
  have mS := found E.rS
  have eL := E.rL.enters
  have eS := E.rS.enters
  have HE := Lib.hid E
  have HJ := Lib.hid hJ
  have hn := E.hn
  clear hJ
  go_enter Tryz.func209, Tryz.ntmps209
  go_wp2
  go_loopw [8] (fun vi wr => ∃ r : Int, vi = .int .i64 r ∧ 0 ≤ r ∧ r ≤ hi ∧ Hid (J wr)) (fun vi _ => (hi - intOf vi).toNat)
  case atStart => exact ⟨lo, rfl, by omega, by omega, HJ⟩
  case round =>
    obtain ⟨r, rfl, hr0, hrh, HJ1⟩ := hrel
    have hcase : hi ≤ 2 * r + 1 ∨ (¬ hi ≤ 2 * r + 1 ∧ 2 * r + 1 + 1 < hi) ∨ (¬ hi ≤ 2 * r + 1 ∧ ¬ 2 * r + 1 + 1 < hi) := by omega
    rcases hcase with h1 | ⟨h1, h2⟩ | ⟨h1, h2⟩
    all_goals go_wp2_with (first
      | (go_at_fn gl; go_must (refine (HE.out.lessZ _ _ _ HJ1.out (by omega) (by omega)).mono ?_; rintro e w2 ⟨⟨c, rfl⟩, hb2⟩; have HJ1 := Lib.hid (HE.out.keep _ _ HJ1.out hb2); clear hb2; cases c))
      | (go_at_fn gs; go_must (refine (HE.out.swapZ _ _ _ HJ1.out (by omega) (by omega)).mono ?_; rintro e w3 ⟨rfl, hj3, -⟩; have HJ1 := Lib.hid hj3; clear hj3))
      | (fail))
    all_goals first
      | (go_end0; exact ⟨rfl, HJ1.out⟩)
      | (exact ⟨⟨_, rfl, by omega, by omega, HJ1⟩, by simp only [intOf]; omega⟩)
      | (refine bodyPost_ret (results_none rfl _ _ _) rfl ?_; exact ⟨rfl, HJ1.out⟩)
set_option maxHeartbeats 2000000 in
set_option maxRecDepth 100000 in
theorem heap_any (E : TS T rv gn gl gs b0 G n J) (w : World) (hJ : J w) (a b : Int) (ha : 0 ≤ a) (hab : a < b) (hb : b ≤ n) :
    Calls Tryz.prog 185 #[.iface T rv, .int .i64 a, .int .i64 b] w fun e w' => e = .returned (.tuple #[]) ∧ J w' := by
  have mS := found E.rS
  have eS := E.rS.enters
  have HE := Lib.hid E
  have HJ := Lib.hid hJ
  have hn := E.hn
  clear hJ
  have hq : (b - a - 1).tdiv 2 = (b - a - 1) / 2 := Int.tdiv_eq_ediv_of_nonneg (by omega)
  go_enter Tryz.func185, Tryz.ntmps185
  go_wp2
  go_loopw [9] (fun vi wr => ∃ i : Int, vi = .int .i64 i ∧ -1 ≤ i ∧ i < b - a ∧ Hid (J wr)) (fun vi _ => (1 + intOf vi).toNat)
  case atStart => exact ⟨(b - a - 1) / 2, by first | rfl | rw [hq], by omega, by omega, HJ⟩
  case round =>
    obtain ⟨i, rfl, hi1, hi2, HJ1⟩ := hrel
    go_wp2_with (first
      | (go_at_call 209; go_must (refine (sift_any HE.out _ HJ1.out i (b - a) a (by omega) ha (by omega) (by omega) (by omega)).mono ?_; rintro e w2 ⟨rfl, hj2⟩; have HJ1 := Lib.hid hj2; clear hj2))
      | (fail))
    · exact ⟨⟨_, rfl, by omega, by omega, HJ1⟩, by simp only [intOf]; omega⟩
    · go_loopw [10] (fun vi wr => ∃ i : Int, vi = .int .i64 i ∧ -1 ≤ i ∧ i < b - a ∧ Hid (J wr)) (fun vi _ => (1 + intOf vi).toNat)
      case atStart => exact ⟨b - a - 1, rfl, by omega, by omega, HJ1⟩
      case round =>
        obtain ⟨k, rfl, hk1, hk2, HJ2⟩ := hrel
        go_wp2_with (first
          | (go_at_fn gs; go_must (refine (HE.out.swapZ _ _ _ HJ2.out (by omega) (by omega)).mono ?_; rintro e w3 ⟨rfl, hj3, -⟩; have HJ2 := Lib.hid hj3; clear hj3))
          | (go_at_call 209; go_must (refine (sift_any HE.out _ HJ2.out 0 k a (by omega) ha (by omega) (by omega) (by omega)).mono ?_; rintro e w2 ⟨rfl, hj2⟩; have HJ2 := Lib.hid hj2; clear hj2))
          | (fail))
        all_goals first
          | (go_end0; exact ⟨rfl, HJ2.out⟩)
          | (exact ⟨⟨_, rfl, by omega, by omega, HJ2⟩, by simp only [intOf]; omega⟩)
set_option maxHeartbeats 2000000 in
set_option maxRecDepth 100000 in
theorem rev_any (E : TS T rv gn gl gs b0 G n J) (w : World) (hJ : J w) (a b : Int) (ha : 0 ≤ a) (hab : a ≤ b) (hb : b ≤ n) :
    Calls Tryz.prog 188 #[.iface T rv, .int .i64 a, .int .i64 b] w fun e w' => e = .returned (.tuple #[]) ∧ J w' := by
  have mS := found E.rS
  have eS := E.rS.enters
  have HE := Lib.hid E
  have HJ := Lib.hid hJ
  have hn := E.hn
  clear hJ
  go_enter Tryz.func188, Tryz.ntmps188
  go_wp2
  go_loopw [6, 7] (fun vi vj wr => ∃ i j : Int, vi = .int .i64 i ∧ vj = .int .i64 j ∧ a ≤ i ∧ j < b ∧ -1 ≤ j ∧ i ≤ b + 1 ∧ Hid (J wr)) (fun vi vj _ => (1 + intOf vj).toNat)
  case atStart => exact ⟨a, b - 1, rfl, rfl, by omega, by omega, by omega, by omega, HJ⟩
  case round =>
    obtain ⟨i, j, rfl, rfl, hi1, hj1, hj2, hi2, HJ1⟩ := hrel
    go_wp2_with (first
      | (go_at_fn gs; go_must (refine (HE.out.swapZ _ _ _ HJ1.out (by omega) (by omega)).mono ?_; rintro e w3 ⟨rfl, hj3, -⟩; have HJ1 := Lib.hid hj3; clear hj3))
      | (fail))
    all_goals first
      | (go_end0; exact ⟨rfl, HJ1.out⟩)
      | (exact ⟨⟨_, _, rfl, rfl, by omega, by omega, by omega, by omega, HJ1⟩, by simp only [intOf]; omega⟩)
end Go.Proofs.YtcfbkkcamiephaaGreatDoor
