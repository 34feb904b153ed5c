import Derived.Test.YtcfbkkcamiephaaGreatDoorSp
namespace Go.Proofs.YtcfbkkcamiephaaGreatDoor
open Go.RowKit Go.Lib

variable {T : TypeId} {rv : Value} {gn gl gs b0 G n : Nat} {J : World → Prop}
set_option maxHeartbeats 4000000 in
set_option maxRecDepth 100000 in
theorem pins_any (E : TS T rv gn gl gs b0 G n J) (w : World) (hJ : J w) (a b : Int) (ha : 0 ≤ a) (hab : a < b) (hb : b ≤ n) :
    Calls Tryz.prog 189 #[.iface T rv, .int .i64 a, .int .i64 b] w fun e w' => (e = .returned (.bool false) ∨ e = .returned (.bool true)) ∧ J w' := by
  have mL := found E.rL
  have eL := E.rL.enters
  have mS := found E.rS
  have eS := E.rS.enters
  have HE := Lib.hid E
  have HJ := Lib.hid hJ
  have hn := E.hn
  clear hJ
  go_enter Tryz.func189, Tryz.ntmps189
  go_wp2
  go_loopw [7, 8] (fun vi vs wr => ∃ i s : Int, vi = .int .i64 i ∧ vs = .int .i64 s ∧ a < i ∧ i ≤ b ∧ 0 ≤ s ∧ s ≤ 5 ∧ Hid (J wr)) (fun _ vs _ => (5 - intOf vs).toNat)
  case atStart => exact ⟨a + 1, 0, rfl, rfl, by omega, by omega, by omega, by omega, HJ⟩
  case round =>
    obtain ⟨i, s, rfl, rfl, hi1, hi2, hs1, hs2, HJ1⟩ := hrel
    rcases (show s < 5 ∨ ¬ s < 5 by omega) with h5 | h5
    · go_upto_block 2 with fail
      go_cut [7] from 17 to 29 (fun vi wx => ∃ i2 : Int, vi = .int .i64 i2 ∧ a < i2 ∧ i2 ≤ b ∧ Hid (J wx))
      case first =>
        go_wp2
        go_loopw [7] (fun vi wr => ∃ i2 : Int, vi = .int .i64 i2 ∧ a < i2 ∧ i2 ≤ b ∧ Hid (J wr)) (fun vi _ => (1 + b - intOf vi).toNat)
        case atStart => exact ⟨i, rfl, by omega, by omega, HJ1⟩
        case round =>
          obtain ⟨i2, rfl, hi3, hi5, HJ1⟩ := hrel
          rcases (show i2 < b ∨ ¬ i2 < b by omega) with h1 | h1
          all_goals go_wp2_with (first
            | (go_at_fn gl; go_must (refine (HE.out.lessZ _ _ _ HJ1.out (by omega) (by omega)).mono ?_; rintro e w2 ⟨⟨c, rfl⟩, hb2⟩; have HJ1 := Lib.hid (HE.out.keep _ _ HJ1.out hb2); clear hb2; cases c))
            | (fail))
          all_goals first
            | (exact ⟨⟨_, rfl, by omega, by omega, HJ1⟩, by simp only [intOf]; omega⟩)
            | (go_meet; exact ⟨_, rfl, by omega, by omega, HJ1⟩)
      case rest =>
      obtain ⟨i2, rfl, hi3, hi4, HJ1⟩ := hcut
      rcases (show i2 = b ∨ i2 < b by omega) with rfl | h6
      · go_wp2
        go_ret
        first | exact ⟨.inl rfl, HJ1.out⟩ | exact ⟨.inr rfl, HJ1.out⟩
      have hkne : (i2 == b) = false := beq_eq_false_iff_ne.2 (by omega)
      rcases (show b - a < 50 ∨ ¬ b - a < 50 by omega) with h7 | h7
      · go_wp2
        go_ret
        first | exact ⟨.inl rfl, HJ1.out⟩ | exact ⟨.inr rfl, HJ1.out⟩
      obtain ⟨q8, hq8⟩ : ∃ q, decide (2 ≤ i2 - a) = q := ⟨_, rfl⟩
      go_upto_if 45 with (first
        | (go_at_fn gs; go_must (refine (HE.out.swapZ _ _ _ HJ1.out (by omega) (by omega)).mono ?_; rintro e w3 ⟨rfl, hj3, -⟩; have HJ1 := Lib.hid hj3; clear hj3))
        | (fail))
      go_cut [9] from 46 to 62 (fun _ wx => Hid (J wx))
      case first =>
        cases q8
        case true =>
          go_wp2
          go_loopw [9] (fun vj wr => ∃ j2 : Int, vj = .int .i64 j2 ∧ 0 ≤ j2 ∧ j2 < i2 ∧ Hid (J wr)) (fun vj _ => (intOf vj).toNat)
          case atStart => exact ⟨i2 - 1, rfl, by omega, by omega, HJ1⟩
          case round =>
            obtain ⟨j2, rfl, hj3, hj4, HJ1⟩ := hrel
            rcases (show 1 ≤ j2 ∨ ¬ 1 ≤ j2 by omega) with h9 | h9
            all_goals go_wp2_with (first
              | (go_at_fn gl; go_must (refine (HE.out.lessZ _ _ _ HJ1.out (by omega) (by omega)).mono ?_; rintro e w2 ⟨⟨c, rfl⟩, hb2⟩; have HJ1 := Lib.hid (HE.out.keep _ _ HJ1.out hb2); clear hb2; cases c))
              | (go_at_fn gs; go_must (refine (HE.out.swapZ _ _ _ HJ1.out (by omega) (by omega)).mono ?_; rintro e w3 ⟨rfl, hj3, -⟩; have HJ1 := Lib.hid hj3; clear hj3))
              | (fail))
            all_goals first
              | (exact ⟨⟨_, rfl, by omega, by omega, HJ1⟩, by simp only [intOf]; omega⟩)
              | (go_meet; exact HJ1)
        case false =>
          go_wp2
          go_meet
          exact HJ1
      case rest =>
      have HJ1 := hcut
      clear hq8
      rcases (show 2 ≤ b - i2 ∨ ¬ 2 ≤ b - i2 by omega) with h8 | h8
      · go_wp2
        go_loopw [10] (fun vj wr => ∃ j2 : Int, vj = .int .i64 j2 ∧ i2 < j2 ∧ j2 ≤ b ∧ Hid (J wr)) (fun vj _ => (b - intOf vj).toNat)
        case atStart => exact ⟨i2 + 1, rfl, by omega, by omega, HJ1⟩
        case round =>
          obtain ⟨j2, rfl, hj3, hj4, HJ1⟩ := hrel
          rcases (show j2 < b ∨ ¬ j2 < b by omega) with h9 | h9
          all_goals go_wp2_with (first
            | (go_at_fn gl; go_must (refine (HE.out.lessZ _ _ _ HJ1.out (by omega) (by omega)).mono ?_; rintro e w2 ⟨⟨c, rfl⟩, hb2⟩; have HJ1 := Lib.hid (HE.out.keep _ _ HJ1.out hb2); clear hb2; cases c))
            | (go_at_fn gs; go_must (refine (HE.out.swapZ _ _ _ HJ1.out (by omega) (by omega)).mono ?_; rintro e w3 ⟨rfl, hj3, -⟩; have HJ1 := Lib.hid hj3; clear hj3))
            | (fail))
          all_goals first
            | (go_roundw; (case rel => exact ⟨i2, s + 1, rfl, by go_num, by omega, by omega, by omega, by omega, HJ1⟩); (case measure => simp [intOf]; omega))
            | (exact ⟨⟨_, rfl, by omega, by omega, HJ1⟩, by simp only [intOf]; omega⟩)
      · go_wp2
        exact ⟨⟨_, _, rfl, rfl, by omega, by omega, by omega, by omega, HJ1⟩, by simp only [intOf]; omega⟩
    · go_wp2
      go_ret
      first | exact ⟨.inl rfl, HJ1.out⟩ | exact ⟨.inr rfl, HJ1.out⟩
set_option maxHeartbeats 4000000 in
set_option maxRecDepth 100000 in
theorem brk_any (E : TS T rv gn gl gs b0 G n J) (w : World) (hJ : J w) (a b : Int) (ha : 0 ≤ a) (hab : a ≤ b) (hb : b ≤ n) :
    Calls Tryz.prog 186 #[.iface T rv, .int .i64 a, .int .i64 b] w fun e w' => e = .returned (.tuple #[]) ∧ J w' := by
  have mS := found E.rS
  have eS := E.rS.enters
  have HE := Lib.hid E
  have hn := E.hn
  obtain ⟨L, hL⟩ : ∃ L : Nat, b = a + (L : Int) := ⟨(b - a).toNat, by omega⟩
  subst hL
  have hLz : a + (L : Int) - a = (L : Int) := by omega
  by_cases h8 : 8 ≤ L
  case neg =>
    have h8z : ¬ (8 : Int) ≤ (L : Int) := by omega
    have HJ := Lib.hid hJ
    clear hJ
    go_enter Tryz.func186, Tryz.ntmps186
    go_wp2
    go_end0
    exact ⟨rfl, HJ.out⟩
  have h8z : (8 : Int) ≤ (L : Int) := by omega
  have HJ := Lib.hid (E.keep _ _ hJ ((Below.refl _ _).alloc (Nat.le_refl _) (.cells #[.int .u64 (L : Int)] 274)))
  have HR : Hid (RowAt (w.alloc (.cells #[.int .u64 (L : Int)] 274)) w.heap.size 274 [.int .u64 (L : Int)]) := Lib.hid ⟨by rw [heap_alloc_new]⟩
  have HS : Hid (b0 ≤ w.heap.size ∧ w.heap.size ≠ G) := Lib.hid (by have := E.lt _ hJ; omega)
  clear hJ
  obtain ⟨M, hM⟩ : ∃ M : Nat, M = 1 <<< Go.Sort.bitsLen L := ⟨_, rfl⟩
  have hM1 : 1 ≤ M := by rw [hM, Nat.one_shiftLeft]; exact Nat.two_pow_pos _
  have hM2 : M ≤ 2 * L := by rw [hM, Nat.one_shiftLeft]; exact Go.Sort.two_pow_bitsLen_le (by omega)
  have HNP : Hid (∀ w, Calls Tryz.prog 210 #[.int .i64 (L : Int)] w fun e w' => e = .returned (.int .u64 (M : Int)) ∧ w' = w) := Lib.hid (by
    rw [hM]
    exact fun w => Any.nextPowerOfTwo (LaysGt.n44.elder (P := Tryz.prog) (ρ := Tryz.laysGt11_ren) { Tryz.laysGt11 with }) L (by omega) w)
  clear hM
  have h4 : (L : Int).tdiv 4 = (L : Int) / 4 := Int.tdiv_eq_ediv_of_nonneg (by omega)
  go_enter Tryz.func186, Tryz.ntmps186
  go_wp2_with (first
    | (go_at_call 210; go_must (refine (HNP.out _).mono ?_; rintro e w1 ⟨rfl, rfl⟩))
    | (fail))
  go_loopw [9] (fun vi wr => ∃ (i : Int) (R : Nat), vi = .int .i64 i ∧ a + (L : Int) / 4 * 2 - 1 ≤ i ∧ i ≤ a + (L : Int) / 4 * 2 + 2 ∧ R < 18446744073709551616 ∧ Hid (J wr) ∧ Hid (RowAt wr w.heap.size 274 [.int .u64 (R : Int)])) (fun vi _ => (a + (L : Int) / 4 * 2 + 2 - intOf vi).toNat)
  case atStart => exact ⟨_, L, rfl, by omega, by omega, by omega, HJ, HR⟩
  case round =>
    obtain ⟨i, R, rfl, hi1, hi2, lR, HJ1, HR1⟩ := hrel
    rcases (show i ≤ a + (L : Int) / 4 * 2 + 1 ∨ ¬ i ≤ a + (L : Int) / 4 * 2 + 1 by omega) with h1 | h1
    case inr =>
      go_wp2
      go_end0
      exact ⟨rfl, HJ1.out⟩
    obtain ⟨R', hR'⟩ : ∃ R' : Nat, R' = Go.Sort.xorNextN R := ⟨_, rfl⟩
    have lR' : R' < 18446744073709551616 := by rw [hR']; exact Go.Sort.xorNextN_lt R lR
    obtain ⟨O, hO⟩ : ∃ O : Nat, O = R' &&& (M - 1) := ⟨_, rfl⟩
    have lO : O ≤ M - 1 := by rw [hO]; exact Nat.and_le_right
    have eAnd : bits .and .u64 (R' : Int) ((M : Int) - 1) = (O : Int) := by
      rw [show ((M : Int) - 1) = ((M - 1 : Nat) : Int) by omega, bits_and_u64_nat _ _ lR' (by omega), hO]
    have HNX : Hid (Calls Tryz.prog 211 #[.pointer (some ⟨w.heap.size, 0, none⟩)] wr fun e w' => e = .returned (.int .u64 (R' : Int)) ∧ w' = (wr.setCell ⟨w.heap.size, 0, none⟩ (.int .u64 (R' : Int))).drewN 3) := Lib.hid (by
      rw [hR']
      exact Any.xorshift_Next (LaysGt.n45.elder (P := Tryz.prog) (ρ := Tryz.laysGt11_ren) { Tryz.laysGt11 with }) _ _ R lR wr (HR1.out.cell 0 rfl) (HR1.out.frozen 0))
    have HJ2 : Hid (J ((wr.setCell ⟨w.heap.size, 0, none⟩ (.int .u64 (R' : Int))).drewN 3)) := Lib.hid (HE.out.keep _ _ (HE.out.keepS _ _ _ _ HS.out.1 HS.out.2 HJ1.out) (bdrS (Below.refl _ _) 3))
    have HR2 : Hid (RowAt ((wr.setCell ⟨w.heap.size, 0, none⟩ (.int .u64 (R' : Int))).drewN 3) w.heap.size 274 [.int .u64 (R' : Int)]) := Lib.hid ((HR1.out.set 0 (.int .u64 (R' : Int))).below (bdrS (Below.refl _ _) 3))
    clear hR' hO
    generalize (wr.setCell ⟨w.heap.size, 0, none⟩ (.int .u64 (R' : Int))).drewN 3 = w2 at *
    rcases (show (L : Int) ≤ (O : Int) ∨ ¬ (L : Int) ≤ (O : Int) by omega) with h2 | h2
    all_goals go_wp2_with (first
      | (go_at_call 211; go_must (refine HNX.out.mono ?_; rintro e w1 ⟨rfl, rfl⟩))
      | (go_at_fn gs; go_must (refine (HE.out.swapZ _ _ _ HJ2.out (by omega) (by omega)).mono ?_; rintro e w3 ⟨rfl, hj3, hk3⟩; have HJ3 := Lib.hid hj3; have HR3 := Lib.hid (hk3 _ _ _ HS.out.2 HR2.out); clear hj3 hk3))
      | (fail))
    all_goals exact ⟨⟨_, _, rfl, by omega, by omega, lR', HJ3, HR3⟩, by simp only [intOf]; omega⟩
set_option maxHeartbeats 8000000 in
set_option maxRecDepth 100000 in
theorem pdq_any (E : TS T rv gn gl gs b0 G n J) : ∀ (N : Nat) (a b limit : Int) (w : World), (b - a).toNat < N → J w → 0 ≤ a → a ≤ b → b ≤ n → 0 ≤ limit → limit ≤ 1000000 →
    Calls Tryz.prog 162 #[.iface T rv, .int .i64 a, .int .i64 b, .int .i64 limit] w fun e w' => e = .returned (.tuple #[]) ∧ J w' := by
  intro N
  induction N with
  | zero => intro a b limit w h; omega
  | succ N ih =>
  intro a b limit w hN hJ ha hab hbn hl0 hl1
  have mL := found E.rL
  have eL := E.rL.enters
  have HE := Lib.hid E
  have HJ := Lib.hid hJ
  have HIH := Lib.hid ih
  have hn := E.hn
  clear hJ ih
  go_enter Tryz.func162, Tryz.ntmps162
  go_wp2
  go_loopw [1, 2, 3, 8, 9] (fun s1 s2 s3 s8 s9 wr => ∃ (a' b' lim : Int) (wb wp : Bool), s1 = .int .i64 a' ∧ s2 = .int .i64 b' ∧ s3 = .int .i64 lim ∧ s8 = .bool wb ∧ s9 = .bool wp ∧ 0 ≤ a' ∧ a' ≤ b' ∧ b' ≤ n ∧ b' - a' ≤ b - a ∧ 0 ≤ lim ∧ lim ≤ limit ∧ Hid (J wr)) (fun s1 s2 _ _ _ _ => (intOf s2 - intOf s1).toNat)
  case atStart => exact ⟨a, b, limit, true, true, rfl, rfl, rfl, rfl, rfl, ha, hab, hbn, by omega, hl0, by omega, HJ⟩
  case round =>
    obtain ⟨a', b', lim, wb, wp, rfl, rfl, rfl, rfl, rfl, ha', hab', hb', hlen, hlim0, hlim, HJ1⟩ := hrel
    rcases (show b' - a' ≤ 12 ∨ ¬ b' - a' ≤ 12 by omega) with h12 | h12
    · go_wp2_with (first
        | (go_at_call 184; go_must (refine (ins_any HE.out _ HJ1.out a' b' ha' hab' hb').mono ?_; rintro e w1 ⟨rfl, hj1⟩))
        | (fail))
      (try simp only [Exit.inBlock, Exit.then]); refine bodyPost_ret (results_none rfl _ _ _) rfl ?_
      exact ⟨rfl, hj1⟩
    rcases (show lim = 0 ∨ ¬ lim = 0 by omega) with rfl | hl
    · go_wp2_with (first
        | (go_at_call 185; go_must (refine (heap_any HE.out _ HJ1.out a' b' ha' (by omega) hb').mono ?_; rintro e w1 ⟨rfl, hj1⟩))
        | (fail))
      (try simp only [Exit.inBlock, Exit.then]); refine bodyPost_ret (results_none rfl _ _ _) rfl ?_
      exact ⟨rfl, hj1⟩
    have hlz : (lim == 0) = false := beq_eq_false_iff_ne.2 hl
    go_upto_if 35 with fail
    go_cut [3] from 19 to 128 (fun s3 wx => ∃ lim' : Int, s3 = .int .i64 lim' ∧ 0 ≤ lim' ∧ lim' ≤ limit ∧ Hid (J wx))
    case first =>
      cases wb
      · go_wp2_with (first
          | (go_at_call 186; go_must (refine (brk_any HE.out _ HJ1.out a' b' ha' hab' hb').mono ?_; rintro e w1 ⟨rfl, hj1⟩))
          | (fail))
        go_meet
        exact ⟨lim - 1, rfl, by omega, by omega, Lib.hid hj1⟩
      · go_wp2
        go_meet
        exact ⟨lim, rfl, by omega, by omega, HJ1⟩
    case rest =>
    obtain ⟨lim', rfl, hm0, hm1, HJ2⟩ := hcut
    clear hlz hl hlim hlim0
    go_upto_if 50 with (first
      | (go_at_call 187; go_must (refine (pivot_any HE.out _ HJ2.out a' b' ha' (by omega) hb').mono ?_; rintro e w1 ⟨p, h, rfl, hp, hj1⟩; have HJ3 := Lib.hid hj1; clear hj1))
      | (fail))
    go_cut [11, 12] from 19 to 128 (fun s11 s12 wx => ∃ p h : Int, s11 = .int .i64 p ∧ s12 = .int .i64 h ∧ (a' ≤ p ∧ p < b') ∧ Hid (J wx))
    case first =>
      rcases (show h = 2 ∨ ¬ h = 2 by omega) with rfl | h2
      · go_wp2_with (first
          | (go_at_call 188; go_must (refine (rev_any HE.out _ HJ3.out a' b' ha' hab' hb').mono ?_; rintro e w1 ⟨rfl, hj1⟩))
          | (fail))
        go_meet
        exact ⟨b' - 1 - (p - a'), 1, rfl, rfl, by omega, Lib.hid hj1⟩
      · have h2z : (h == 2) = false := beq_eq_false_iff_ne.2 h2
        go_wp2
        go_meet
        exact ⟨p, h, rfl, rfl, hp, HJ3⟩
    case rest =>
    clear hp
    obtain ⟨p, h, rfl, rfl, hp, HJ3⟩ := hcut
    go_upto_region 15 with fail
    obtain ⟨W3, hW3⟩ : ∃ W : World, W = wc := ⟨_, rfl⟩
    have HW3 := Lib.hid hW3
    clear hW3
    obtain ⟨q, hq⟩ : ∃ q, (h == 1) = q := ⟨_, rfl⟩
    go_cut [68] from 19 to 128 (fun s68 wx => ∃ c : Bool, s68 = .bool c ∧ Hid (J wx))
    case first =>
      cases wb <;> cases wp <;> cases q <;> (go_wp2; go_meet; exact ⟨_, rfl, HJ3⟩)
    case rest =>
    clear hq
    obtain ⟨c68, rfl, HJ4⟩ := hcut
    go_upto_if 68 with fail
    go_cut [] from 19 to 128 (fun wx => Hid (J wx))
    case first =>
      cases c68
      · go_wp2
        go_meet
        exact HJ4
      · go_wp2_with (first
          | (go_at_call 189; go_must (refine (pins_any HE.out _ HJ4.out a' b' ha' (by omega) hb').mono ?_; rintro e w1 ⟨rfl | rfl, hj1⟩))
          | (fail))
        all_goals first
          | (go_meet; exact Lib.hid hj1)
          | ((try simp only [Exit.inBlock, Exit.then]); refine bodyPost_ret (results_none rfl _ _ _) rfl ?_; exact ⟨rfl, hj1⟩)
    case rest =>
    have HJ5 := hcut
    go_upto_region 17 with fail
    go_cut [82] from 19 to 128 (fun s82 wx => ∃ c : Bool, s82 = .bool c ∧ Hid (J wx))
    case first =>
      rcases (show 0 < a' ∨ a' = 0 by omega) with h0 | rfl
      · have h0z : a' > 0 := h0
        go_wp2_with (first
          | (go_at_fn gl; go_must (refine (HE.out.lessZ _ _ _ HJ5.out (by omega) (by omega)).mono ?_; rintro e w2 ⟨⟨c, rfl⟩, hb2⟩; have HJ5 := Lib.hid (HE.out.keep _ _ HJ5.out hb2); clear hb2; cases c))
          | (fail))
        all_goals (go_meet; exact ⟨_, rfl, HJ5⟩)
      · go_wp2
        go_meet
        exact ⟨_, rfl, HJ5⟩
    case rest =>
    obtain ⟨c82, rfl, HJ6⟩ := hcut
    cases c82
    · go_upto_if 108 with (first
        | (go_at_call 191; go_must (refine (part_any2 HE.out _ HJ6.out a' b' p ha' (by omega) hb' hp).mono ?_; rintro e w1 ⟨mid, ap, rfl, hm2, hm3, hj1⟩; have HJ7 := Lib.hid hj1; clear hj1))
        | (fail))
      rcases (show mid - a' < b' - mid ∨ ¬ mid - a' < b' - mid by omega) with h5 | h5
      · go_wp2_with (first
          | (go_at_call 162; go_must (refine (HIH.out a' mid lim' _ (by omega) HJ7.out (by omega) (by omega) (by omega) (by omega) (by omega)).mono ?_; rintro e w1 ⟨rfl, hj1⟩))
          | (fail))
        exact ⟨⟨_, _, _, _, _, rfl, rfl, rfl, rfl, rfl, by omega, by omega, by omega, by omega, by omega, by omega, Lib.hid hj1⟩, by simp only [intOf]; omega⟩
      · go_wp2_with (first
          | (go_at_call 162; go_must (refine (HIH.out (mid + 1) b' lim' _ (by omega) HJ7.out (by omega) (by omega) (by omega) (by omega) (by omega)).mono ?_; rintro e w1 ⟨rfl, hj1⟩))
          | (fail))
        exact ⟨⟨_, _, _, _, _, rfl, rfl, rfl, rfl, rfl, by omega, by omega, by omega, by omega, by omega, by omega, Lib.hid hj1⟩, by simp only [intOf]; omega⟩
    · go_wp2_with (first
        | (go_at_call 190; go_must (refine (parteq_any HE.out _ HJ6.out a' b' p ha' (by omega) hb' hp).mono ?_; rintro e w1 ⟨mid, rfl, hm2, hm3, hj1⟩))
        | (fail))
      exact ⟨⟨_, _, _, _, _, rfl, rfl, rfl, rfl, rfl, by omega, by omega, by omega, by omega, by omega, by omega, Lib.hid hj1⟩, by simp only [intOf]; omega⟩
set_option maxHeartbeats 2000000 in
set_option maxRecDepth 100000 in
theorem sort_any (E : TS T rv gn gl gs b0 G n J) (w : World) (hJ : J w) : Calls Tryz.prog 135 #[.iface T rv] w fun e w' => e = .returned (.tuple #[]) ∧ J w' := by
  have mN := found E.rN
  have eN := E.rN.enters
  have hn := E.hn
  have HLEN := Lib.hid (E.len w hJ)
  have HJ := Lib.hid hJ
  have HE := Lib.hid E
  have hlim : Lib.bitLen n ≤ 62 := Lib.bitLen_le n 62 (by omega) (by omega)
  have HBL : Hid (∀ w, Calls Tryz.prog 161 #[.int .u64 (n : Int)] w fun e w' => e = .returned (.int .i64 (Lib.bitLen n : Int)) ∧ w' = w) := Lib.hid (fun w => Any.bits_Len (LaysGg.n13.bits (({ Tryz.laysGt11 with } : LaysGt.n17 Tryz.prog Tryz.laysGt11_ren).elder)) (n : Int) w (by omega) (by omega))
  have hw : IntKind.u64.wrap (n : Int) = n := by simp [IntKind.wrap, IntKind.bits, IntKind.signed]; omega
  have HPQ : Hid (∀ w1, Below w.heap.size w w1 → Calls Tryz.prog 162 #[.iface T rv, .int .i64 0, .int .i64 (n : Int), .int .i64 (Lib.bitLen n : Int)] w1 fun e w' => e = .returned (.tuple #[]) ∧ J w') := Lib.hid (fun w1 hb => pdq_any E (n + 1) 0 n _ w1 (by omega) (E.keep _ _ hJ hb) (by omega) (by omega) (by omega) (by omega) (by omega))
  clear hJ
  generalize (Lib.bitLen n : Int) = lim at *
  rcases (show (n : Int) ≤ 1 ∨ ¬ (n : Int) ≤ 1 by omega) with h1 | h1
  · go_enter Tryz.func135, Tryz.ntmps135
    go_wp2_with (first
      | (go_at_fn gn; go_must (refine HLEN.out.mono ?_; rintro e w1 ⟨rfl, hb1⟩))
      | (fail))
    (try simp only [Exit.inBlock, Exit.then]); refine bodyPost_ret (results_none rfl _ _ _) rfl ?_
    exact ⟨rfl, HE.out.keep _ _ HJ.out hb1⟩
  · go_enter Tryz.func135, Tryz.ntmps135
    go_wp2_with (first
      | (go_at_fn gn; go_must (refine HLEN.out.mono ?_; rintro e w1 ⟨rfl, hb1⟩; have HB1 := Lib.hid hb1; clear hb1))
      | (go_at_call 161; go_must (refine (HBL.out _).mono ?_; rintro e w2 ⟨rfl, rfl⟩))
      | (go_at_call 162; go_must (refine (HPQ.out _ HB1.out).mono ?_; rintro e w3 ⟨rfl, hj3⟩))
      | (fail))
    go_end0
    exact ⟨rfl, hj3⟩
end Go.Proofs.YtcfbkkcamiephaaGreatDoor
