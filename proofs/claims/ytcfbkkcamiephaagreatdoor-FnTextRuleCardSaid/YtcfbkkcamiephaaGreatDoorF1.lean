import Derived.Test.YtcfbkkcamiephaaGreatDoorE4
namespace Go.Proofs.YtcfbkkcamiephaaGreatDoor
open Go.RowKit

/-! ### frequencies and their names -/
def freqL : Nat → List UInt8
  | 0 => [89, 69, 65, 82, 76, 89]
  | 1 => [77, 79, 78, 84, 72, 76, 89]
  | 2 => [87, 69, 69, 75, 76, 89]
  | 3 => [68, 65, 73, 76, 89]
  | 4 => [72, 79, 85, 82, 76, 89]
  | 5 => [77, 73, 78, 85, 84, 69, 76, 89]
  | _ => [83, 69, 67, 79, 78, 68, 76, 89]
theorem u8_small (x : Int) (h0 : 0 ≤ x) (h1 : x ≤ 255) : IntKind.u8.wrap x = x := IntWalk.u8_in x ⟨h0, h1⟩
theorem ix96_0 (s0 s1 s2 s3 s4 s5 s6 : ByteArray) (W : World) : (Instr.index 96 (.agg #[.string s0, .string s1, .string s2, .string s3, .string s4, .string s5, .string s6]) (.int .i64 0)).run Tryz.prog W = .ok (.string s0) W := by kernel_rfl
theorem ix96_1 (s0 s1 s2 s3 s4 s5 s6 : ByteArray) (W : World) : (Instr.index 96 (.agg #[.string s0, .string s1, .string s2, .string s3, .string s4, .string s5, .string s6]) (.int .i64 1)).run Tryz.prog W = .ok (.string s1) W := by kernel_rfl
theorem ix96_2 (s0 s1 s2 s3 s4 s5 s6 : ByteArray) (W : World) : (Instr.index 96 (.agg #[.string s0, .string s1, .string s2, .string s3, .string s4, .string s5, .string s6]) (.int .i64 2)).run Tryz.prog W = .ok (.string s2) W := by kernel_rfl
theorem ix96_3 (s0 s1 s2 s3 s4 s5 s6 : ByteArray) (W : World) : (Instr.index 96 (.agg #[.string s0, .string s1, .string s2, .string s3, .string s4, .string s5, .string s6]) (.int .i64 3)).run Tryz.prog W = .ok (.string s3) W := by kernel_rfl
theorem ix96_4 (s0 s1 s2 s3 s4 s5 s6 : ByteArray) (W : World) : (Instr.index 96 (.agg #[.string s0, .string s1, .string s2, .string s3, .string s4, .string s5, .string s6]) (.int .i64 4)).run Tryz.prog W = .ok (.string s4) W := by kernel_rfl
theorem ix96_5 (s0 s1 s2 s3 s4 s5 s6 : ByteArray) (W : World) : (Instr.index 96 (.agg #[.string s0, .string s1, .string s2, .string s3, .string s4, .string s5, .string s6]) (.int .i64 5)).run Tryz.prog W = .ok (.string s5) W := by kernel_rfl
theorem ix96_6 (s0 s1 s2 s3 s4 s5 s6 : ByteArray) (W : World) : (Instr.index 96 (.agg #[.string s0, .string s1, .string s2, .string s3, .string s4, .string s5, .string s6]) (.int .i64 6)).run Tryz.prog W = .ok (.string s6) W := by kernel_rfl
theorem freqL_nm (i : Nat) : freqNm i = mkS (freqL i) := by
  match i with
  | 0 => rfl
  | 1 => rfl
  | 2 => rfl
  | 3 => rfl
  | 4 => rfl
  | 5 => rfl
  | (n + 6) => rfl
theorem mkS_inj {a b : List UInt8} (h : mkS a = mkS b) : a = b := by
  have := congrArg (fun s : ByteArray => s.data.toList) h
  simpa [mkS] using this
theorem freq_cases (l : List UInt8) : (∃ j : Nat, j < 7 ∧ l = freqL j ∧ freqT l = some (j : Int)) ∨ ((∀ j, j < 7 → (l == freqL j) = false) ∧ freqT l = none) := by
  by_cases hh : ∃ j, j < 7 ∧ l = freqL j
  · left
    obtain ⟨j, hj, rfl⟩ := hh
    refine ⟨j, hj, rfl, ?_⟩
    rcases (show j = 0 ∨ j = 1 ∨ j = 2 ∨ j = 3 ∨ j = 4 ∨ j = 5 ∨ j = 6 by omega) with rfl | rfl | rfl | rfl | rfl | rfl | rfl <;> decide +kernel
  · right
    have hh : ∀ j, j < 7 → l ≠ freqL j := fun j hj h => hh ⟨j, hj, h⟩
    have h2 : ∀ j, j < 7 → mkS l ≠ freqNm j := fun j hj h => hh j hj (mkS_inj (h.trans (freqL_nm j)))
    refine ⟨fun j hj => beq_eq_false_iff_ne.2 (hh j hj), ?_⟩
    unfold freqT
    rw [if_neg (h2 0 (by omega)), if_neg (h2 1 (by omega)), if_neg (h2 2 (by omega)), if_neg (h2 3 (by omega)), if_neg (h2 4 (by omega)), if_neg (h2 5 (by omega)), if_neg (h2 6 (by omega))]
set_option maxRecDepth 100000 in
set_option maxHeartbeats 1600000 in
/-- (Frequency).String. -/
theorem freqStr_any (j : Nat) (hj : j < 7) (w : World) : Calls Tryz.prog 81 #[.int .i64 j] w fun e w' => e = .returned (.string (mkS (freqL j))) ∧ w' = w := by
  rcases (show j = 0 ∨ j = 1 ∨ j = 2 ∨ j = 3 ∨ j = 4 ∨ j = 5 ∨ j = 6 by omega) with rfl | rfl | rfl | rfl | rfl | rfl | rfl
  · show Calls Tryz.prog 81 #[.int .i64 0] w fun e w' => e = .returned (.string (mkS (freqL 0))) ∧ w' = w
    have hix := @ix96_0
    go_enter Tryz.func81, Tryz.ntmps81
    go_wp2
    go_ret
    exact ⟨rfl, rfl⟩
  · show Calls Tryz.prog 81 #[.int .i64 1] w fun e w' => e = .returned (.string (mkS (freqL 1))) ∧ w' = w
    have hix := @ix96_1
    go_enter Tryz.func81, Tryz.ntmps81
    go_wp2
    go_ret
    exact ⟨rfl, rfl⟩
  · show Calls Tryz.prog 81 #[.int .i64 2] w fun e w' => e = .returned (.string (mkS (freqL 2))) ∧ w' = w
    have hix := @ix96_2
    go_enter Tryz.func81, Tryz.ntmps81
    go_wp2
    go_ret
    exact ⟨rfl, rfl⟩
  · show Calls Tryz.prog 81 #[.int .i64 3] w fun e w' => e = .returned (.string (mkS (freqL 3))) ∧ w' = w
    have hix := @ix96_3
    go_enter Tryz.func81, Tryz.ntmps81
    go_wp2
    go_ret
    exact ⟨rfl, rfl⟩
  · show Calls Tryz.prog 81 #[.int .i64 4] w fun e w' => e = .returned (.string (mkS (freqL 4))) ∧ w' = w
    have hix := @ix96_4
    go_enter Tryz.func81, Tryz.ntmps81
    go_wp2
    go_ret
    exact ⟨rfl, rfl⟩
  · show Calls Tryz.prog 81 #[.int .i64 5] w fun e w' => e = .returned (.string (mkS (freqL 5))) ∧ w' = w
    have hix := @ix96_5
    go_enter Tryz.func81, Tryz.ntmps81
    go_wp2
    go_ret
    exact ⟨rfl, rfl⟩
  · show Calls Tryz.prog 81 #[.int .i64 6] w fun e w' => e = .returned (.string (mkS (freqL 6))) ∧ w' = w
    have hix := @ix96_6
    go_enter Tryz.func81, Tryz.ntmps81
    go_wp2
    go_ret
    exact ⟨rfl, rfl⟩
set_option maxRecDepth 100000 in
set_option maxHeartbeats 1600000 in
/-- impl.FreqName. -/
theorem freqName_any (j : Nat) (hj : j < 7) (w : World) : Calls Tryz.prog 46 #[.int .u8 j] w fun e w' => e = .returned (.string (mkS (freqL j))) ∧ w' = w := by
  have H := Lib.hid (fun w => freqStr_any j hj w)
  have hw : IntKind.i64.wrap (j : Int) = j := IntWalk.i64_in _ (by omega)
  go_enter Tryz.func46, Tryz.ntmps46
  go_wp2_with (go_at_call 81; go_must (refine (H.out _).mono ?_; rintro e w1 ⟨rfl, rfl⟩))
  go_ret
  exact ⟨rfl, rfl⟩
set_option maxRecDepth 100000 in
set_option maxHeartbeats 1600000 in
/-- spec.FreqName. -/
theorem freqNameS_any (j : Nat) (hj : j < 7) (w : World) (hG : Freqs w) : Calls Tryz.prog 47 #[.int .u8 j] w fun e w' => e = .returned (.string (mkS (freqL j))) ∧ w' = w := by
  have hc := hG.fr j hj
  rw [freqL_nm] at hc
  have hz : (j : Int) < 7 := by omega
  clear hG
  go_enter Tryz.func47, Tryz.ntmps47
  go_wp2
  go_ret
  exact ⟨rfl, rfl⟩
/-- impl.FreqOf. -/
def FreqOfPost (w : World) (R : Option Int) (e : Ending) (w' : World) : Prop := Below w.heap.size w w' ∧ e = .returned (.tuple #[.int .u8 (R.getD 0), .bool R.isSome])
set_option maxRecDepth 100000 in
set_option maxHeartbeats 1600000 in
theorem freqOf_any (l : List UInt8) (w : World) (hl : l.length ≤ 3000000000) : Calls Tryz.prog 45 #[.string (mkS l)] w (FreqOfPost w (freqT l)) := by
  have h80 := fun w => freq_any l w hl
  clear hl
  rcases freq_cases l with ⟨j, hj, -, hf⟩ | ⟨-, hf⟩
  · rw [hf] at h80 ⊢
    have H := Lib.hid h80
    have hw : IntKind.u8.wrap (j : Int) = j := u8_small (j : Int) (Int.natCast_nonneg j) (by omega)
    clear h80 hf
    go_enter Tryz.func45, Tryz.ntmps45
    go_wp2_with (go_at_call 80; go_must (refine (H.out _).mono ?_; rintro e w1 ⟨v, ev, rfl, hb, rfl, rfl⟩))
    go_ret2
    exact ⟨hb, rfl⟩
  · rw [hf] at h80 ⊢
    have H := Lib.hid h80
    clear h80 hf
    go_enter Tryz.func45, Tryz.ntmps45
    go_wp2_with (go_at_call 80; go_must (refine (H.out _).mono ?_; rintro e w1 ⟨v, ev, rfl, hb, rfl, T, p, rfl⟩))
    go_ret2
    exact ⟨hb, rfl⟩
set_option maxRecDepth 100000 in
set_option maxHeartbeats 1600000 in
/-- spec.FreqOf. -/
theorem freqOfS_any (l : List UInt8) (w : World) (hG : Freqs w) : Calls Tryz.prog 44 #[.string (mkS l)] w (FreqOfPost w (freqT l)) := by
  have tl := toList_mkS l
  have c0 : w.cell? ⟨1, 0, none⟩ = some (.string (mkS [89, 69, 65, 82, 76, 89])) := (hG.fr 0 (by omega)).trans (by rw [freqL_nm]; rfl)
  have t0 : (mkS [89, 69, 65, 82, 76, 89]).toList = [89, 69, 65, 82, 76, 89] := toList_mkS _
  have c1 : w.cell? ⟨1, 1, none⟩ = some (.string (mkS [77, 79, 78, 84, 72, 76, 89])) := (hG.fr 1 (by omega)).trans (by rw [freqL_nm]; rfl)
  have t1 : (mkS [77, 79, 78, 84, 72, 76, 89]).toList = [77, 79, 78, 84, 72, 76, 89] := toList_mkS _
  have c2 : w.cell? ⟨1, 2, none⟩ = some (.string (mkS [87, 69, 69, 75, 76, 89])) := (hG.fr 2 (by omega)).trans (by rw [freqL_nm]; rfl)
  have t2 : (mkS [87, 69, 69, 75, 76, 89]).toList = [87, 69, 69, 75, 76, 89] := toList_mkS _
  have c3 : w.cell? ⟨1, 3, none⟩ = some (.string (mkS [68, 65, 73, 76, 89])) := (hG.fr 3 (by omega)).trans (by rw [freqL_nm]; rfl)
  have t3 : (mkS [68, 65, 73, 76, 89]).toList = [68, 65, 73, 76, 89] := toList_mkS _
  have c4 : w.cell? ⟨1, 4, none⟩ = some (.string (mkS [72, 79, 85, 82, 76, 89])) := (hG.fr 4 (by omega)).trans (by rw [freqL_nm]; rfl)
  have t4 : (mkS [72, 79, 85, 82, 76, 89]).toList = [72, 79, 85, 82, 76, 89] := toList_mkS _
  have c5 : w.cell? ⟨1, 5, none⟩ = some (.string (mkS [77, 73, 78, 85, 84, 69, 76, 89])) := (hG.fr 5 (by omega)).trans (by rw [freqL_nm]; rfl)
  have t5 : (mkS [77, 73, 78, 85, 84, 69, 76, 89]).toList = [77, 73, 78, 85, 84, 69, 76, 89] := toList_mkS _
  have c6 : w.cell? ⟨1, 6, none⟩ = some (.string (mkS [83, 69, 67, 79, 78, 68, 76, 89])) := (hG.fr 6 (by omega)).trans (by rw [freqL_nm]; rfl)
  have t6 : (mkS [83, 69, 67, 79, 78, 68, 76, 89]).toList = [83, 69, 67, 79, 78, 68, 76, 89] := toList_mkS _
  clear hG
  have HR := Lib.hid (freq_cases l)
  go_enter Tryz.func44, Tryz.ntmps44
  go_wp2
  go_loop [7] (fun v => ∃ k : Int, v = .int .i64 k ∧ 0 ≤ k ∧ k ≤ 7 ∧ Hid (∀ i : Nat, (i : Int) < k → (l == freqL i) = false)) (fun v => 7 - (intOf v).toNat)
  case atStart => exact ⟨0, rfl, by omega, by omega, Lib.hid (fun i hi => by omega)⟩
  case round =>
    obtain ⟨k, rfl, hk0, hk, HN⟩ := hrel
    have hk7 : k = 0 ∨ k = 1 ∨ k = 2 ∨ k = 3 ∨ k = 4 ∨ k = 5 ∨ k = 6 ∨ k = 7 := by omega
    clear hk0 hk
    rcases hk7 with rfl | rfl | rfl | rfl | rfl | rfl | rfl | rfl
    · have hix := @ix96_0
      cases hq : (l == [89, 69, 65, 82, 76, 89]) with
      | true =>
        have hT : Hid (freqT l = some 0) := by
          refine Lib.hid ?_
          rcases HR.out with ⟨j, hj, hl, hf⟩ | ⟨hno, _⟩
          · have h1 : l = freqL 0 := by simpa [freqL] using hq
            rw [h1]; decide +kernel
          · have := hno 0 (by omega); simp only [freqL] at this; rw [hq] at this; simp at this
        go_wp2
        go_ret2
        exact ⟨Below.refl _ _, by rw [hT.out]; rfl⟩
      | false =>
        have HQ := Lib.hid hq
        go_wp2
        go_round
        case rel => exact ⟨1, rfl, by omega, by omega, Lib.hid (fun i hi => by
          rcases Nat.lt_or_ge i 0 with h | h
          · exact HN.out i (by omega)
          · obtain rfl : i = 0 := by omega
            exact HQ.out)⟩
        case measure => simp [intOf]
    · have hix := @ix96_1
      cases hq : (l == [77, 79, 78, 84, 72, 76, 89]) with
      | true =>
        have hT : Hid (freqT l = some 1) := by
          refine Lib.hid ?_
          rcases HR.out with ⟨j, hj, hl, hf⟩ | ⟨hno, _⟩
          · have h1 : l = freqL 1 := by simpa [freqL] using hq
            rw [h1]; decide +kernel
          · have := hno 1 (by omega); simp only [freqL] at this; rw [hq] at this; simp at this
        go_wp2
        go_ret2
        exact ⟨Below.refl _ _, by rw [hT.out]; rfl⟩
      | false =>
        have HQ := Lib.hid hq
        go_wp2
        go_round
        case rel => exact ⟨2, rfl, by omega, by omega, Lib.hid (fun i hi => by
          rcases Nat.lt_or_ge i 1 with h | h
          · exact HN.out i (by omega)
          · obtain rfl : i = 1 := by omega
            exact HQ.out)⟩
        case measure => simp [intOf]
    · have hix := @ix96_2
      cases hq : (l == [87, 69, 69, 75, 76, 89]) with
      | true =>
        have hT : Hid (freqT l = some 2) := by
          refine Lib.hid ?_
          rcases HR.out with ⟨j, hj, hl, hf⟩ | ⟨hno, _⟩
          · have h1 : l = freqL 2 := by simpa [freqL] using hq
            rw [h1]; decide +kernel
          · have := hno 2 (by omega); simp only [freqL] at this; rw [hq] at this; simp at this
        go_wp2
        go_ret2
        exact ⟨Below.refl _ _, by rw [hT.out]; rfl⟩
      | false =>
        have HQ := Lib.hid hq
        go_wp2
        go_round
        case rel => exact ⟨3, rfl, by omega, by omega, Lib.hid (fun i hi => by
          rcases Nat.lt_or_ge i 2 with h | h
          · exact HN.out i (by omega)
          · obtain rfl : i = 2 := by omega
            exact HQ.out)⟩
        case measure => simp [intOf]
    · have hix := @ix96_3
      cases hq : (l == [68, 65, 73, 76, 89]) with
      | true =>
        have hT : Hid (freqT l = some 3) := by
          refine Lib.hid ?_
          rcases HR.out with ⟨j, hj, hl, hf⟩ | ⟨hno, _⟩
          · have h1 : l = freqL 3 := by simpa [freqL] using hq
            rw [h1]; decide +kernel
          · have := hno 3 (by omega); simp only [freqL] at this; rw [hq] at this; simp at this
        go_wp2
        go_ret2
        exact ⟨Below.refl _ _, by rw [hT.out]; rfl⟩
      | false =>
        have HQ := Lib.hid hq
        go_wp2
        go_round
        case rel => exact ⟨4, rfl, by omega, by omega, Lib.hid (fun i hi => by
          rcases Nat.lt_or_ge i 3 with h | h
          · exact HN.out i (by omega)
          · obtain rfl : i = 3 := by omega
            exact HQ.out)⟩
        case measure => simp [intOf]
    · have hix := @ix96_4
      cases hq : (l == [72, 79, 85, 82, 76, 89]) with
      | true =>
        have hT : Hid (freqT l = some 4) := by
          refine Lib.hid ?_
          rcases HR.out with ⟨j, hj, hl, hf⟩ | ⟨hno, _⟩
          · have h1 : l = freqL 4 := by simpa [freqL] using hq
            rw [h1]; decide +kernel
          · have := hno 4 (by omega); simp only [freqL] at this; rw [hq] at this; simp at this
        go_wp2
        go_ret2
        exact ⟨Below.refl _ _, by rw [hT.out]; rfl⟩
      | false =>
        have HQ := Lib.hid hq
        go_wp2
        go_round
        case rel => exact ⟨5, rfl, by omega, by omega, Lib.hid (fun i hi => by
          rcases Nat.lt_or_ge i 4 with h | h
          · exact HN.out i (by omega)
          · obtain rfl : i = 4 := by omega
            exact HQ.out)⟩
        case measure => simp [intOf]
    · have hix := @ix96_5
      cases hq : (l == [77, 73, 78, 85, 84, 69, 76, 89]) with
      | true =>
        have hT : Hid (freqT l = some 5) := by
          refine Lib.hid ?_
          rcases HR.out with ⟨j, hj, hl, hf⟩ | ⟨hno, _⟩
          · have h1 : l = freqL 5 := by simpa [freqL] using hq
            rw [h1]; decide +kernel
          · have := hno 5 (by omega); simp only [freqL] at this; rw [hq] at this; simp at this
        go_wp2
        go_ret2
        exact ⟨Below.refl _ _, by rw [hT.out]; rfl⟩
      | false =>
        have HQ := Lib.hid hq
        go_wp2
        go_round
        case rel => exact ⟨6, rfl, by omega, by omega, Lib.hid (fun i hi => by
          rcases Nat.lt_or_ge i 5 with h | h
          · exact HN.out i (by omega)
          · obtain rfl : i = 5 := by omega
            exact HQ.out)⟩
        case measure => simp [intOf]
    · have hix := @ix96_6
      cases hq : (l == [83, 69, 67, 79, 78, 68, 76, 89]) with
      | true =>
        have hT : Hid (freqT l = some 6) := by
          refine Lib.hid ?_
          rcases HR.out with ⟨j, hj, hl, hf⟩ | ⟨hno, _⟩
          · have h1 : l = freqL 6 := by simpa [freqL] using hq
            rw [h1]; decide +kernel
          · have := hno 6 (by omega); simp only [freqL] at this; rw [hq] at this; simp at this
        go_wp2
        go_ret2
        exact ⟨Below.refl _ _, by rw [hT.out]; rfl⟩
      | false =>
        have HQ := Lib.hid hq
        go_wp2
        go_round
        case rel => exact ⟨7, rfl, by omega, by omega, Lib.hid (fun i hi => by
          rcases Nat.lt_or_ge i 6 with h | h
          · exact HN.out i (by omega)
          · obtain rfl : i = 6 := by omega
            exact HQ.out)⟩
        case measure => simp [intOf]
    · have hT : Hid (freqT l = none) := by
        refine Lib.hid ?_
        rcases HR.out with ⟨j, hj, hl, hf⟩ | ⟨_, hf⟩
        · have := HN.out j (by omega); rw [hl] at this; simp at this
        · exact hf
      go_wp2
      go_ret2
      exact ⟨Below.refl _ _, by rw [hT.out]; rfl⟩
end Go.Proofs.YtcfbkkcamiephaaGreatDoor
namespace Go.Proofs.YtcfbkkcamiephaaGreatDoor
open Go.RowKit

/-! ### numbers written -/
theorem below_growN (w : World) (k : Nat) (os : Array Obj) : Below w.heap.size w (Sort.grow (w.drewN k) os) :=
  ⟨rfl, rfl, rfl, by simp [Sort.grow, World.drewN], fun i hi => by simp [Sort.grow, World.drewN, Array.getElem?_append, hi]⟩
theorem itoa_any (n : Int) (h0 : -9223372036854775808 ≤ n) (h1 : n ≤ 9223372036854775807) (w : World) (hG : Good w) : Calls Tryz.prog 101 #[.int .i64 n] w fun e w' => e = .returned (.string (mkS (Lib.itoa n))) ∧ Below w.heap.size w w' := by
  refine (Tryz.strconv_Itoa n h0 h1 w hG.pow).mono ?_
  rintro e w' ⟨rfl, k, os, rfl⟩
  exact ⟨rfl, below_growN _ _ _⟩
def signed (n : Int) : List UInt8 := if n < 0 then Lib.itoa n else 43 :: Lib.itoa n
theorem nDig_le (u : Nat) (h : u < 10000000000000000000) : (Lib.decDigits u).length ≤ 19 := by
  have key : ∀ k u : Nat, u < 10 ^ (k + 1) → (Lib.decDigits u).length ≤ k + 1 := by
    intro k
    induction k with
    | zero => intro u hu; rw [Lib.decDigits, dif_pos (by simpa using hu)]; simp
    | succ k ih =>
      intro u hu
      rw [Lib.decDigits]
      split
      · simp
      · rw [List.length_append]
        have := ih (u / 10) (by rw [Nat.pow_succ] at hu; omega)
        simp; omega
  exact key 18 u (by simpa using h)
theorem itoa_len (n : Int) (h0 : -9223372036854775808 ≤ n) (h1 : n ≤ 9223372036854775807) : (Lib.itoa n).length ≤ 20 := by
  unfold Lib.itoa
  split
  · have := nDig_le n.natAbs (by omega); simp; omega
  · have := nDig_le n.toNat (by omega); omega
theorem str_app (a b : List UInt8) : mkS a ++ mkS b = mkS (a ++ b) := by
  apply ByteArray.ext
  simp [mkS, ByteArray.data_append]
set_option maxRecDepth 100000 in
set_option maxHeartbeats 1600000 in
/-- zzSigned. -/
theorem signed_any (n : Int) (h0 : -9223372036854775808 ≤ n) (h1 : n ≤ 9223372036854775807) (w : World) (hG : Good w) : Calls Tryz.prog 98 #[.int .i64 n] w fun e w' => e = .returned (.string (mkS (signed n))) ∧ Below w.heap.size w w' := by
  have H := Lib.hid (fun w hG => itoa_any n h0 h1 w hG)
  have hl := itoa_len n h0 h1
  have hz := size_mkS (Lib.itoa n)
  have hsg : signed n = if n < 0 then Lib.itoa n else 43 :: Lib.itoa n := rfl
  by_cases hn : n < 0
  · rw [if_pos hn] at hsg
    have HS := Lib.hid hsg
    clear hsg h0 h1
    go_enter Tryz.func98, Tryz.ntmps98
    go_wp2_with (go_at_call 101; go_must (refine (H.out _ hG).mono ?_; rintro e w1 ⟨rfl, hb⟩))
    go_ret
    exact ⟨by rw [HS.out]; rfl, hb⟩
  · rw [if_neg hn] at hsg
    have HS := Lib.hid hsg
    clear hsg h0 h1
    generalize Lib.itoa n = s at *
    have happ : (⟨#[43]⟩ : ByteArray) ++ mkS s = mkS (43 :: s) := str_app [43] s
    go_enter Tryz.func98, Tryz.ntmps98
    go_wp2_with (go_at_call 101; go_must (refine (H.out _ hG).mono ?_; rintro e w1 ⟨rfl, hb⟩))
    go_ret
    exact ⟨by rw [HS.out]; rfl, hb⟩
def dayL : Nat → List UInt8
  | 0 => [77, 79]
  | 1 => [84, 85]
  | 2 => [87, 69]
  | 3 => [84, 72]
  | 4 => [70, 82]
  | 5 => [83, 65]
  | _ => [83, 85]
theorem dayL_nm (i : Nat) : dayNm i = mkS (dayL i) := by
  match i with
  | 0 => rfl
  | 1 => rfl
  | 2 => rfl
  | 3 => rfl
  | 4 => rfl
  | 5 => rfl
  | (n + 6) => rfl
/-- A day's name: (Weekday).String. -/
def dayStr (d : Nat) (n : Int) : List UInt8 := if n = 0 then dayL d else signed n ++ dayL d
set_option maxRecDepth 100000 in
set_option maxHeartbeats 1600000 in
theorem dayStr_0 (n : Int) (h0 : -9223372036854775808 ≤ n) (h1 : n ≤ 9223372036854775807) (w : World) (hG : Good w) : Calls Tryz.prog 71 #[.agg #[.int .i64 0, .int .i64 n]] w fun e w' => e = .returned (.string (mkS (dayStr 0 n))) ∧ Below w.heap.size w w' := by
  have H := Lib.hid (fun w hG => signed_any n h0 h1 w hG)
  have hl : (signed n).length ≤ 21 := by
    have := itoa_len n h0 h1
    unfold signed; split <;> simp <;> omega
  have hz := size_mkS (signed n)
  have hds : dayStr 0 n = if n = 0 then [77, 79] else signed n ++ [77, 79] := rfl
  have hix := @ix96_0
  have hGa := hG.alloc (.cells #[.int .i64 0, .int .i64 n] 103)
  have hb0 : Below w.heap.size w (w.alloc (.cells #[.int .i64 0, .int .i64 n] 103)) := (Below.refl _ _).alloc (Nat.le_refl _) _
  by_cases hn : n = 0
  · subst hn
    rw [if_pos rfl] at hds
    have HS := Lib.hid hds
    clear hds h0 h1
    go_enter Tryz.func71, Tryz.ntmps71
    go_wp2
    go_ret
    exact ⟨by rw [HS.out]; rfl, hb0⟩
  · rw [if_neg hn] at hds
    have hn2 : (n == 0) = false := by simpa using hn
    have HS := Lib.hid hds
    clear hds h0 h1
    generalize signed n = s at *
    have happ : mkS s ++ (⟨#[77, 79]⟩ : ByteArray) = mkS (s ++ [77, 79]) := str_app s [77, 79]
    go_enter Tryz.func71, Tryz.ntmps71
    go_wp2_with (go_at_call 98; go_must (refine (H.out _ hGa).mono ?_; rintro e w1 ⟨rfl, hb⟩))
    go_ret
    exact ⟨by rw [HS.out]; rfl, hb0.trans (hb.mono (by simp))⟩
set_option maxRecDepth 100000 in
set_option maxHeartbeats 1600000 in
theorem dayStr_1 (n : Int) (h0 : -9223372036854775808 ≤ n) (h1 : n ≤ 9223372036854775807) (w : World) (hG : Good w) : Calls Tryz.prog 71 #[.agg #[.int .i64 1, .int .i64 n]] w fun e w' => e = .returned (.string (mkS (dayStr 1 n))) ∧ Below w.heap.size w w' := by
  have H := Lib.hid (fun w hG => signed_any n h0 h1 w hG)
  have hl : (signed n).length ≤ 21 := by
    have := itoa_len n h0 h1
    unfold signed; split <;> simp <;> omega
  have hz := size_mkS (signed n)
  have hds : dayStr 1 n = if n = 0 then [84, 85] else signed n ++ [84, 85] := rfl
  have hix := @ix96_1
  have hGa := hG.alloc (.cells #[.int .i64 1, .int .i64 n] 103)
  have hb0 : Below w.heap.size w (w.alloc (.cells #[.int .i64 1, .int .i64 n] 103)) := (Below.refl _ _).alloc (Nat.le_refl _) _
  by_cases hn : n = 0
  · subst hn
    rw [if_pos rfl] at hds
    have HS := Lib.hid hds
    clear hds h0 h1
    go_enter Tryz.func71, Tryz.ntmps71
    go_wp2
    go_ret
    exact ⟨by rw [HS.out]; rfl, hb0⟩
  · rw [if_neg hn] at hds
    have hn2 : (n == 0) = false := by simpa using hn
    have HS := Lib.hid hds
    clear hds h0 h1
    generalize signed n = s at *
    have happ : mkS s ++ (⟨#[84, 85]⟩ : ByteArray) = mkS (s ++ [84, 85]) := str_app s [84, 85]
    go_enter Tryz.func71, Tryz.ntmps71
    go_wp2_with (go_at_call 98; go_must (refine (H.out _ hGa).mono ?_; rintro e w1 ⟨rfl, hb⟩))
    go_ret
    exact ⟨by rw [HS.out]; rfl, hb0.trans (hb.mono (by simp))⟩
set_option maxRecDepth 100000 in
set_option maxHeartbeats 1600000 in
theorem dayStr_2 (n : Int) (h0 : -9223372036854775808 ≤ n) (h1 : n ≤ 9223372036854775807) (w : World) (hG : Good w) : Calls Tryz.prog 71 #[.agg #[.int .i64 2, .int .i64 n]] w fun e w' => e = .returned (.string (mkS (dayStr 2 n))) ∧ Below w.heap.size w w' := by
  have H := Lib.hid (fun w hG => signed_any n h0 h1 w hG)
  have hl : (signed n).length ≤ 21 := by
    have := itoa_len n h0 h1
    unfold signed; split <;> simp <;> omega
  have hz := size_mkS (signed n)
  have hds : dayStr 2 n = if n = 0 then [87, 69] else signed n ++ [87, 69] := rfl
  have hix := @ix96_2
  have hGa := hG.alloc (.cells #[.int .i64 2, .int .i64 n] 103)
  have hb0 : Below w.heap.size w (w.alloc (.cells #[.int .i64 2, .int .i64 n] 103)) := (Below.refl _ _).alloc (Nat.le_refl _) _
  by_cases hn : n = 0
  · subst hn
    rw [if_pos rfl] at hds
    have HS := Lib.hid hds
    clear hds h0 h1
    go_enter Tryz.func71, Tryz.ntmps71
    go_wp2
    go_ret
    exact ⟨by rw [HS.out]; rfl, hb0⟩
  · rw [if_neg hn] at hds
    have hn2 : (n == 0) = false := by simpa using hn
    have HS := Lib.hid hds
    clear hds h0 h1
    generalize signed n = s at *
    have happ : mkS s ++ (⟨#[87, 69]⟩ : ByteArray) = mkS (s ++ [87, 69]) := str_app s [87, 69]
    go_enter Tryz.func71, Tryz.ntmps71
    go_wp2_with (go_at_call 98; go_must (refine (H.out _ hGa).mono ?_; rintro e w1 ⟨rfl, hb⟩))
    go_ret
    exact ⟨by rw [HS.out]; rfl, hb0.trans (hb.mono (by simp))⟩
set_option maxRecDepth 100000 in
set_option maxHeartbeats 1600000 in
theorem dayStr_3 (n : Int) (h0 : -9223372036854775808 ≤ n) (h1 : n ≤ 9223372036854775807) (w : World) (hG : Good w) : Calls Tryz.prog 71 #[.agg #[.int .i64 3, .int .i64 n]] w fun e w' => e = .returned (.string (mkS (dayStr 3 n))) ∧ Below w.heap.size w w' := by
  have H := Lib.hid (fun w hG => signed_any n h0 h1 w hG)
  have hl : (signed n).length ≤ 21 := by
    have := itoa_len n h0 h1
    unfold signed; split <;> simp <;> omega
  have hz := size_mkS (signed n)
  have hds : dayStr 3 n = if n = 0 then [84, 72] else signed n ++ [84, 72] := rfl
  have hix := @ix96_3
  have hGa := hG.alloc (.cells #[.int .i64 3, .int .i64 n] 103)
  have hb0 : Below w.heap.size w (w.alloc (.cells #[.int .i64 3, .int .i64 n] 103)) := (Below.refl _ _).alloc (Nat.le_refl _) _
  by_cases hn : n = 0
  · subst hn
    rw [if_pos rfl] at hds
    have HS := Lib.hid hds
    clear hds h0 h1
    go_enter Tryz.func71, Tryz.ntmps71
    go_wp2
    go_ret
    exact ⟨by rw [HS.out]; rfl, hb0⟩
  · rw [if_neg hn] at hds
    have hn2 : (n == 0) = false := by simpa using hn
    have HS := Lib.hid hds
    clear hds h0 h1
    generalize signed n = s at *
    have happ : mkS s ++ (⟨#[84, 72]⟩ : ByteArray) = mkS (s ++ [84, 72]) := str_app s [84, 72]
    go_enter Tryz.func71, Tryz.ntmps71
    go_wp2_with (go_at_call 98; go_must (refine (H.out _ hGa).mono ?_; rintro e w1 ⟨rfl, hb⟩))
    go_ret
    exact ⟨by rw [HS.out]; rfl, hb0.trans (hb.mono (by simp))⟩
set_option maxRecDepth 100000 in
set_option maxHeartbeats 1600000 in
theorem dayStr_4 (n : Int) (h0 : -9223372036854775808 ≤ n) (h1 : n ≤ 9223372036854775807) (w : World) (hG : Good w) : Calls Tryz.prog 71 #[.agg #[.int .i64 4, .int .i64 n]] w fun e w' => e = .returned (.string (mkS (dayStr 4 n))) ∧ Below w.heap.size w w' := by
  have H := Lib.hid (fun w hG => signed_any n h0 h1 w hG)
  have hl : (signed n).length ≤ 21 := by
    have := itoa_len n h0 h1
    unfold signed; split <;> simp <;> omega
  have hz := size_mkS (signed n)
  have hds : dayStr 4 n = if n = 0 then [70, 82] else signed n ++ [70, 82] := rfl
  have hix := @ix96_4
  have hGa := hG.alloc (.cells #[.int .i64 4, .int .i64 n] 103)
  have hb0 : Below w.heap.size w (w.alloc (.cells #[.int .i64 4, .int .i64 n] 103)) := (Below.refl _ _).alloc (Nat.le_refl _) _
  by_cases hn : n = 0
  · subst hn
    rw [if_pos rfl] at hds
    have HS := Lib.hid hds
    clear hds h0 h1
    go_enter Tryz.func71, Tryz.ntmps71
    go_wp2
    go_ret
    exact ⟨by rw [HS.out]; rfl, hb0⟩
  · rw [if_neg hn] at hds
    have hn2 : (n == 0) = false := by simpa using hn
    have HS := Lib.hid hds
    clear hds h0 h1
    generalize signed n = s at *
    have happ : mkS s ++ (⟨#[70, 82]⟩ : ByteArray) = mkS (s ++ [70, 82]) := str_app s [70, 82]
    go_enter Tryz.func71, Tryz.ntmps71
    go_wp2_with (go_at_call 98; go_must (refine (H.out _ hGa).mono ?_; rintro e w1 ⟨rfl, hb⟩))
    go_ret
    exact ⟨by rw [HS.out]; rfl, hb0.trans (hb.mono (by simp))⟩
set_option maxRecDepth 100000 in
set_option maxHeartbeats 1600000 in
theorem dayStr_5 (n : Int) (h0 : -9223372036854775808 ≤ n) (h1 : n ≤ 9223372036854775807) (w : World) (hG : Good w) : Calls Tryz.prog 71 #[.agg #[.int .i64 5, .int .i64 n]] w fun e w' => e = .returned (.string (mkS (dayStr 5 n))) ∧ Below w.heap.size w w' := by
  have H := Lib.hid (fun w hG => signed_any n h0 h1 w hG)
  have hl : (signed n).length ≤ 21 := by
    have := itoa_len n h0 h1
    unfold signed; split <;> simp <;> omega
  have hz := size_mkS (signed n)
  have hds : dayStr 5 n = if n = 0 then [83, 65] else signed n ++ [83, 65] := rfl
  have hix := @ix96_5
  have hGa := hG.alloc (.cells #[.int .i64 5, .int .i64 n] 103)
  have hb0 : Below w.heap.size w (w.alloc (.cells #[.int .i64 5, .int .i64 n] 103)) := (Below.refl _ _).alloc (Nat.le_refl _) _
  by_cases hn : n = 0
  · subst hn
    rw [if_pos rfl] at hds
    have HS := Lib.hid hds
    clear hds h0 h1
    go_enter Tryz.func71, Tryz.ntmps71
    go_wp2
    go_ret
    exact ⟨by rw [HS.out]; rfl, hb0⟩
  · rw [if_neg hn] at hds
    have hn2 : (n == 0) = false := by simpa using hn
    have HS := Lib.hid hds
    clear hds h0 h1
    generalize signed n = s at *
    have happ : mkS s ++ (⟨#[83, 65]⟩ : ByteArray) = mkS (s ++ [83, 65]) := str_app s [83, 65]
    go_enter Tryz.func71, Tryz.ntmps71
    go_wp2_with (go_at_call 98; go_must (refine (H.out _ hGa).mono ?_; rintro e w1 ⟨rfl, hb⟩))
    go_ret
    exact ⟨by rw [HS.out]; rfl, hb0.trans (hb.mono (by simp))⟩
set_option maxRecDepth 100000 in
set_option maxHeartbeats 1600000 in
theorem dayStr_6 (n : Int) (h0 : -9223372036854775808 ≤ n) (h1 : n ≤ 9223372036854775807) (w : World) (hG : Good w) : Calls Tryz.prog 71 #[.agg #[.int .i64 6, .int .i64 n]] w fun e w' => e = .returned (.string (mkS (dayStr 6 n))) ∧ Below w.heap.size w w' := by
  have H := Lib.hid (fun w hG => signed_any n h0 h1 w hG)
  have hl : (signed n).length ≤ 21 := by
    have := itoa_len n h0 h1
    unfold signed; split <;> simp <;> omega
  have hz := size_mkS (signed n)
  have hds : dayStr 6 n = if n = 0 then [83, 85] else signed n ++ [83, 85] := rfl
  have hix := @ix96_6
  have hGa := hG.alloc (.cells #[.int .i64 6, .int .i64 n] 103)
  have hb0 : Below w.heap.size w (w.alloc (.cells #[.int .i64 6, .int .i64 n] 103)) := (Below.refl _ _).alloc (Nat.le_refl _) _
  by_cases hn : n = 0
  · subst hn
    rw [if_pos rfl] at hds
    have HS := Lib.hid hds
    clear hds h0 h1
    go_enter Tryz.func71, Tryz.ntmps71
    go_wp2
    go_ret
    exact ⟨by rw [HS.out]; rfl, hb0⟩
  · rw [if_neg hn] at hds
    have hn2 : (n == 0) = false := by simpa using hn
    have HS := Lib.hid hds
    clear hds h0 h1
    generalize signed n = s at *
    have happ : mkS s ++ (⟨#[83, 85]⟩ : ByteArray) = mkS (s ++ [83, 85]) := str_app s [83, 85]
    go_enter Tryz.func71, Tryz.ntmps71
    go_wp2_with (go_at_call 98; go_must (refine (H.out _ hGa).mono ?_; rintro e w1 ⟨rfl, hb⟩))
    go_ret
    exact ⟨by rw [HS.out]; rfl, hb0.trans (hb.mono (by simp))⟩
theorem dayStr_any (d : Nat) (hd : d < 7) (n : Int) (h0 : -9223372036854775808 ≤ n) (h1 : n ≤ 9223372036854775807) (w : World) (hG : Good w) : Calls Tryz.prog 71 #[.agg #[.int .i64 d, .int .i64 n]] w fun e w' => e = .returned (.string (mkS (dayStr d n))) ∧ Below w.heap.size w w' := by
  rcases (show d = 0 ∨ d = 1 ∨ d = 2 ∨ d = 3 ∨ d = 4 ∨ d = 5 ∨ d = 6 by omega) with rfl | rfl | rfl | rfl | rfl | rfl | rfl
  · exact dayStr_0 n h0 h1 w hG
  · exact dayStr_1 n h0 h1 w hG
  · exact dayStr_2 n h0 h1 w hG
  · exact dayStr_3 n h0 h1 w hG
  · exact dayStr_4 n h0 h1 w hG
  · exact dayStr_5 n h0 h1 w hG
  · exact dayStr_6 n h0 h1 w hG
theorem zzWeekday_any (d n : Int) (w : World) : Calls Tryz.prog 70 #[.int .i64 d, .int .i64 n] w fun e w' => e = .returned (.agg #[.int .i64 d, .int .i64 n]) ∧ Below w.heap.size w w' := by
  go_enter Tryz.func70, Tryz.ntmps70
  go_wp2
  refine bodyPost_ret (v := .agg #[.int .i64 d, .int .i64 n]) (by simp [results, Tryz.results70, go_sem]) rfl ⟨rfl, ?_⟩
  repeat (first | exact Below.refl _ _ | refine Below.setCell ?_ (by simp) _ | refine Below.alloc ?_ (by first | (simp; done) | (simp; omega)) _)
/-- impl.DayName. -/
theorem dayName_any (d : Nat) (hd : d < 7) (n : Int) (h0 : -9223372036854775808 ≤ n) (h1 : n ≤ 9223372036854775807) (w : World) (hG : Good w) : Calls Tryz.prog 36 #[.agg #[.int .i64 d, .int .i64 n]] w fun e w' => e = .returned (.string (mkS (dayStr d n))) ∧ Below w.heap.size w w' := by
  have H := Lib.hid (fun w hG => dayStr_any d hd n h0 h1 w hG)
  have hb0 : Below w.heap.size w (w.alloc (.cells #[.int .i64 d, .int .i64 n] 61)) := (Below.refl _ _).alloc (Nat.le_refl _) _
  clear h0 h1 hd
  go_enter Tryz.func36, Tryz.ntmps36
  go_wp2_with (first
    | (go_at_call 70; go_must (refine (zzWeekday_any _ _ _).mono ?_; rintro e w1 ⟨rfl, hb1⟩; have HB1 := hb0.trans (hb1.mono (by simp))))
    | (go_at_call 71; go_must (refine (H.out _ (hG.below HB1)).mono ?_; rintro e w2 ⟨rfl, hb2⟩)))
  go_ret
  exact ⟨rfl, HB1.trans (hb2.mono HB1.size)⟩
end Go.Proofs.YtcfbkkcamiephaaGreatDoor
