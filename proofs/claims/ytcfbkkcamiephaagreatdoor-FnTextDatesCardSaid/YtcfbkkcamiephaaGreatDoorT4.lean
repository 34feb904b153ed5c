import Derived.Test.YtcfbkkcamiephaaGreatDoorT2
namespace Go.Proofs.YtcfbkkcamiephaaGreatDoor
open Go.RowKit

/-! ### TextMoment -/
def Out.val : Out Int → Int
  | .right n => n
  | _ => 0
def Out.code {α : Type} : Out α → Int
  | .right _ => 0
  | .wrong => 1
  | .opn => 2
def MomPost (w : World) (o : Out Int) (e : Ending) (w' : World) : Prop := e = .returned (.tuple #[.int .i64 o.val, .int .u8 o.code]) ∧ w = w'
theorem mom_right {w : World} {o : Out Int} {e : Ending} {n : Int} (h : o = .right n) (he : e = .returned (.tuple #[.int .i64 n, .int .u8 0])) : MomPost w o e w := by rw [h]; exact ⟨he, rfl⟩
theorem mom_wrong {w : World} {o : Out Int} {e : Ending} (h : o = .wrong) (he : e = .returned (.tuple #[.int .i64 0, .int .u8 1])) : MomPost w o e w := by rw [h]; exact ⟨he, rfl⟩
theorem mom_opn {w : World} {o : Out Int} {e : Ending} (h : o = .opn) (he : e = .returned (.tuple #[.int .i64 0, .int .u8 2])) : MomPost w o e w := by rw [h]; exact ⟨he, rfl⟩
theorem dig_y {l : List UInt8} {a n : Nat} {x : Int} (h : sDig l a n = some x) (hl : l.length ≤ 1000000000) (ha : a ≤ 100) (hn : n ≤ 4) (w : World) : Calls Tryz.prog 105 #[.string (mkS l), .int .i64 a, .int .i64 n] w fun e w' => e = .returned (.tuple #[.int .i64 x, .bool true]) ∧ w = w' := by
  have := digitsAt_any l a n w hl ha hn; rw [h] at this; exact this
theorem dig_n {l : List UInt8} {a n : Nat} (h : sDig l a n = none) (hl : l.length ≤ 1000000000) (ha : a ≤ 100) (hn : n ≤ 4) (w : World) : Calls Tryz.prog 105 #[.string (mkS l), .int .i64 a, .int .i64 n] w fun e w' => e = .returned (.tuple #[.int .i64 0, .bool false]) ∧ w = w' := by
  have := digitsAt_any l a n w hl ha hn; rw [h] at this; exact this
theorem dig_g (l : List UInt8) (a n : Nat) (hl : l.length ≤ 1000000000) (ha : a ≤ 100) (hn : n ≤ 4) (w : World) : ∃ (x : Int) (b : Bool), Calls Tryz.prog 105 #[.string (mkS l), .int .i64 a, .int .i64 n] w fun e w' => e = .returned (.tuple #[.int .i64 x, .bool b]) ∧ w = w' :=
  ⟨_, _, digitsAt_any l a n w hl ha hn⟩
theorem sDig_bd {l : List UInt8} {a n : Nat} {x : Int} (h : sDig l a n = some x) : 0 ≤ x ∧ x < 10 ^ n ∧ (n = 0 ∨ a + n ≤ l.length) := by
  unfold sDig at h
  cases ht : takeD n (l.drop a) with
  | none => rw [ht] at h; cases h
  | some p =>
    obtain ⟨v, r⟩ := p
    rw [ht] at h
    simp only [Option.map_some, Option.some.injEq] at h
    have := takeD_bd ht
    have h3 := (takeD_some ht).1
    rw [List.length_drop] at h3
    exact ⟨by omega, by omega, by omega⟩
set_option maxRecDepth 100000 in
set_option maxHeartbeats 6400000 in
theorem moment_bad (l : List UInt8) (w : World) (hl : l.length ≤ 1000000000) (hbad : ∀ y m d, sDig l 0 4 = some y → sDig l 4 2 = some m → sDig l 6 2 = some d → m < 1 ∨ 12 < m ∨ d < 1 ∨ mdays m y < d) :
    Calls Tryz.prog 76 #[.string (mkS l)] w (MomPost w (momS l)) := by
  cases h1 : sDig l 0 4 with
  | none =>
    have D1 : Hid (Calls Tryz.prog 105 #[.string (mkS l), .int .i64 0, .int .i64 4] w fun e w' => e = .returned (.tuple #[.int .i64 0, .bool false]) ∧ w = w') := dig_n h1 hl (by decide) (by decide) w
    obtain ⟨g2, b2, hg2⟩ := dig_g l 4 2 hl (by decide) (by decide) w
    have D2 : Hid (Calls Tryz.prog 105 #[.string (mkS l), .int .i64 4, .int .i64 2] w fun e w' => e = .returned (.tuple #[.int .i64 g2, .bool b2]) ∧ w = w') := hg2
    clear hg2
    obtain ⟨g3, b3, hg3⟩ := dig_g l 6 2 hl (by decide) (by decide) w
    have D3 : Hid (Calls Tryz.prog 105 #[.string (mkS l), .int .i64 6, .int .i64 2] w fun e w' => e = .returned (.tuple #[.int .i64 g3, .bool b3]) ∧ w = w') := hg3
    clear hg3
    have HM : Hid (momS l = .wrong) := Lib.hid (by unfold momS; rw [h1])
    clear hbad h1
    go_enter Tryz.func76, Tryz.ntmps76
    go_wp2_with (first
      | (go_at_call 105; (with_reducible refine D1.out.mono ?_); rintro e w1 ⟨rfl, rfl⟩)
      | (go_at_call 105; (with_reducible refine D2.out.mono ?_); rintro e w1 ⟨rfl, rfl⟩)
      | (go_at_call 105; (with_reducible refine D3.out.mono ?_); rintro e w1 ⟨rfl, rfl⟩))
    all_goals first | (go_ret2; exact mom_wrong HM.out rfl) | (rename_i hh; exact absurd (hh.2.symm.trans qB) (by decide)) | (rename_i hh; rcases hh with hh | hh; exact absurd (hh.symm.trans qB) (by decide); exact absurd (hh.symm.trans qC) (by decide)) | (exfalso; omega)
  | some y =>
    cases h2 : sDig l 4 2 with
    | none =>
      have D1 : Hid (Calls Tryz.prog 105 #[.string (mkS l), .int .i64 0, .int .i64 4] w fun e w' => e = .returned (.tuple #[.int .i64 y, .bool true]) ∧ w = w') := dig_y h1 hl (by decide) (by decide) w
      have D2 : Hid (Calls Tryz.prog 105 #[.string (mkS l), .int .i64 4, .int .i64 2] w fun e w' => e = .returned (.tuple #[.int .i64 0, .bool false]) ∧ w = w') := dig_n h2 hl (by decide) (by decide) w
      obtain ⟨g3, b3, hg3⟩ := dig_g l 6 2 hl (by decide) (by decide) w
      have D3 : Hid (Calls Tryz.prog 105 #[.string (mkS l), .int .i64 6, .int .i64 2] w fun e w' => e = .returned (.tuple #[.int .i64 g3, .bool b3]) ∧ w = w') := hg3
      clear hg3
      have HM : Hid (momS l = .wrong) := Lib.hid (by unfold momS; rw [h1, h2])
      clear hbad h1 h2
      go_enter Tryz.func76, Tryz.ntmps76
      go_wp2_with (first
        | (go_at_call 105; (with_reducible refine D1.out.mono ?_); rintro e w1 ⟨rfl, rfl⟩)
        | (go_at_call 105; (with_reducible refine D2.out.mono ?_); rintro e w1 ⟨rfl, rfl⟩)
        | (go_at_call 105; (with_reducible refine D3.out.mono ?_); rintro e w1 ⟨rfl, rfl⟩))
      all_goals first | (go_ret2; exact mom_wrong HM.out rfl) | (rename_i hh; exact absurd (hh.2.symm.trans qB) (by decide)) | (rename_i hh; rcases hh with hh | hh; exact absurd (hh.symm.trans qB) (by decide); exact absurd (hh.symm.trans qC) (by decide)) | (exfalso; omega)
    | some m =>
      cases h3 : sDig l 6 2 with
      | none =>
        have D1 : Hid (Calls Tryz.prog 105 #[.string (mkS l), .int .i64 0, .int .i64 4] w fun e w' => e = .returned (.tuple #[.int .i64 y, .bool true]) ∧ w = w') := dig_y h1 hl (by decide) (by decide) w
        have D2 : Hid (Calls Tryz.prog 105 #[.string (mkS l), .int .i64 4, .int .i64 2] w fun e w' => e = .returned (.tuple #[.int .i64 m, .bool true]) ∧ w = w') := dig_y h2 hl (by decide) (by decide) w
        have D3 : Hid (Calls Tryz.prog 105 #[.string (mkS l), .int .i64 6, .int .i64 2] w fun e w' => e = .returned (.tuple #[.int .i64 0, .bool false]) ∧ w = w') := dig_n h3 hl (by decide) (by decide) w
        have HM : Hid (momS l = .wrong) := Lib.hid (by unfold momS; rw [h1, h2, h3])
        clear hbad h1 h2 h3
        go_enter Tryz.func76, Tryz.ntmps76
        go_wp2_with (first
          | (go_at_call 105; (with_reducible refine D1.out.mono ?_); rintro e w1 ⟨rfl, rfl⟩)
          | (go_at_call 105; (with_reducible refine D2.out.mono ?_); rintro e w1 ⟨rfl, rfl⟩)
          | (go_at_call 105; (with_reducible refine D3.out.mono ?_); rintro e w1 ⟨rfl, rfl⟩))
        all_goals first | (go_ret2; exact mom_wrong HM.out rfl) | (rename_i hh; exact absurd (hh.2.symm.trans qB) (by decide)) | (rename_i hh; rcases hh with hh | hh; exact absurd (hh.symm.trans qB) (by decide); exact absurd (hh.symm.trans qC) (by decide)) | (exfalso; omega)
      | some d =>
        have hb := hbad y m d h1 h2 h3
        have HB : Hid (m < 1 ∨ 12 < m ∨ d < 1 ∨ mdays m y < d) := hb
        by_cases c1 : m < 1
        · have D1 : Hid (Calls Tryz.prog 105 #[.string (mkS l), .int .i64 0, .int .i64 4] w fun e w' => e = .returned (.tuple #[.int .i64 y, .bool true]) ∧ w = w') := dig_y h1 hl (by decide) (by decide) w
          have D2 : Hid (Calls Tryz.prog 105 #[.string (mkS l), .int .i64 4, .int .i64 2] w fun e w' => e = .returned (.tuple #[.int .i64 m, .bool true]) ∧ w = w') := dig_y h2 hl (by decide) (by decide) w
          have D3 : Hid (Calls Tryz.prog 105 #[.string (mkS l), .int .i64 6, .int .i64 2] w fun e w' => e = .returned (.tuple #[.int .i64 d, .bool true]) ∧ w = w') := dig_y h3 hl (by decide) (by decide) w
          have HM : Hid (momS l = .wrong) := Lib.hid (by unfold momS; rw [h1, h2, h3]; exact if_pos HB.out)
          clear hbad h1 h2 h3 hb HB
          go_enter Tryz.func76, Tryz.ntmps76
          go_wp2_with (first
            | (go_at_call 105; (with_reducible refine D1.out.mono ?_); rintro e w1 ⟨rfl, rfl⟩)
            | (go_at_call 105; (with_reducible refine D2.out.mono ?_); rintro e w1 ⟨rfl, rfl⟩)
            | (go_at_call 105; (with_reducible refine D3.out.mono ?_); rintro e w1 ⟨rfl, rfl⟩))
          all_goals first | (go_ret2; exact mom_wrong HM.out rfl) | (rename_i hh; exact absurd (hh.2.symm.trans qB) (by decide)) | (rename_i hh; rcases hh with hh | hh; exact absurd (hh.symm.trans qB) (by decide); exact absurd (hh.symm.trans qC) (by decide)) | (exfalso; omega)
        · by_cases c2 : 12 < m
          · have D1 : Hid (Calls Tryz.prog 105 #[.string (mkS l), .int .i64 0, .int .i64 4] w fun e w' => e = .returned (.tuple #[.int .i64 y, .bool true]) ∧ w = w') := dig_y h1 hl (by decide) (by decide) w
            have D2 : Hid (Calls Tryz.prog 105 #[.string (mkS l), .int .i64 4, .int .i64 2] w fun e w' => e = .returned (.tuple #[.int .i64 m, .bool true]) ∧ w = w') := dig_y h2 hl (by decide) (by decide) w
            have D3 : Hid (Calls Tryz.prog 105 #[.string (mkS l), .int .i64 6, .int .i64 2] w fun e w' => e = .returned (.tuple #[.int .i64 d, .bool true]) ∧ w = w') := dig_y h3 hl (by decide) (by decide) w
            have HM : Hid (momS l = .wrong) := Lib.hid (by unfold momS; rw [h1, h2, h3]; exact if_pos HB.out)
            clear hbad h1 h2 h3 hb HB
            go_enter Tryz.func76, Tryz.ntmps76
            go_wp2_with (first
              | (go_at_call 105; (with_reducible refine D1.out.mono ?_); rintro e w1 ⟨rfl, rfl⟩)
              | (go_at_call 105; (with_reducible refine D2.out.mono ?_); rintro e w1 ⟨rfl, rfl⟩)
              | (go_at_call 105; (with_reducible refine D3.out.mono ?_); rintro e w1 ⟨rfl, rfl⟩))
            all_goals first | (go_ret2; exact mom_wrong HM.out rfl) | (rename_i hh; exact absurd (hh.2.symm.trans qB) (by decide)) | (rename_i hh; rcases hh with hh | hh; exact absurd (hh.symm.trans qB) (by decide); exact absurd (hh.symm.trans qC) (by decide)) | (exfalso; omega)
          · by_cases c3 : d < 1
            · have D1 : Hid (Calls Tryz.prog 105 #[.string (mkS l), .int .i64 0, .int .i64 4] w fun e w' => e = .returned (.tuple #[.int .i64 y, .bool true]) ∧ w = w') := dig_y h1 hl (by decide) (by decide) w
              have D2 : Hid (Calls Tryz.prog 105 #[.string (mkS l), .int .i64 4, .int .i64 2] w fun e w' => e = .returned (.tuple #[.int .i64 m, .bool true]) ∧ w = w') := dig_y h2 hl (by decide) (by decide) w
              have D3 : Hid (Calls Tryz.prog 105 #[.string (mkS l), .int .i64 6, .int .i64 2] w fun e w' => e = .returned (.tuple #[.int .i64 d, .bool true]) ∧ w = w') := dig_y h3 hl (by decide) (by decide) w
              have HM : Hid (momS l = .wrong) := Lib.hid (by unfold momS; rw [h1, h2, h3]; exact if_pos HB.out)
              clear hbad h1 h2 h3 hb HB
              go_enter Tryz.func76, Tryz.ntmps76
              go_wp2_with (first
                | (go_at_call 105; (with_reducible refine D1.out.mono ?_); rintro e w1 ⟨rfl, rfl⟩)
                | (go_at_call 105; (with_reducible refine D2.out.mono ?_); rintro e w1 ⟨rfl, rfl⟩)
                | (go_at_call 105; (with_reducible refine D3.out.mono ?_); rintro e w1 ⟨rfl, rfl⟩))
              all_goals first | (go_ret2; exact mom_wrong HM.out rfl) | (rename_i hh; exact absurd (hh.2.symm.trans qB) (by decide)) | (rename_i hh; rcases hh with hh | hh; exact absurd (hh.symm.trans qB) (by decide); exact absurd (hh.symm.trans qC) (by decide)) | (exfalso; omega)
            · have c4 : mdays m y < d := by omega
              have D1 : Hid (Calls Tryz.prog 105 #[.string (mkS l), .int .i64 0, .int .i64 4] w fun e w' => e = .returned (.tuple #[.int .i64 y, .bool true]) ∧ w = w') := dig_y h1 hl (by decide) (by decide) w
              have D2 : Hid (Calls Tryz.prog 105 #[.string (mkS l), .int .i64 4, .int .i64 2] w fun e w' => e = .returned (.tuple #[.int .i64 m, .bool true]) ∧ w = w') := dig_y h2 hl (by decide) (by decide) w
              have D3 : Hid (Calls Tryz.prog 105 #[.string (mkS l), .int .i64 6, .int .i64 2] w fun e w' => e = .returned (.tuple #[.int .i64 d, .bool true]) ∧ w = w') := dig_y h3 hl (by decide) (by decide) w
              have HM : Hid (momS l = .wrong) := Lib.hid (by unfold momS; rw [h1, h2, h3]; exact if_pos HB.out)
              clear hbad h1 h2 h3 hb HB
              go_enter Tryz.func76, Tryz.ntmps76
              go_wp2_with (first
                | (go_at_call 105; (with_reducible refine D1.out.mono ?_); rintro e w1 ⟨rfl, rfl⟩)
                | (go_at_call 105; (with_reducible refine D2.out.mono ?_); rintro e w1 ⟨rfl, rfl⟩)
                | (go_at_call 105; (with_reducible refine D3.out.mono ?_); rintro e w1 ⟨rfl, rfl⟩)
                | (go_at_call 85; go_must (refine (monthDaysS_any m y _).mono ?_; rintro e w1 ⟨rfl, rfl⟩)))
              all_goals first | (go_ret2; exact mom_wrong HM.out rfl) | (rename_i hh; exact absurd (hh.2.symm.trans qB) (by decide)) | (rename_i hh; rcases hh with hh | hh; exact absurd (hh.symm.trans qB) (by decide); exact absurd (hh.symm.trans qC) (by decide)) | (exfalso; omega)
structure DateOk (l : List UInt8) (y m d : Int) : Prop where
  h1 : sDig l 0 4 = some y
  h2 : sDig l 4 2 = some m
  h3 : sDig l 6 2 = some d
  c1 : ¬ m < 1
  c2 : ¬ 12 < m
  c3 : ¬ d < 1
  c4 : ¬ mdays m y < d
def timeS (l : List UInt8) (D : Int) : Out Int := match sDig l 9 2, sDig l 11 2, sDig l 13 2 with
  | some h, some n, some x =>
    if l[8]? ≠ some 84 ∨ 23 < h ∨ 59 < n ∨ 59 < x then .wrong
    else if l.length = 15 ∨ (l.length = 16 ∧ l[15]? = some 90) then .right (D * 86400 + (h * 3600 + n * 60 + x))
    else if l[15]? = some 46 ∨ l[15]? = some 44 then .opn else .wrong
  | _, _, _ => .wrong
theorem momS_ok {l : List UInt8} {y m d : Int} (h : DateOk l y m d) : momS l = if l.length = 8 then .right (dayNum y m d * 86400) else timeS l (dayNum y m d) := by
  unfold momS timeS
  rw [h.h1, h.h2, h.h3]
  have := h.c1; have := h.c2; have := h.c3; have := h.c4
  exact if_neg (by omega)
theorem days_at {l : List UInt8} {y m d : Int} (h : DateOk l y m d) (w : World) : Calls Tryz.prog 106 #[.int .i64 y, .int .i64 m, .int .i64 d] w fun e w' => e = .returned (.int .i64 (dayNum y m d)) ∧ w = w' := by
  have b1 := sDig_bd h.h1
  have b2 := sDig_bd h.h2
  have b3 := mdays_bd m y
  have := h.c1; have := h.c2; have := h.c3; have := h.c4
  obtain ⟨k, rfl⟩ : ∃ k : Nat, m = (k : Int) := ⟨m.toNat, by omega⟩
  exact textDays_any y d k w (by omega) (by omega) (by omega)
theorem dayNum_in {l : List UInt8} {y m d : Int} (h : DateOk l y m d) : -400 ≤ dayNum y m d ∧ dayNum y m d ≤ 4000000 := by
  have b1 := sDig_bd h.h1
  have b3 := mdays_bd m y
  have := h.c1; have := h.c2; have := h.c3; have := h.c4
  have c := mcum_bd y (m - 1).toNat
  have a1 := daysTo_mono (a := 0) (b := y) (by omega)
  have a2 := daysTo_mono (a := y) (b := 10000) (by omega)
  have e1 : daysTo 0 = -366 := by decide
  have e2 : daysTo 10000 = 3652059 := by decide
  unfold dayNum
  have : ((m - 1).toNat : Int) ≤ 11 := by omega
  omega
set_option maxRecDepth 100000 in
set_option maxHeartbeats 6400000 in
theorem moment_date (l : List UInt8) (y m d : Int) (w : World) (hl : l.length ≤ 1000000000) (hD : DateOk l y m d) (h8 : l.length = 8) :
    Calls Tryz.prog 76 #[.string (mkS l)] w (MomPost w (momS l)) := by
  have HT := Lib.hid (days_at hD w)
  have hin := dayNum_in hD
  obtain ⟨h1, h2, h3, c1, c2, c3, c4⟩ := hD
  have zl := size_mkS l
  rw [h8] at zl
  have D1 : Hid (Calls Tryz.prog 105 #[.string (mkS l), .int .i64 0, .int .i64 4] w fun e w' => e = .returned (.tuple #[.int .i64 y, .bool true]) ∧ w = w') := dig_y h1 hl (by decide) (by decide) w
  have D2 : Hid (Calls Tryz.prog 105 #[.string (mkS l), .int .i64 4, .int .i64 2] w fun e w' => e = .returned (.tuple #[.int .i64 m, .bool true]) ∧ w = w') := dig_y h2 hl (by decide) (by decide) w
  have D3 : Hid (Calls Tryz.prog 105 #[.string (mkS l), .int .i64 6, .int .i64 2] w fun e w' => e = .returned (.tuple #[.int .i64 d, .bool true]) ∧ w = w') := dig_y h3 hl (by decide) (by decide) w
  have hMO := momS_ok ⟨h1, h2, h3, c1, c2, c3, c4⟩
  have HM : Hid (momS l = .right (dayNum y m d * 86400)) := Lib.hid (by rw [hMO, if_pos h8])
  clear hMO h1 h2 h3 h8
  go_enter Tryz.func76, Tryz.ntmps76
  go_wp2_with (first
    | (go_at_call 105; (with_reducible refine D1.out.mono ?_); rintro e w1 ⟨rfl, rfl⟩)
    | (go_at_call 105; (with_reducible refine D2.out.mono ?_); rintro e w1 ⟨rfl, rfl⟩)
    | (go_at_call 105; (with_reducible refine D3.out.mono ?_); rintro e w1 ⟨rfl, rfl⟩)
    | (go_at_call 85; go_must (refine (monthDaysS_any m y _).mono ?_; rintro e w1 ⟨rfl, rfl⟩))
    | (go_at_call 106; go_must (refine HT.out.mono ?_; rintro e w1 ⟨rfl, rfl⟩)))
  all_goals first | (go_ret2; exact mom_right HM.out rfl) | (rename_i hh; exact absurd (hh.2.symm.trans qB) (by decide)) | (rename_i hh; rcases hh with hh | hh; exact absurd (hh.symm.trans qB) (by decide); exact absurd (hh.symm.trans qC) (by decide)) | (exfalso; omega)
set_option maxRecDepth 100000 in
set_option maxHeartbeats 6400000 in
theorem time_T (l : List UInt8) (y m d : Int) (w : World) (hl : l.length ≤ 1000000000) (hD : DateOk l y m d) (h8 : l.length ≠ 8) (hT : l[8]? ≠ some 84) :
    Calls Tryz.prog 76 #[.string (mkS l)] w (MomPost w (momS l)) := by
  have HT := Lib.hid (days_at hD w)
  have hin := dayNum_in hD
  have hMO := momS_ok hD
  rw [if_neg h8] at hMO
  obtain ⟨h1, h2, h3, c1, c2, c3, c4⟩ := hD
  have zl := size_mkS l
  have hge8 : 8 < l.length := by have := sDig_bd h3; omega
  have h8b : ((l.length : Int) == 8) = false := beq_eq_false_iff_ne.2 (by omega)
  have hx := idx_bt l 8 hge8 (by rw [zl]; exact hge8)
  have g8 : l[8]? = some l[8] := List.getElem?_eq_getElem hge8
  have D1 : Hid (Calls Tryz.prog 105 #[.string (mkS l), .int .i64 0, .int .i64 4] w fun e w' => e = .returned (.tuple #[.int .i64 y, .bool true]) ∧ w = w') := dig_y h1 hl (by decide) (by decide) w
  have D2 : Hid (Calls Tryz.prog 105 #[.string (mkS l), .int .i64 4, .int .i64 2] w fun e w' => e = .returned (.tuple #[.int .i64 m, .bool true]) ∧ w = w') := dig_y h2 hl (by decide) (by decide) w
  have D3 : Hid (Calls Tryz.prog 105 #[.string (mkS l), .int .i64 6, .int .i64 2] w fun e w' => e = .returned (.tuple #[.int .i64 d, .bool true]) ∧ w = w') := dig_y h3 hl (by decide) (by decide) w
  obtain ⟨g4, b4, hg4⟩ := dig_g l 9 2 hl (by decide) (by decide) w
  have D4 : Hid (Calls Tryz.prog 105 #[.string (mkS l), .int .i64 9, .int .i64 2] w fun e w' => e = .returned (.tuple #[.int .i64 g4, .bool b4]) ∧ w = w') := hg4
  clear hg4
  obtain ⟨g5, b5, hg5⟩ := dig_g l 11 2 hl (by decide) (by decide) w
  have D5 : Hid (Calls Tryz.prog 105 #[.string (mkS l), .int .i64 11, .int .i64 2] w fun e w' => e = .returned (.tuple #[.int .i64 g5, .bool b5]) ∧ w = w') := hg5
  clear hg5
  obtain ⟨g6, b6, hg6⟩ := dig_g l 13 2 hl (by decide) (by decide) w
  have D6 : Hid (Calls Tryz.prog 105 #[.string (mkS l), .int .i64 13, .int .i64 2] w fun e w' => e = .returned (.tuple #[.int .i64 g6, .bool b6]) ∧ w = w') := hg6
  clear hg6
  have hq : ¬ ((l[8].toNat : Int) = 84) := by rw [g8] at hT; simp only [ne_eq, Option.some.injEq] at hT; have : l[8].toNat ≠ 84 := fun e => hT (UInt8.toNat_inj.1 (by simpa using e)); omega
  have HM : Hid (momS l = .wrong) := Lib.hid (by rw [hMO]; unfold timeS; split <;> first | exact if_pos (.inl hT) | rfl)
  clear hT h1 h2 h3 h8 hMO g8
  go_enter Tryz.func76, Tryz.ntmps76
  go_wp2_with (first
    | (go_at_call 105; (with_reducible refine D1.out.mono ?_); rintro e w1 ⟨rfl, rfl⟩)
    | (go_at_call 105; (with_reducible refine D2.out.mono ?_); rintro e w1 ⟨rfl, rfl⟩)
    | (go_at_call 105; (with_reducible refine D3.out.mono ?_); rintro e w1 ⟨rfl, rfl⟩)
    | (go_at_call 105; (with_reducible refine D4.out.mono ?_); rintro e w1 ⟨rfl, rfl⟩)
    | (go_at_call 105; (with_reducible refine D5.out.mono ?_); rintro e w1 ⟨rfl, rfl⟩)
    | (go_at_call 105; (with_reducible refine D6.out.mono ?_); rintro e w1 ⟨rfl, rfl⟩)
    | (go_at_call 85; go_must (refine (monthDaysS_any m y _).mono ?_; rintro e w1 ⟨rfl, rfl⟩))
    | (go_at_call 106; go_must (refine HT.out.mono ?_; rintro e w1 ⟨rfl, rfl⟩)))
  all_goals first | (go_ret2; exact mom_wrong HM.out rfl) | (rename_i hh; exact absurd (hh.2.symm.trans qB) (by decide)) | (rename_i hh; rcases hh with hh | hh; exact absurd (hh.symm.trans qB) (by decide); exact absurd (hh.symm.trans qC) (by decide)) | (exfalso; omega)
set_option maxRecDepth 100000 in
set_option maxHeartbeats 6400000 in
theorem time_h (l : List UInt8) (y m d : Int) (w : World) (hl : l.length ≤ 1000000000) (hD : DateOk l y m d) (h8 : l.length ≠ 8) (hT : l[8]? = some 84) (h4 : sDig l 9 2 = none) :
    Calls Tryz.prog 76 #[.string (mkS l)] w (MomPost w (momS l)) := by
  have HT := Lib.hid (days_at hD w)
  have hin := dayNum_in hD
  have hMO := momS_ok hD
  rw [if_neg h8] at hMO
  obtain ⟨h1, h2, h3, c1, c2, c3, c4⟩ := hD
  have zl := size_mkS l
  have hge8 : 8 < l.length := by have := sDig_bd h3; omega
  have h8b : ((l.length : Int) == 8) = false := beq_eq_false_iff_ne.2 (by omega)
  have hx := idx_bt l 8 hge8 (by rw [zl]; exact hge8)
  have g8 : l[8]? = some l[8] := List.getElem?_eq_getElem hge8
  have D1 : Hid (Calls Tryz.prog 105 #[.string (mkS l), .int .i64 0, .int .i64 4] w fun e w' => e = .returned (.tuple #[.int .i64 y, .bool true]) ∧ w = w') := dig_y h1 hl (by decide) (by decide) w
  have D2 : Hid (Calls Tryz.prog 105 #[.string (mkS l), .int .i64 4, .int .i64 2] w fun e w' => e = .returned (.tuple #[.int .i64 m, .bool true]) ∧ w = w') := dig_y h2 hl (by decide) (by decide) w
  have D3 : Hid (Calls Tryz.prog 105 #[.string (mkS l), .int .i64 6, .int .i64 2] w fun e w' => e = .returned (.tuple #[.int .i64 d, .bool true]) ∧ w = w') := dig_y h3 hl (by decide) (by decide) w
  have D4 : Hid (Calls Tryz.prog 105 #[.string (mkS l), .int .i64 9, .int .i64 2] w fun e w' => e = .returned (.tuple #[.int .i64 0, .bool false]) ∧ w = w') := dig_n h4 hl (by decide) (by decide) w
  obtain ⟨g5, b5, hg5⟩ := dig_g l 11 2 hl (by decide) (by decide) w
  have D5 : Hid (Calls Tryz.prog 105 #[.string (mkS l), .int .i64 11, .int .i64 2] w fun e w' => e = .returned (.tuple #[.int .i64 g5, .bool b5]) ∧ w = w') := hg5
  clear hg5
  obtain ⟨g6, b6, hg6⟩ := dig_g l 13 2 hl (by decide) (by decide) w
  have D6 : Hid (Calls Tryz.prog 105 #[.string (mkS l), .int .i64 13, .int .i64 2] w fun e w' => e = .returned (.tuple #[.int .i64 g6, .bool b6]) ∧ w = w') := hg6
  clear hg6
  have hq : (l[8].toNat : Int) = 84 := by rw [g8] at hT; simp only [Option.some.injEq] at hT; rw [hT]; rfl
  have HM : Hid (momS l = .wrong) := Lib.hid (by rw [hMO]; unfold timeS; rw [h4])
  clear hT h4 h1 h2 h3 h8 hMO g8
  go_enter Tryz.func76, Tryz.ntmps76
  go_wp2_with (first
    | (go_at_call 105; (with_reducible refine D1.out.mono ?_); rintro e w1 ⟨rfl, rfl⟩)
    | (go_at_call 105; (with_reducible refine D2.out.mono ?_); rintro e w1 ⟨rfl, rfl⟩)
    | (go_at_call 105; (with_reducible refine D3.out.mono ?_); rintro e w1 ⟨rfl, rfl⟩)
    | (go_at_call 105; (with_reducible refine D4.out.mono ?_); rintro e w1 ⟨rfl, rfl⟩)
    | (go_at_call 105; (with_reducible refine D5.out.mono ?_); rintro e w1 ⟨rfl, rfl⟩)
    | (go_at_call 105; (with_reducible refine D6.out.mono ?_); rintro e w1 ⟨rfl, rfl⟩)
    | (go_at_call 85; go_must (refine (monthDaysS_any m y _).mono ?_; rintro e w1 ⟨rfl, rfl⟩))
    | (go_at_call 106; go_must (refine HT.out.mono ?_; rintro e w1 ⟨rfl, rfl⟩)))
  all_goals first | (go_ret2; exact mom_wrong HM.out rfl) | (rename_i hh; exact absurd (hh.2.symm.trans qB) (by decide)) | (rename_i hh; rcases hh with hh | hh; exact absurd (hh.symm.trans qB) (by decide); exact absurd (hh.symm.trans qC) (by decide)) | (exfalso; omega)
set_option maxRecDepth 100000 in
set_option maxHeartbeats 6400000 in
theorem time_n (l : List UInt8) (y m d : Int) (w : World) (hl : l.length ≤ 1000000000) (hD : DateOk l y m d) (h8 : l.length ≠ 8) (hT : l[8]? = some 84) (h : Int) (h4 : sDig l 9 2 = some h) (h5 : sDig l 11 2 = none) :
    Calls Tryz.prog 76 #[.string (mkS l)] w (MomPost w (momS l)) := by
  have HT := Lib.hid (days_at hD w)
  have hin := dayNum_in hD
  have hMO := momS_ok hD
  rw [if_neg h8] at hMO
  obtain ⟨h1, h2, h3, c1, c2, c3, c4⟩ := hD
  have zl := size_mkS l
  have hge8 : 8 < l.length := by have := sDig_bd h3; omega
  have h8b : ((l.length : Int) == 8) = false := beq_eq_false_iff_ne.2 (by omega)
  have hx := idx_bt l 8 hge8 (by rw [zl]; exact hge8)
  have g8 : l[8]? = some l[8] := List.getElem?_eq_getElem hge8
  have D1 : Hid (Calls Tryz.prog 105 #[.string (mkS l), .int .i64 0, .int .i64 4] w fun e w' => e = .returned (.tuple #[.int .i64 y, .bool true]) ∧ w = w') := dig_y h1 hl (by decide) (by decide) w
  have D2 : Hid (Calls Tryz.prog 105 #[.string (mkS l), .int .i64 4, .int .i64 2] w fun e w' => e = .returned (.tuple #[.int .i64 m, .bool true]) ∧ w = w') := dig_y h2 hl (by decide) (by decide) w
  have D3 : Hid (Calls Tryz.prog 105 #[.string (mkS l), .int .i64 6, .int .i64 2] w fun e w' => e = .returned (.tuple #[.int .i64 d, .bool true]) ∧ w = w') := dig_y h3 hl (by decide) (by decide) w
  have D4 : Hid (Calls Tryz.prog 105 #[.string (mkS l), .int .i64 9, .int .i64 2] w fun e w' => e = .returned (.tuple #[.int .i64 h, .bool true]) ∧ w = w') := dig_y h4 hl (by decide) (by decide) w
  have D5 : Hid (Calls Tryz.prog 105 #[.string (mkS l), .int .i64 11, .int .i64 2] w fun e w' => e = .returned (.tuple #[.int .i64 0, .bool false]) ∧ w = w') := dig_n h5 hl (by decide) (by decide) w
  obtain ⟨g6, b6, hg6⟩ := dig_g l 13 2 hl (by decide) (by decide) w
  have D6 : Hid (Calls Tryz.prog 105 #[.string (mkS l), .int .i64 13, .int .i64 2] w fun e w' => e = .returned (.tuple #[.int .i64 g6, .bool b6]) ∧ w = w') := hg6
  clear hg6
  have hq : (l[8].toNat : Int) = 84 := by rw [g8] at hT; simp only [Option.some.injEq] at hT; rw [hT]; rfl
  have HM : Hid (momS l = .wrong) := Lib.hid (by rw [hMO]; unfold timeS; rw [h4, h5])
  clear hT h4 h5 h1 h2 h3 h8 hMO g8
  go_enter Tryz.func76, Tryz.ntmps76
  go_wp2_with (first
    | (go_at_call 105; (with_reducible refine D1.out.mono ?_); rintro e w1 ⟨rfl, rfl⟩)
    | (go_at_call 105; (with_reducible refine D2.out.mono ?_); rintro e w1 ⟨rfl, rfl⟩)
    | (go_at_call 105; (with_reducible refine D3.out.mono ?_); rintro e w1 ⟨rfl, rfl⟩)
    | (go_at_call 105; (with_reducible refine D4.out.mono ?_); rintro e w1 ⟨rfl, rfl⟩)
    | (go_at_call 105; (with_reducible refine D5.out.mono ?_); rintro e w1 ⟨rfl, rfl⟩)
    | (go_at_call 105; (with_reducible refine D6.out.mono ?_); rintro e w1 ⟨rfl, rfl⟩)
    | (go_at_call 85; go_must (refine (monthDaysS_any m y _).mono ?_; rintro e w1 ⟨rfl, rfl⟩))
    | (go_at_call 106; go_must (refine HT.out.mono ?_; rintro e w1 ⟨rfl, rfl⟩)))
  all_goals first | (go_ret2; exact mom_wrong HM.out rfl) | (rename_i hh; exact absurd (hh.2.symm.trans qB) (by decide)) | (rename_i hh; rcases hh with hh | hh; exact absurd (hh.symm.trans qB) (by decide); exact absurd (hh.symm.trans qC) (by decide)) | (exfalso; omega)
set_option maxRecDepth 100000 in
set_option maxHeartbeats 6400000 in
theorem time_x (l : List UInt8) (y m d : Int) (w : World) (hl : l.length ≤ 1000000000) (hD : DateOk l y m d) (h8 : l.length ≠ 8) (hT : l[8]? = some 84) (h n : Int) (h4 : sDig l 9 2 = some h) (h5 : sDig l 11 2 = some n) (h6 : sDig l 13 2 = none) :
    Calls Tryz.prog 76 #[.string (mkS l)] w (MomPost w (momS l)) := by
  have HT := Lib.hid (days_at hD w)
  have hin := dayNum_in hD
  have hMO := momS_ok hD
  rw [if_neg h8] at hMO
  obtain ⟨h1, h2, h3, c1, c2, c3, c4⟩ := hD
  have zl := size_mkS l
  have hge8 : 8 < l.length := by have := sDig_bd h3; omega
  have h8b : ((l.length : Int) == 8) = false := beq_eq_false_iff_ne.2 (by omega)
  have hx := idx_bt l 8 hge8 (by rw [zl]; exact hge8)
  have g8 : l[8]? = some l[8] := List.getElem?_eq_getElem hge8
  have D1 : Hid (Calls Tryz.prog 105 #[.string (mkS l), .int .i64 0, .int .i64 4] w fun e w' => e = .returned (.tuple #[.int .i64 y, .bool true]) ∧ w = w') := dig_y h1 hl (by decide) (by decide) w
  have D2 : Hid (Calls Tryz.prog 105 #[.string (mkS l), .int .i64 4, .int .i64 2] w fun e w' => e = .returned (.tuple #[.int .i64 m, .bool true]) ∧ w = w') := dig_y h2 hl (by decide) (by decide) w
  have D3 : Hid (Calls Tryz.prog 105 #[.string (mkS l), .int .i64 6, .int .i64 2] w fun e w' => e = .returned (.tuple #[.int .i64 d, .bool true]) ∧ w = w') := dig_y h3 hl (by decide) (by decide) w
  have D4 : Hid (Calls Tryz.prog 105 #[.string (mkS l), .int .i64 9, .int .i64 2] w fun e w' => e = .returned (.tuple #[.int .i64 h, .bool true]) ∧ w = w') := dig_y h4 hl (by decide) (by decide) w
  have D5 : Hid (Calls Tryz.prog 105 #[.string (mkS l), .int .i64 11, .int .i64 2] w fun e w' => e = .returned (.tuple #[.int .i64 n, .bool true]) ∧ w = w') := dig_y h5 hl (by decide) (by decide) w
  have D6 : Hid (Calls Tryz.prog 105 #[.string (mkS l), .int .i64 13, .int .i64 2] w fun e w' => e = .returned (.tuple #[.int .i64 0, .bool false]) ∧ w = w') := dig_n h6 hl (by decide) (by decide) w
  have hq : (l[8].toNat : Int) = 84 := by rw [g8] at hT; simp only [Option.some.injEq] at hT; rw [hT]; rfl
  have HM : Hid (momS l = .wrong) := Lib.hid (by rw [hMO]; unfold timeS; rw [h4, h5, h6])
  clear hT h4 h5 h6 h1 h2 h3 h8 hMO g8
  go_enter Tryz.func76, Tryz.ntmps76
  go_wp2_with (first
    | (go_at_call 105; (with_reducible refine D1.out.mono ?_); rintro e w1 ⟨rfl, rfl⟩)
    | (go_at_call 105; (with_reducible refine D2.out.mono ?_); rintro e w1 ⟨rfl, rfl⟩)
    | (go_at_call 105; (with_reducible refine D3.out.mono ?_); rintro e w1 ⟨rfl, rfl⟩)
    | (go_at_call 105; (with_reducible refine D4.out.mono ?_); rintro e w1 ⟨rfl, rfl⟩)
    | (go_at_call 105; (with_reducible refine D5.out.mono ?_); rintro e w1 ⟨rfl, rfl⟩)
    | (go_at_call 105; (with_reducible refine D6.out.mono ?_); rintro e w1 ⟨rfl, rfl⟩)
    | (go_at_call 85; go_must (refine (monthDaysS_any m y _).mono ?_; rintro e w1 ⟨rfl, rfl⟩))
    | (go_at_call 106; go_must (refine HT.out.mono ?_; rintro e w1 ⟨rfl, rfl⟩)))
  all_goals first | (go_ret2; exact mom_wrong HM.out rfl) | (rename_i hh; exact absurd (hh.2.symm.trans qB) (by decide)) | (rename_i hh; rcases hh with hh | hh; exact absurd (hh.symm.trans qB) (by decide); exact absurd (hh.symm.trans qC) (by decide)) | (exfalso; omega)
set_option maxRecDepth 100000 in
set_option maxHeartbeats 6400000 in
theorem time_r1 (l : List UInt8) (y m d : Int) (w : World) (hl : l.length ≤ 1000000000) (hD : DateOk l y m d) (h8 : l.length ≠ 8) (hT : l[8]? = some 84) (h n x : Int) (h4 : sDig l 9 2 = some h) (h5 : sDig l 11 2 = some n) (h6 : sDig l 13 2 = some x) (r1 : 23 < h) :
    Calls Tryz.prog 76 #[.string (mkS l)] w (MomPost w (momS l)) := by
  have HT := Lib.hid (days_at hD w)
  have hin := dayNum_in hD
  have hMO := momS_ok hD
  rw [if_neg h8] at hMO
  obtain ⟨h1, h2, h3, c1, c2, c3, c4⟩ := hD
  have zl := size_mkS l
  have hge8 : 8 < l.length := by have := sDig_bd h3; omega
  have h8b : ((l.length : Int) == 8) = false := beq_eq_false_iff_ne.2 (by omega)
  have hx := idx_bt l 8 hge8 (by rw [zl]; exact hge8)
  have g8 : l[8]? = some l[8] := List.getElem?_eq_getElem hge8
  have D1 : Hid (Calls Tryz.prog 105 #[.string (mkS l), .int .i64 0, .int .i64 4] w fun e w' => e = .returned (.tuple #[.int .i64 y, .bool true]) ∧ w = w') := dig_y h1 hl (by decide) (by decide) w
  have D2 : Hid (Calls Tryz.prog 105 #[.string (mkS l), .int .i64 4, .int .i64 2] w fun e w' => e = .returned (.tuple #[.int .i64 m, .bool true]) ∧ w = w') := dig_y h2 hl (by decide) (by decide) w
  have D3 : Hid (Calls Tryz.prog 105 #[.string (mkS l), .int .i64 6, .int .i64 2] w fun e w' => e = .returned (.tuple #[.int .i64 d, .bool true]) ∧ w = w') := dig_y h3 hl (by decide) (by decide) w
  have D4 : Hid (Calls Tryz.prog 105 #[.string (mkS l), .int .i64 9, .int .i64 2] w fun e w' => e = .returned (.tuple #[.int .i64 h, .bool true]) ∧ w = w') := dig_y h4 hl (by decide) (by decide) w
  have D5 : Hid (Calls Tryz.prog 105 #[.string (mkS l), .int .i64 11, .int .i64 2] w fun e w' => e = .returned (.tuple #[.int .i64 n, .bool true]) ∧ w = w') := dig_y h5 hl (by decide) (by decide) w
  have D6 : Hid (Calls Tryz.prog 105 #[.string (mkS l), .int .i64 13, .int .i64 2] w fun e w' => e = .returned (.tuple #[.int .i64 x, .bool true]) ∧ w = w') := dig_y h6 hl (by decide) (by decide) w
  have hq : (l[8].toNat : Int) = 84 := by rw [g8] at hT; simp only [Option.some.injEq] at hT; rw [hT]; rfl
  have HM : Hid (momS l = .wrong) := Lib.hid (by rw [hMO]; unfold timeS; rw [h4, h5, h6]; exact if_pos (.inr (.inl r1)))
  clear hT h4 h5 h6 h1 h2 h3 h8 hMO g8
  go_enter Tryz.func76, Tryz.ntmps76
  go_wp2_with (first
    | (go_at_call 105; (with_reducible refine D1.out.mono ?_); rintro e w1 ⟨rfl, rfl⟩)
    | (go_at_call 105; (with_reducible refine D2.out.mono ?_); rintro e w1 ⟨rfl, rfl⟩)
    | (go_at_call 105; (with_reducible refine D3.out.mono ?_); rintro e w1 ⟨rfl, rfl⟩)
    | (go_at_call 105; (with_reducible refine D4.out.mono ?_); rintro e w1 ⟨rfl, rfl⟩)
    | (go_at_call 105; (with_reducible refine D5.out.mono ?_); rintro e w1 ⟨rfl, rfl⟩)
    | (go_at_call 105; (with_reducible refine D6.out.mono ?_); rintro e w1 ⟨rfl, rfl⟩)
    | (go_at_call 85; go_must (refine (monthDaysS_any m y _).mono ?_; rintro e w1 ⟨rfl, rfl⟩))
    | (go_at_call 106; go_must (refine HT.out.mono ?_; rintro e w1 ⟨rfl, rfl⟩)))
  all_goals first | (go_ret2; exact mom_wrong HM.out rfl) | (rename_i hh; exact absurd (hh.2.symm.trans qB) (by decide)) | (rename_i hh; rcases hh with hh | hh; exact absurd (hh.symm.trans qB) (by decide); exact absurd (hh.symm.trans qC) (by decide)) | (exfalso; omega)
set_option maxRecDepth 100000 in
set_option maxHeartbeats 6400000 in
theorem time_r2 (l : List UInt8) (y m d : Int) (w : World) (hl : l.length ≤ 1000000000) (hD : DateOk l y m d) (h8 : l.length ≠ 8) (hT : l[8]? = some 84) (h n x : Int) (h4 : sDig l 9 2 = some h) (h5 : sDig l 11 2 = some n) (h6 : sDig l 13 2 = some x) (r1 : ¬ 23 < h) (r2 : 59 < n) :
    Calls Tryz.prog 76 #[.string (mkS l)] w (MomPost w (momS l)) := by
  have HT := Lib.hid (days_at hD w)
  have hin := dayNum_in hD
  have hMO := momS_ok hD
  rw [if_neg h8] at hMO
  obtain ⟨h1, h2, h3, c1, c2, c3, c4⟩ := hD
  have zl := size_mkS l
  have hge8 : 8 < l.length := by have := sDig_bd h3; omega
  have h8b : ((l.length : Int) == 8) = false := beq_eq_false_iff_ne.2 (by omega)
  have hx := idx_bt l 8 hge8 (by rw [zl]; exact hge8)
  have g8 : l[8]? = some l[8] := List.getElem?_eq_getElem hge8
  have D1 : Hid (Calls Tryz.prog 105 #[.string (mkS l), .int .i64 0, .int .i64 4] w fun e w' => e = .returned (.tuple #[.int .i64 y, .bool true]) ∧ w = w') := dig_y h1 hl (by decide) (by decide) w
  have D2 : Hid (Calls Tryz.prog 105 #[.string (mkS l), .int .i64 4, .int .i64 2] w fun e w' => e = .returned (.tuple #[.int .i64 m, .bool true]) ∧ w = w') := dig_y h2 hl (by decide) (by decide) w
  have D3 : Hid (Calls Tryz.prog 105 #[.string (mkS l), .int .i64 6, .int .i64 2] w fun e w' => e = .returned (.tuple #[.int .i64 d, .bool true]) ∧ w = w') := dig_y h3 hl (by decide) (by decide) w
  have D4 : Hid (Calls Tryz.prog 105 #[.string (mkS l), .int .i64 9, .int .i64 2] w fun e w' => e = .returned (.tuple #[.int .i64 h, .bool true]) ∧ w = w') := dig_y h4 hl (by decide) (by decide) w
  have D5 : Hid (Calls Tryz.prog 105 #[.string (mkS l), .int .i64 11, .int .i64 2] w fun e w' => e = .returned (.tuple #[.int .i64 n, .bool true]) ∧ w = w') := dig_y h5 hl (by decide) (by decide) w
  have D6 : Hid (Calls Tryz.prog 105 #[.string (mkS l), .int .i64 13, .int .i64 2] w fun e w' => e = .returned (.tuple #[.int .i64 x, .bool true]) ∧ w = w') := dig_y h6 hl (by decide) (by decide) w
  have hq : (l[8].toNat : Int) = 84 := by rw [g8] at hT; simp only [Option.some.injEq] at hT; rw [hT]; rfl
  have HM : Hid (momS l = .wrong) := Lib.hid (by rw [hMO]; unfold timeS; rw [h4, h5, h6]; exact if_pos (.inr (.inr (.inl r2))))
  clear hT h4 h5 h6 h1 h2 h3 h8 hMO g8
  go_enter Tryz.func76, Tryz.ntmps76
  go_wp2_with (first
    | (go_at_call 105; (with_reducible refine D1.out.mono ?_); rintro e w1 ⟨rfl, rfl⟩)
    | (go_at_call 105; (with_reducible refine D2.out.mono ?_); rintro e w1 ⟨rfl, rfl⟩)
    | (go_at_call 105; (with_reducible refine D3.out.mono ?_); rintro e w1 ⟨rfl, rfl⟩)
    | (go_at_call 105; (with_reducible refine D4.out.mono ?_); rintro e w1 ⟨rfl, rfl⟩)
    | (go_at_call 105; (with_reducible refine D5.out.mono ?_); rintro e w1 ⟨rfl, rfl⟩)
    | (go_at_call 105; (with_reducible refine D6.out.mono ?_); rintro e w1 ⟨rfl, rfl⟩)
    | (go_at_call 85; go_must (refine (monthDaysS_any m y _).mono ?_; rintro e w1 ⟨rfl, rfl⟩))
    | (go_at_call 106; go_must (refine HT.out.mono ?_; rintro e w1 ⟨rfl, rfl⟩)))
  all_goals first | (go_ret2; exact mom_wrong HM.out rfl) | (rename_i hh; exact absurd (hh.2.symm.trans qB) (by decide)) | (rename_i hh; rcases hh with hh | hh; exact absurd (hh.symm.trans qB) (by decide); exact absurd (hh.symm.trans qC) (by decide)) | (exfalso; omega)
set_option maxRecDepth 100000 in
set_option maxHeartbeats 6400000 in
theorem time_r3 (l : List UInt8) (y m d : Int) (w : World) (hl : l.length ≤ 1000000000) (hD : DateOk l y m d) (h8 : l.length ≠ 8) (hT : l[8]? = some 84) (h n x : Int) (h4 : sDig l 9 2 = some h) (h5 : sDig l 11 2 = some n) (h6 : sDig l 13 2 = some x) (r1 : ¬ 23 < h) (r2 : ¬ 59 < n) (r3 : 59 < x) :
    Calls Tryz.prog 76 #[.string (mkS l)] w (MomPost w (momS l)) := by
  have HT := Lib.hid (days_at hD w)
  have hin := dayNum_in hD
  have hMO := momS_ok hD
  rw [if_neg h8] at hMO
  obtain ⟨h1, h2, h3, c1, c2, c3, c4⟩ := hD
  have zl := size_mkS l
  have hge8 : 8 < l.length := by have := sDig_bd h3; omega
  have h8b : ((l.length : Int) == 8) = false := beq_eq_false_iff_ne.2 (by omega)
  have hx := idx_bt l 8 hge8 (by rw [zl]; exact hge8)
  have g8 : l[8]? = some l[8] := List.getElem?_eq_getElem hge8
  have D1 : Hid (Calls Tryz.prog 105 #[.string (mkS l), .int .i64 0, .int .i64 4] w fun e w' => e = .returned (.tuple #[.int .i64 y, .bool true]) ∧ w = w') := dig_y h1 hl (by decide) (by decide) w
  have D2 : Hid (Calls Tryz.prog 105 #[.string (mkS l), .int .i64 4, .int .i64 2] w fun e w' => e = .returned (.tuple #[.int .i64 m, .bool true]) ∧ w = w') := dig_y h2 hl (by decide) (by decide) w
  have D3 : Hid (Calls Tryz.prog 105 #[.string (mkS l), .int .i64 6, .int .i64 2] w fun e w' => e = .returned (.tuple #[.int .i64 d, .bool true]) ∧ w = w') := dig_y h3 hl (by decide) (by decide) w
  have D4 : Hid (Calls Tryz.prog 105 #[.string (mkS l), .int .i64 9, .int .i64 2] w fun e w' => e = .returned (.tuple #[.int .i64 h, .bool true]) ∧ w = w') := dig_y h4 hl (by decide) (by decide) w
  have D5 : Hid (Calls Tryz.prog 105 #[.string (mkS l), .int .i64 11, .int .i64 2] w fun e w' => e = .returned (.tuple #[.int .i64 n, .bool true]) ∧ w = w') := dig_y h5 hl (by decide) (by decide) w
  have D6 : Hid (Calls Tryz.prog 105 #[.string (mkS l), .int .i64 13, .int .i64 2] w fun e w' => e = .returned (.tuple #[.int .i64 x, .bool true]) ∧ w = w') := dig_y h6 hl (by decide) (by decide) w
  have hq : (l[8].toNat : Int) = 84 := by rw [g8] at hT; simp only [Option.some.injEq] at hT; rw [hT]; rfl
  have HM : Hid (momS l = .wrong) := Lib.hid (by rw [hMO]; unfold timeS; rw [h4, h5, h6]; exact if_pos (.inr (.inr (.inr r3))))
  clear hT h4 h5 h6 h1 h2 h3 h8 hMO g8
  go_enter Tryz.func76, Tryz.ntmps76
  go_wp2_with (first
    | (go_at_call 105; (with_reducible refine D1.out.mono ?_); rintro e w1 ⟨rfl, rfl⟩)
    | (go_at_call 105; (with_reducible refine D2.out.mono ?_); rintro e w1 ⟨rfl, rfl⟩)
    | (go_at_call 105; (with_reducible refine D3.out.mono ?_); rintro e w1 ⟨rfl, rfl⟩)
    | (go_at_call 105; (with_reducible refine D4.out.mono ?_); rintro e w1 ⟨rfl, rfl⟩)
    | (go_at_call 105; (with_reducible refine D5.out.mono ?_); rintro e w1 ⟨rfl, rfl⟩)
    | (go_at_call 105; (with_reducible refine D6.out.mono ?_); rintro e w1 ⟨rfl, rfl⟩)
    | (go_at_call 85; go_must (refine (monthDaysS_any m y _).mono ?_; rintro e w1 ⟨rfl, rfl⟩))
    | (go_at_call 106; go_must (refine HT.out.mono ?_; rintro e w1 ⟨rfl, rfl⟩)))
  all_goals first | (go_ret2; exact mom_wrong HM.out rfl) | (rename_i hh; exact absurd (hh.2.symm.trans qB) (by decide)) | (rename_i hh; rcases hh with hh | hh; exact absurd (hh.symm.trans qB) (by decide); exact absurd (hh.symm.trans qC) (by decide)) | (exfalso; omega)
set_option maxRecDepth 100000 in
set_option maxHeartbeats 6400000 in
theorem time_15 (l : List UInt8) (y m d : Int) (w : World) (hl : l.length ≤ 1000000000) (hD : DateOk l y m d) (h8 : l.length ≠ 8) (hT : l[8]? = some 84) (h n x : Int) (h4 : sDig l 9 2 = some h) (h5 : sDig l 11 2 = some n) (h6 : sDig l 13 2 = some x) (r1 : ¬ 23 < h) (r2 : ¬ 59 < n) (r3 : ¬ 59 < x) (h15 : l.length = 15) :
    Calls Tryz.prog 76 #[.string (mkS l)] w (MomPost w (momS l)) := by
  have HT := Lib.hid (days_at hD w)
  have hin := dayNum_in hD
  have hMO := momS_ok hD
  rw [if_neg h8] at hMO
  obtain ⟨h1, h2, h3, c1, c2, c3, c4⟩ := hD
  have zl := size_mkS l
  have hge8 : 8 < l.length := by have := sDig_bd h3; omega
  have h8b : ((l.length : Int) == 8) = false := beq_eq_false_iff_ne.2 (by omega)
  have hx := idx_bt l 8 hge8 (by rw [zl]; exact hge8)
  have g8 : l[8]? = some l[8] := List.getElem?_eq_getElem hge8
  have D1 : Hid (Calls Tryz.prog 105 #[.string (mkS l), .int .i64 0, .int .i64 4] w fun e w' => e = .returned (.tuple #[.int .i64 y, .bool true]) ∧ w = w') := dig_y h1 hl (by decide) (by decide) w
  have D2 : Hid (Calls Tryz.prog 105 #[.string (mkS l), .int .i64 4, .int .i64 2] w fun e w' => e = .returned (.tuple #[.int .i64 m, .bool true]) ∧ w = w') := dig_y h2 hl (by decide) (by decide) w
  have D3 : Hid (Calls Tryz.prog 105 #[.string (mkS l), .int .i64 6, .int .i64 2] w fun e w' => e = .returned (.tuple #[.int .i64 d, .bool true]) ∧ w = w') := dig_y h3 hl (by decide) (by decide) w
  have D4 : Hid (Calls Tryz.prog 105 #[.string (mkS l), .int .i64 9, .int .i64 2] w fun e w' => e = .returned (.tuple #[.int .i64 h, .bool true]) ∧ w = w') := dig_y h4 hl (by decide) (by decide) w
  have D5 : Hid (Calls Tryz.prog 105 #[.string (mkS l), .int .i64 11, .int .i64 2] w fun e w' => e = .returned (.tuple #[.int .i64 n, .bool true]) ∧ w = w') := dig_y h5 hl (by decide) (by decide) w
  have D6 : Hid (Calls Tryz.prog 105 #[.string (mkS l), .int .i64 13, .int .i64 2] w fun e w' => e = .returned (.tuple #[.int .i64 x, .bool true]) ∧ w = w') := dig_y h6 hl (by decide) (by decide) w
  have hq : (l[8].toNat : Int) = 84 := by rw [g8] at hT; simp only [Option.some.injEq] at hT; rw [hT]; rfl
  have k4 := sDig_bd h4
  have k5 := sDig_bd h5
  have k6 := sDig_bd h6
  have hneg : ¬ (l[8]? ≠ some 84 ∨ 23 < h ∨ 59 < n ∨ 59 < x) := by rw [hT]; simp; omega
  obtain ⟨k40, k41, _⟩ := k4
  obtain ⟨k50, k51, _⟩ := k5
  obtain ⟨k60, k61, k62⟩ := k6
  have q15 : ((l.length : Int) == 15) = true := by rw [h15]; rfl
  have HM : Hid (momS l = .right (dayNum y m d * 86400 + (h * 3600 + n * 60 + x))) := Lib.hid (by rw [hMO]; unfold timeS; rw [h4, h5, h6]; exact (if_neg hneg).trans (if_pos (.inl h15)))
  clear hT h4 h5 h6 hneg h15 h1 h2 h3 h8 hMO g8
  go_enter Tryz.func76, Tryz.ntmps76
  go_wp2_with (first
    | (go_at_call 105; (with_reducible refine D1.out.mono ?_); rintro e w1 ⟨rfl, rfl⟩)
    | (go_at_call 105; (with_reducible refine D2.out.mono ?_); rintro e w1 ⟨rfl, rfl⟩)
    | (go_at_call 105; (with_reducible refine D3.out.mono ?_); rintro e w1 ⟨rfl, rfl⟩)
    | (go_at_call 105; (with_reducible refine D4.out.mono ?_); rintro e w1 ⟨rfl, rfl⟩)
    | (go_at_call 105; (with_reducible refine D5.out.mono ?_); rintro e w1 ⟨rfl, rfl⟩)
    | (go_at_call 105; (with_reducible refine D6.out.mono ?_); rintro e w1 ⟨rfl, rfl⟩)
    | (go_at_call 85; go_must (refine (monthDaysS_any m y _).mono ?_; rintro e w1 ⟨rfl, rfl⟩))
    | (go_at_call 106; go_must (refine HT.out.mono ?_; rintro e w1 ⟨rfl, rfl⟩)))
  all_goals first | (go_ret2; exact mom_right HM.out rfl) | (rename_i hh; exact absurd (hh.2.symm.trans qB) (by decide)) | (rename_i hh; rcases hh with hh | hh; exact absurd (hh.symm.trans qB) (by decide); exact absurd (hh.symm.trans qC) (by decide)) | (exfalso; omega)
set_option maxRecDepth 100000 in
set_option maxHeartbeats 6400000 in
theorem time_16 (l : List UInt8) (y m d : Int) (w : World) (hl : l.length ≤ 1000000000) (hD : DateOk l y m d) (h8 : l.length ≠ 8) (hT : l[8]? = some 84) (h n x : Int) (h4 : sDig l 9 2 = some h) (h5 : sDig l 11 2 = some n) (h6 : sDig l 13 2 = some x) (r1 : ¬ 23 < h) (r2 : ¬ 59 < n) (r3 : ¬ 59 < x) (h15 : l.length = 16) (hz : l[15]? = some 90) :
    Calls Tryz.prog 76 #[.string (mkS l)] w (MomPost w (momS l)) := by
  have HT := Lib.hid (days_at hD w)
  have hin := dayNum_in hD
  have hMO := momS_ok hD
  rw [if_neg h8] at hMO
  obtain ⟨h1, h2, h3, c1, c2, c3, c4⟩ := hD
  have zl := size_mkS l
  have hge8 : 8 < l.length := by have := sDig_bd h3; omega
  have h8b : ((l.length : Int) == 8) = false := beq_eq_false_iff_ne.2 (by omega)
  have hx := idx_bt l 8 hge8 (by rw [zl]; exact hge8)
  have g8 : l[8]? = some l[8] := List.getElem?_eq_getElem hge8
  have D1 : Hid (Calls Tryz.prog 105 #[.string (mkS l), .int .i64 0, .int .i64 4] w fun e w' => e = .returned (.tuple #[.int .i64 y, .bool true]) ∧ w = w') := dig_y h1 hl (by decide) (by decide) w
  have D2 : Hid (Calls Tryz.prog 105 #[.string (mkS l), .int .i64 4, .int .i64 2] w fun e w' => e = .returned (.tuple #[.int .i64 m, .bool true]) ∧ w = w') := dig_y h2 hl (by decide) (by decide) w
  have D3 : Hid (Calls Tryz.prog 105 #[.string (mkS l), .int .i64 6, .int .i64 2] w fun e w' => e = .returned (.tuple #[.int .i64 d, .bool true]) ∧ w = w') := dig_y h3 hl (by decide) (by decide) w
  have D4 : Hid (Calls Tryz.prog 105 #[.string (mkS l), .int .i64 9, .int .i64 2] w fun e w' => e = .returned (.tuple #[.int .i64 h, .bool true]) ∧ w = w') := dig_y h4 hl (by decide) (by decide) w
  have D5 : Hid (Calls Tryz.prog 105 #[.string (mkS l), .int .i64 11, .int .i64 2] w fun e w' => e = .returned (.tuple #[.int .i64 n, .bool true]) ∧ w = w') := dig_y h5 hl (by decide) (by decide) w
  have D6 : Hid (Calls Tryz.prog 105 #[.string (mkS l), .int .i64 13, .int .i64 2] w fun e w' => e = .returned (.tuple #[.int .i64 x, .bool true]) ∧ w = w') := dig_y h6 hl (by decide) (by decide) w
  have hq : (l[8].toNat : Int) = 84 := by rw [g8] at hT; simp only [Option.some.injEq] at hT; rw [hT]; rfl
  have k4 := sDig_bd h4
  have k5 := sDig_bd h5
  have k6 := sDig_bd h6
  have hneg : ¬ (l[8]? ≠ some 84 ∨ 23 < h ∨ 59 < n ∨ 59 < x) := by rw [hT]; simp; omega
  obtain ⟨k40, k41, _⟩ := k4
  obtain ⟨k50, k51, _⟩ := k5
  obtain ⟨k60, k61, k62⟩ := k6
  have h15l : 15 < l.length := by omega
  have q15 : ((l.length : Int) == 15) = false := beq_eq_false_iff_ne.2 (by omega)
  have hy := idx_bt l 15 h15l (by rw [zl]; exact h15l)
  have g15 : l[15]? = some l[15] := List.getElem?_eq_getElem h15l
  have q16 : ((l.length : Int) == 16) = true := by rw [h15]; rfl
  have qz : (l[15].toNat : Int) = 90 := by rw [g15] at hz; simp only [Option.some.injEq] at hz; rw [hz]; rfl
  have HM : Hid (momS l = .right (dayNum y m d * 86400 + (h * 3600 + n * 60 + x))) := Lib.hid (by rw [hMO]; unfold timeS; rw [h4, h5, h6]; exact (if_neg hneg).trans (if_pos (.inr ⟨h15, hz⟩)))
  clear hT h4 h5 h6 hneg h15 hz g15 h1 h2 h3 h8 hMO g8
  go_enter Tryz.func76, Tryz.ntmps76
  go_wp2_with (first
    | (go_at_call 105; (with_reducible refine D1.out.mono ?_); rintro e w1 ⟨rfl, rfl⟩)
    | (go_at_call 105; (with_reducible refine D2.out.mono ?_); rintro e w1 ⟨rfl, rfl⟩)
    | (go_at_call 105; (with_reducible refine D3.out.mono ?_); rintro e w1 ⟨rfl, rfl⟩)
    | (go_at_call 105; (with_reducible refine D4.out.mono ?_); rintro e w1 ⟨rfl, rfl⟩)
    | (go_at_call 105; (with_reducible refine D5.out.mono ?_); rintro e w1 ⟨rfl, rfl⟩)
    | (go_at_call 105; (with_reducible refine D6.out.mono ?_); rintro e w1 ⟨rfl, rfl⟩)
    | (go_at_call 85; go_must (refine (monthDaysS_any m y _).mono ?_; rintro e w1 ⟨rfl, rfl⟩))
    | (go_at_call 106; go_must (refine HT.out.mono ?_; rintro e w1 ⟨rfl, rfl⟩)))
  all_goals first | (go_ret2; exact mom_right HM.out rfl) | (rename_i hh; exact absurd (hh.2.symm.trans qB) (by decide)) | (rename_i hh; rcases hh with hh | hh; exact absurd (hh.symm.trans qB) (by decide); exact absurd (hh.symm.trans qC) (by decide)) | (exfalso; omega)
set_option maxRecDepth 100000 in
set_option maxHeartbeats 6400000 in
theorem time_dota (l : List UInt8) (y m d : Int) (w : World) (hl : l.length ≤ 1000000000) (hD : DateOk l y m d) (h8 : l.length ≠ 8) (hT : l[8]? = some 84) (h n x : Int) (h4 : sDig l 9 2 = some h) (h5 : sDig l 11 2 = some n) (h6 : sDig l 13 2 = some x) (r1 : ¬ 23 < h) (r2 : ¬ 59 < n) (r3 : ¬ 59 < x) (h15 : l.length ≠ 15) (h16 : l.length ≠ 16) (hd : l[15]? = some 46) :
    Calls Tryz.prog 76 #[.string (mkS l)] w (MomPost w (momS l)) := by
  have HT := Lib.hid (days_at hD w)
  have hin := dayNum_in hD
  have hMO := momS_ok hD
  rw [if_neg h8] at hMO
  obtain ⟨h1, h2, h3, c1, c2, c3, c4⟩ := hD
  have zl := size_mkS l
  have hge8 : 8 < l.length := by have := sDig_bd h3; omega
  have h8b : ((l.length : Int) == 8) = false := beq_eq_false_iff_ne.2 (by omega)
  have hx := idx_bt l 8 hge8 (by rw [zl]; exact hge8)
  have g8 : l[8]? = some l[8] := List.getElem?_eq_getElem hge8
  have D1 : Hid (Calls Tryz.prog 105 #[.string (mkS l), .int .i64 0, .int .i64 4] w fun e w' => e = .returned (.tuple #[.int .i64 y, .bool true]) ∧ w = w') := dig_y h1 hl (by decide) (by decide) w
  have D2 : Hid (Calls Tryz.prog 105 #[.string (mkS l), .int .i64 4, .int .i64 2] w fun e w' => e = .returned (.tuple #[.int .i64 m, .bool true]) ∧ w = w') := dig_y h2 hl (by decide) (by decide) w
  have D3 : Hid (Calls Tryz.prog 105 #[.string (mkS l), .int .i64 6, .int .i64 2] w fun e w' => e = .returned (.tuple #[.int .i64 d, .bool true]) ∧ w = w') := dig_y h3 hl (by decide) (by decide) w
  have D4 : Hid (Calls Tryz.prog 105 #[.string (mkS l), .int .i64 9, .int .i64 2] w fun e w' => e = .returned (.tuple #[.int .i64 h, .bool true]) ∧ w = w') := dig_y h4 hl (by decide) (by decide) w
  have D5 : Hid (Calls Tryz.prog 105 #[.string (mkS l), .int .i64 11, .int .i64 2] w fun e w' => e = .returned (.tuple #[.int .i64 n, .bool true]) ∧ w = w') := dig_y h5 hl (by decide) (by decide) w
  have D6 : Hid (Calls Tryz.prog 105 #[.string (mkS l), .int .i64 13, .int .i64 2] w fun e w' => e = .returned (.tuple #[.int .i64 x, .bool true]) ∧ w = w') := dig_y h6 hl (by decide) (by decide) w
  have hq : (l[8].toNat : Int) = 84 := by rw [g8] at hT; simp only [Option.some.injEq] at hT; rw [hT]; rfl
  have k4 := sDig_bd h4
  have k5 := sDig_bd h5
  have k6 := sDig_bd h6
  have hneg : ¬ (l[8]? ≠ some 84 ∨ 23 < h ∨ 59 < n ∨ 59 < x) := by rw [hT]; simp; omega
  obtain ⟨k40, k41, _⟩ := k4
  obtain ⟨k50, k51, _⟩ := k5
  obtain ⟨k60, k61, k62⟩ := k6
  have h15l : 15 < l.length := by omega
  have q15 : ((l.length : Int) == 15) = false := beq_eq_false_iff_ne.2 (by omega)
  have hy := idx_bt l 15 h15l (by rw [zl]; exact h15l)
  have g15 : l[15]? = some l[15] := List.getElem?_eq_getElem h15l
  have q16 : ((l.length : Int) == 16) = false := beq_eq_false_iff_ne.2 (by omega)
  have hZ2 : Hid (¬ (l.length = 15 ∨ l.length = 16 ∧ l[15]? = some 90)) := Lib.hid (by omega)
  have qd : (l[15].toNat : Int) = 46 := by rw [g15] at hd; simp only [Option.some.injEq] at hd; rw [hd]; rfl
  have qB : ((l[15].toNat : Int) == 46) = true := by rw [qd]; rfl
  have HM : Hid (momS l = .opn) := Lib.hid (by rw [hMO]; unfold timeS; rw [h4, h5, h6]; exact (if_neg hneg).trans ((if_neg hZ2.out).trans (if_pos (.inl hd))))
  clear hT h4 h5 h6 hneg h15 h16 g15 hd h1 h2 h3 h8 hMO g8
  go_enter Tryz.func76, Tryz.ntmps76
  go_wp2_with (first
    | (go_at_call 105; (with_reducible refine D1.out.mono ?_); rintro e w1 ⟨rfl, rfl⟩)
    | (go_at_call 105; (with_reducible refine D2.out.mono ?_); rintro e w1 ⟨rfl, rfl⟩)
    | (go_at_call 105; (with_reducible refine D3.out.mono ?_); rintro e w1 ⟨rfl, rfl⟩)
    | (go_at_call 105; (with_reducible refine D4.out.mono ?_); rintro e w1 ⟨rfl, rfl⟩)
    | (go_at_call 105; (with_reducible refine D5.out.mono ?_); rintro e w1 ⟨rfl, rfl⟩)
    | (go_at_call 105; (with_reducible refine D6.out.mono ?_); rintro e w1 ⟨rfl, rfl⟩)
    | (go_at_call 85; go_must (refine (monthDaysS_any m y _).mono ?_; rintro e w1 ⟨rfl, rfl⟩))
    | (go_at_call 106; go_must (refine HT.out.mono ?_; rintro e w1 ⟨rfl, rfl⟩)))
  all_goals first | (go_ret2; exact mom_opn HM.out rfl) | (rename_i hh; exact absurd (hh.2.symm.trans qB) (by decide)) | (rename_i hh; rcases hh with hh | hh; exact absurd (hh.symm.trans qB) (by decide); exact absurd (hh.symm.trans qC) (by decide)) | (exfalso; omega)
set_option maxRecDepth 100000 in
set_option maxHeartbeats 6400000 in
theorem time_dotb (l : List UInt8) (y m d : Int) (w : World) (hl : l.length ≤ 1000000000) (hD : DateOk l y m d) (h8 : l.length ≠ 8) (hT : l[8]? = some 84) (h n x : Int) (h4 : sDig l 9 2 = some h) (h5 : sDig l 11 2 = some n) (h6 : sDig l 13 2 = some x) (r1 : ¬ 23 < h) (r2 : ¬ 59 < n) (r3 : ¬ 59 < x) (h15 : l.length ≠ 15) (h16 : l.length = 16) (hz : l[15]? ≠ some 90) (hd : l[15]? = some 46) :
    Calls Tryz.prog 76 #[.string (mkS l)] w (MomPost w (momS l)) := by
  have HT := Lib.hid (days_at hD w)
  have hin := dayNum_in hD
  have hMO := momS_ok hD
  rw [if_neg h8] at hMO
  obtain ⟨h1, h2, h3, c1, c2, c3, c4⟩ := hD
  have zl := size_mkS l
  have hge8 : 8 < l.length := by have := sDig_bd h3; omega
  have h8b : ((l.length : Int) == 8) = false := beq_eq_false_iff_ne.2 (by omega)
  have hx := idx_bt l 8 hge8 (by rw [zl]; exact hge8)
  have g8 : l[8]? = some l[8] := List.getElem?_eq_getElem hge8
  have D1 : Hid (Calls Tryz.prog 105 #[.string (mkS l), .int .i64 0, .int .i64 4] w fun e w' => e = .returned (.tuple #[.int .i64 y, .bool true]) ∧ w = w') := dig_y h1 hl (by decide) (by decide) w
  have D2 : Hid (Calls Tryz.prog 105 #[.string (mkS l), .int .i64 4, .int .i64 2] w fun e w' => e = .returned (.tuple #[.int .i64 m, .bool true]) ∧ w = w') := dig_y h2 hl (by decide) (by decide) w
  have D3 : Hid (Calls Tryz.prog 105 #[.string (mkS l), .int .i64 6, .int .i64 2] w fun e w' => e = .returned (.tuple #[.int .i64 d, .bool true]) ∧ w = w') := dig_y h3 hl (by decide) (by decide) w
  have D4 : Hid (Calls Tryz.prog 105 #[.string (mkS l), .int .i64 9, .int .i64 2] w fun e w' => e = .returned (.tuple #[.int .i64 h, .bool true]) ∧ w = w') := dig_y h4 hl (by decide) (by decide) w
  have D5 : Hid (Calls Tryz.prog 105 #[.string (mkS l), .int .i64 11, .int .i64 2] w fun e w' => e = .returned (.tuple #[.int .i64 n, .bool true]) ∧ w = w') := dig_y h5 hl (by decide) (by decide) w
  have D6 : Hid (Calls Tryz.prog 105 #[.string (mkS l), .int .i64 13, .int .i64 2] w fun e w' => e = .returned (.tuple #[.int .i64 x, .bool true]) ∧ w = w') := dig_y h6 hl (by decide) (by decide) w
  have hq : (l[8].toNat : Int) = 84 := by rw [g8] at hT; simp only [Option.some.injEq] at hT; rw [hT]; rfl
  have k4 := sDig_bd h4
  have k5 := sDig_bd h5
  have k6 := sDig_bd h6
  have hneg : ¬ (l[8]? ≠ some 84 ∨ 23 < h ∨ 59 < n ∨ 59 < x) := by rw [hT]; simp; omega
  obtain ⟨k40, k41, _⟩ := k4
  obtain ⟨k50, k51, _⟩ := k5
  obtain ⟨k60, k61, k62⟩ := k6
  have h15l : 15 < l.length := by omega
  have q15 : ((l.length : Int) == 15) = false := beq_eq_false_iff_ne.2 (by omega)
  have hy := idx_bt l 15 h15l (by rw [zl]; exact h15l)
  have g15 : l[15]? = some l[15] := List.getElem?_eq_getElem h15l
  have q16 : ((l.length : Int) == 16) = true := by rw [h16]; rfl
  have qz : ¬ ((l[15].toNat : Int) = 90) := by rw [g15] at hz; simp only [ne_eq, Option.some.injEq] at hz; have : l[15].toNat ≠ 90 := fun e => hz (UInt8.toNat_inj.1 (by simpa using e)); omega
  have hZ2 : Hid (¬ (l.length = 15 ∨ l.length = 16 ∧ l[15]? = some 90)) := Lib.hid (by rintro (h | ⟨_, h⟩); exact h15 h; exact hz h)
  have qd : (l[15].toNat : Int) = 46 := by rw [g15] at hd; simp only [Option.some.injEq] at hd; rw [hd]; rfl
  have qB : ((l[15].toNat : Int) == 46) = true := by rw [qd]; rfl
  have HM : Hid (momS l = .opn) := Lib.hid (by rw [hMO]; unfold timeS; rw [h4, h5, h6]; exact (if_neg hneg).trans ((if_neg hZ2.out).trans (if_pos (.inl hd))))
  clear hT h4 h5 h6 hneg h15 h16 hz g15 hd h1 h2 h3 h8 hMO g8
  go_enter Tryz.func76, Tryz.ntmps76
  go_wp2_with (first
    | (go_at_call 105; (with_reducible refine D1.out.mono ?_); rintro e w1 ⟨rfl, rfl⟩)
    | (go_at_call 105; (with_reducible refine D2.out.mono ?_); rintro e w1 ⟨rfl, rfl⟩)
    | (go_at_call 105; (with_reducible refine D3.out.mono ?_); rintro e w1 ⟨rfl, rfl⟩)
    | (go_at_call 105; (with_reducible refine D4.out.mono ?_); rintro e w1 ⟨rfl, rfl⟩)
    | (go_at_call 105; (with_reducible refine D5.out.mono ?_); rintro e w1 ⟨rfl, rfl⟩)
    | (go_at_call 105; (with_reducible refine D6.out.mono ?_); rintro e w1 ⟨rfl, rfl⟩)
    | (go_at_call 85; go_must (refine (monthDaysS_any m y _).mono ?_; rintro e w1 ⟨rfl, rfl⟩))
    | (go_at_call 106; go_must (refine HT.out.mono ?_; rintro e w1 ⟨rfl, rfl⟩)))
  all_goals first | (go_ret2; exact mom_opn HM.out rfl) | (rename_i hh; exact absurd (hh.2.symm.trans qB) (by decide)) | (rename_i hh; rcases hh with hh | hh; exact absurd (hh.symm.trans qB) (by decide); exact absurd (hh.symm.trans qC) (by decide)) | (exfalso; omega)
set_option maxRecDepth 100000 in
set_option maxHeartbeats 6400000 in
theorem time_coma (l : List UInt8) (y m d : Int) (w : World) (hl : l.length ≤ 1000000000) (hD : DateOk l y m d) (h8 : l.length ≠ 8) (hT : l[8]? = some 84) (h n x : Int) (h4 : sDig l 9 2 = some h) (h5 : sDig l 11 2 = some n) (h6 : sDig l 13 2 = some x) (r1 : ¬ 23 < h) (r2 : ¬ 59 < n) (r3 : ¬ 59 < x) (h15 : l.length ≠ 15) (h16 : l.length ≠ 16) (hd : l[15]? = some 44) :
    Calls Tryz.prog 76 #[.string (mkS l)] w (MomPost w (momS l)) := by
  have HT := Lib.hid (days_at hD w)
  have hin := dayNum_in hD
  have hMO := momS_ok hD
  rw [if_neg h8] at hMO
  obtain ⟨h1, h2, h3, c1, c2, c3, c4⟩ := hD
  have zl := size_mkS l
  have hge8 : 8 < l.length := by have := sDig_bd h3; omega
  have h8b : ((l.length : Int) == 8) = false := beq_eq_false_iff_ne.2 (by omega)
  have hx := idx_bt l 8 hge8 (by rw [zl]; exact hge8)
  have g8 : l[8]? = some l[8] := List.getElem?_eq_getElem hge8
  have D1 : Hid (Calls Tryz.prog 105 #[.string (mkS l), .int .i64 0, .int .i64 4] w fun e w' => e = .returned (.tuple #[.int .i64 y, .bool true]) ∧ w = w') := dig_y h1 hl (by decide) (by decide) w
  have D2 : Hid (Calls Tryz.prog 105 #[.string (mkS l), .int .i64 4, .int .i64 2] w fun e w' => e = .returned (.tuple #[.int .i64 m, .bool true]) ∧ w = w') := dig_y h2 hl (by decide) (by decide) w
  have D3 : Hid (Calls Tryz.prog 105 #[.string (mkS l), .int .i64 6, .int .i64 2] w fun e w' => e = .returned (.tuple #[.int .i64 d, .bool true]) ∧ w = w') := dig_y h3 hl (by decide) (by decide) w
  have D4 : Hid (Calls Tryz.prog 105 #[.string (mkS l), .int .i64 9, .int .i64 2] w fun e w' => e = .returned (.tuple #[.int .i64 h, .bool true]) ∧ w = w') := dig_y h4 hl (by decide) (by decide) w
  have D5 : Hid (Calls Tryz.prog 105 #[.string (mkS l), .int .i64 11, .int .i64 2] w fun e w' => e = .returned (.tuple #[.int .i64 n, .bool true]) ∧ w = w') := dig_y h5 hl (by decide) (by decide) w
  have D6 : Hid (Calls Tryz.prog 105 #[.string (mkS l), .int .i64 13, .int .i64 2] w fun e w' => e = .returned (.tuple #[.int .i64 x, .bool true]) ∧ w = w') := dig_y h6 hl (by decide) (by decide) w
  have hq : (l[8].toNat : Int) = 84 := by rw [g8] at hT; simp only [Option.some.injEq] at hT; rw [hT]; rfl
  have k4 := sDig_bd h4
  have k5 := sDig_bd h5
  have k6 := sDig_bd h6
  have hneg : ¬ (l[8]? ≠ some 84 ∨ 23 < h ∨ 59 < n ∨ 59 < x) := by rw [hT]; simp; omega
  obtain ⟨k40, k41, _⟩ := k4
  obtain ⟨k50, k51, _⟩ := k5
  obtain ⟨k60, k61, k62⟩ := k6
  have h15l : 15 < l.length := by omega
  have q15 : ((l.length : Int) == 15) = false := beq_eq_false_iff_ne.2 (by omega)
  have hy := idx_bt l 15 h15l (by rw [zl]; exact h15l)
  have g15 : l[15]? = some l[15] := List.getElem?_eq_getElem h15l
  have q16 : ((l.length : Int) == 16) = false := beq_eq_false_iff_ne.2 (by omega)
  have hZ2 : Hid (¬ (l.length = 15 ∨ l.length = 16 ∧ l[15]? = some 90)) := Lib.hid (by omega)
  have qd : (l[15].toNat : Int) = 44 := by rw [g15] at hd; simp only [Option.some.injEq] at hd; rw [hd]; rfl
  have qB : ((l[15].toNat : Int) == 44) = true := by rw [qd]; rfl
  have qC : ((l[15].toNat : Int) == 46) = false := by rw [qd]; rfl
  have HM : Hid (momS l = .opn) := Lib.hid (by rw [hMO]; unfold timeS; rw [h4, h5, h6]; exact (if_neg hneg).trans ((if_neg hZ2.out).trans (if_pos (.inr hd))))
  clear hT h4 h5 h6 hneg h15 h16 g15 hd h1 h2 h3 h8 hMO g8
  go_enter Tryz.func76, Tryz.ntmps76
  go_wp2_with (first
    | (go_at_call 105; (with_reducible refine D1.out.mono ?_); rintro e w1 ⟨rfl, rfl⟩)
    | (go_at_call 105; (with_reducible refine D2.out.mono ?_); rintro e w1 ⟨rfl, rfl⟩)
    | (go_at_call 105; (with_reducible refine D3.out.mono ?_); rintro e w1 ⟨rfl, rfl⟩)
    | (go_at_call 105; (with_reducible refine D4.out.mono ?_); rintro e w1 ⟨rfl, rfl⟩)
    | (go_at_call 105; (with_reducible refine D5.out.mono ?_); rintro e w1 ⟨rfl, rfl⟩)
    | (go_at_call 105; (with_reducible refine D6.out.mono ?_); rintro e w1 ⟨rfl, rfl⟩)
    | (go_at_call 85; go_must (refine (monthDaysS_any m y _).mono ?_; rintro e w1 ⟨rfl, rfl⟩))
    | (go_at_call 106; go_must (refine HT.out.mono ?_; rintro e w1 ⟨rfl, rfl⟩)))
  all_goals first | (go_ret2; exact mom_opn HM.out rfl) | (rename_i hh; exact absurd (hh.2.symm.trans qB) (by decide)) | (rename_i hh; rcases hh with hh | hh; exact absurd (hh.symm.trans qB) (by decide); exact absurd (hh.symm.trans qC) (by decide)) | (exfalso; omega)
set_option maxRecDepth 100000 in
set_option maxHeartbeats 6400000 in
theorem time_comb (l : List UInt8) (y m d : Int) (w : World) (hl : l.length ≤ 1000000000) (hD : DateOk l y m d) (h8 : l.length ≠ 8) (hT : l[8]? = some 84) (h n x : Int) (h4 : sDig l 9 2 = some h) (h5 : sDig l 11 2 = some n) (h6 : sDig l 13 2 = some x) (r1 : ¬ 23 < h) (r2 : ¬ 59 < n) (r3 : ¬ 59 < x) (h15 : l.length ≠ 15) (h16 : l.length = 16) (hz : l[15]? ≠ some 90) (hd : l[15]? = some 44) :
    Calls Tryz.prog 76 #[.string (mkS l)] w (MomPost w (momS l)) := by
  have HT := Lib.hid (days_at hD w)
  have hin := dayNum_in hD
  have hMO := momS_ok hD
  rw [if_neg h8] at hMO
  obtain ⟨h1, h2, h3, c1, c2, c3, c4⟩ := hD
  have zl := size_mkS l
  have hge8 : 8 < l.length := by have := sDig_bd h3; omega
  have h8b : ((l.length : Int) == 8) = false := beq_eq_false_iff_ne.2 (by omega)
  have hx := idx_bt l 8 hge8 (by rw [zl]; exact hge8)
  have g8 : l[8]? = some l[8] := List.getElem?_eq_getElem hge8
  have D1 : Hid (Calls Tryz.prog 105 #[.string (mkS l), .int .i64 0, .int .i64 4] w fun e w' => e = .returned (.tuple #[.int .i64 y, .bool true]) ∧ w = w') := dig_y h1 hl (by decide) (by decide) w
  have D2 : Hid (Calls Tryz.prog 105 #[.string (mkS l), .int .i64 4, .int .i64 2] w fun e w' => e = .returned (.tuple #[.int .i64 m, .bool true]) ∧ w = w') := dig_y h2 hl (by decide) (by decide) w
  have D3 : Hid (Calls Tryz.prog 105 #[.string (mkS l), .int .i64 6, .int .i64 2] w fun e w' => e = .returned (.tuple #[.int .i64 d, .bool true]) ∧ w = w') := dig_y h3 hl (by decide) (by decide) w
  have D4 : Hid (Calls Tryz.prog 105 #[.string (mkS l), .int .i64 9, .int .i64 2] w fun e w' => e = .returned (.tuple #[.int .i64 h, .bool true]) ∧ w = w') := dig_y h4 hl (by decide) (by decide) w
  have D5 : Hid (Calls Tryz.prog 105 #[.string (mkS l), .int .i64 11, .int .i64 2] w fun e w' => e = .returned (.tuple #[.int .i64 n, .bool true]) ∧ w = w') := dig_y h5 hl (by decide) (by decide) w
  have D6 : Hid (Calls Tryz.prog 105 #[.string (mkS l), .int .i64 13, .int .i64 2] w fun e w' => e = .returned (.tuple #[.int .i64 x, .bool true]) ∧ w = w') := dig_y h6 hl (by decide) (by decide) w
  have hq : (l[8].toNat : Int) = 84 := by rw [g8] at hT; simp only [Option.some.injEq] at hT; rw [hT]; rfl
  have k4 := sDig_bd h4
  have k5 := sDig_bd h5
  have k6 := sDig_bd h6
  have hneg : ¬ (l[8]? ≠ some 84 ∨ 23 < h ∨ 59 < n ∨ 59 < x) := by rw [hT]; simp; omega
  obtain ⟨k40, k41, _⟩ := k4
  obtain ⟨k50, k51, _⟩ := k5
  obtain ⟨k60, k61, k62⟩ := k6
  have h15l : 15 < l.length := by omega
  have q15 : ((l.length : Int) == 15) = false := beq_eq_false_iff_ne.2 (by omega)
  have hy := idx_bt l 15 h15l (by rw [zl]; exact h15l)
  have g15 : l[15]? = some l[15] := List.getElem?_eq_getElem h15l
  have q16 : ((l.length : Int) == 16) = true := by rw [h16]; rfl
  have qz : ¬ ((l[15].toNat : Int) = 90) := by rw [g15] at hz; simp only [ne_eq, Option.some.injEq] at hz; have : l[15].toNat ≠ 90 := fun e => hz (UInt8.toNat_inj.1 (by simpa using e)); omega
  have hZ2 : Hid (¬ (l.length = 15 ∨ l.length = 16 ∧ l[15]? = some 90)) := Lib.hid (by rintro (h | ⟨_, h⟩); exact h15 h; exact hz h)
  have qd : (l[15].toNat : Int) = 44 := by rw [g15] at hd; simp only [Option.some.injEq] at hd; rw [hd]; rfl
  have qB : ((l[15].toNat : Int) == 44) = true := by rw [qd]; rfl
  have qC : ((l[15].toNat : Int) == 46) = false := by rw [qd]; rfl
  have HM : Hid (momS l = .opn) := Lib.hid (by rw [hMO]; unfold timeS; rw [h4, h5, h6]; exact (if_neg hneg).trans ((if_neg hZ2.out).trans (if_pos (.inr hd))))
  clear hT h4 h5 h6 hneg h15 h16 hz g15 hd h1 h2 h3 h8 hMO g8
  go_enter Tryz.func76, Tryz.ntmps76
  go_wp2_with (first
    | (go_at_call 105; (with_reducible refine D1.out.mono ?_); rintro e w1 ⟨rfl, rfl⟩)
    | (go_at_call 105; (with_reducible refine D2.out.mono ?_); rintro e w1 ⟨rfl, rfl⟩)
    | (go_at_call 105; (with_reducible refine D3.out.mono ?_); rintro e w1 ⟨rfl, rfl⟩)
    | (go_at_call 105; (with_reducible refine D4.out.mono ?_); rintro e w1 ⟨rfl, rfl⟩)
    | (go_at_call 105; (with_reducible refine D5.out.mono ?_); rintro e w1 ⟨rfl, rfl⟩)
    | (go_at_call 105; (with_reducible refine D6.out.mono ?_); rintro e w1 ⟨rfl, rfl⟩)
    | (go_at_call 85; go_must (refine (monthDaysS_any m y _).mono ?_; rintro e w1 ⟨rfl, rfl⟩))
    | (go_at_call 106; go_must (refine HT.out.mono ?_; rintro e w1 ⟨rfl, rfl⟩)))
  all_goals first | (go_ret2; exact mom_opn HM.out rfl) | (rename_i hh; exact absurd (hh.2.symm.trans qB) (by decide)) | (rename_i hh; rcases hh with hh | hh; exact absurd (hh.symm.trans qB) (by decide); exact absurd (hh.symm.trans qC) (by decide)) | (exfalso; omega)
set_option maxRecDepth 100000 in
set_option maxHeartbeats 6400000 in
theorem time_otha (l : List UInt8) (y m d : Int) (w : World) (hl : l.length ≤ 1000000000) (hD : DateOk l y m d) (h8 : l.length ≠ 8) (hT : l[8]? = some 84) (h n x : Int) (h4 : sDig l 9 2 = some h) (h5 : sDig l 11 2 = some n) (h6 : sDig l 13 2 = some x) (r1 : ¬ 23 < h) (r2 : ¬ 59 < n) (r3 : ¬ 59 < x) (h15 : l.length ≠ 15) (h16 : l.length ≠ 16) (hd : ¬ (l[15]? = some 46 ∨ l[15]? = some 44)) :
    Calls Tryz.prog 76 #[.string (mkS l)] w (MomPost w (momS l)) := by
  have HT := Lib.hid (days_at hD w)
  have hin := dayNum_in hD
  have hMO := momS_ok hD
  rw [if_neg h8] at hMO
  obtain ⟨h1, h2, h3, c1, c2, c3, c4⟩ := hD
  have zl := size_mkS l
  have hge8 : 8 < l.length := by have := sDig_bd h3; omega
  have h8b : ((l.length : Int) == 8) = false := beq_eq_false_iff_ne.2 (by omega)
  have hx := idx_bt l 8 hge8 (by rw [zl]; exact hge8)
  have g8 : l[8]? = some l[8] := List.getElem?_eq_getElem hge8
  have D1 : Hid (Calls Tryz.prog 105 #[.string (mkS l), .int .i64 0, .int .i64 4] w fun e w' => e = .returned (.tuple #[.int .i64 y, .bool true]) ∧ w = w') := dig_y h1 hl (by decide) (by decide) w
  have D2 : Hid (Calls Tryz.prog 105 #[.string (mkS l), .int .i64 4, .int .i64 2] w fun e w' => e = .returned (.tuple #[.int .i64 m, .bool true]) ∧ w = w') := dig_y h2 hl (by decide) (by decide) w
  have D3 : Hid (Calls Tryz.prog 105 #[.string (mkS l), .int .i64 6, .int .i64 2] w fun e w' => e = .returned (.tuple #[.int .i64 d, .bool true]) ∧ w = w') := dig_y h3 hl (by decide) (by decide) w
  have D4 : Hid (Calls Tryz.prog 105 #[.string (mkS l), .int .i64 9, .int .i64 2] w fun e w' => e = .returned (.tuple #[.int .i64 h, .bool true]) ∧ w = w') := dig_y h4 hl (by decide) (by decide) w
  have D5 : Hid (Calls Tryz.prog 105 #[.string (mkS l), .int .i64 11, .int .i64 2] w fun e w' => e = .returned (.tuple #[.int .i64 n, .bool true]) ∧ w = w') := dig_y h5 hl (by decide) (by decide) w
  have D6 : Hid (Calls Tryz.prog 105 #[.string (mkS l), .int .i64 13, .int .i64 2] w fun e w' => e = .returned (.tuple #[.int .i64 x, .bool true]) ∧ w = w') := dig_y h6 hl (by decide) (by decide) w
  have hq : (l[8].toNat : Int) = 84 := by rw [g8] at hT; simp only [Option.some.injEq] at hT; rw [hT]; rfl
  have k4 := sDig_bd h4
  have k5 := sDig_bd h5
  have k6 := sDig_bd h6
  have hneg : ¬ (l[8]? ≠ some 84 ∨ 23 < h ∨ 59 < n ∨ 59 < x) := by rw [hT]; simp; omega
  obtain ⟨k40, k41, _⟩ := k4
  obtain ⟨k50, k51, _⟩ := k5
  obtain ⟨k60, k61, k62⟩ := k6
  have h15l : 15 < l.length := by omega
  have q15 : ((l.length : Int) == 15) = false := beq_eq_false_iff_ne.2 (by omega)
  have hy := idx_bt l 15 h15l (by rw [zl]; exact h15l)
  have g15 : l[15]? = some l[15] := List.getElem?_eq_getElem h15l
  have q16 : ((l.length : Int) == 16) = false := beq_eq_false_iff_ne.2 (by omega)
  have hZ2 : Hid (¬ (l.length = 15 ∨ l.length = 16 ∧ l[15]? = some 90)) := Lib.hid (by omega)
  have qd0 : ¬ ((l[15].toNat : Int) = 46) := by rw [g15] at hd; simp only [Option.some.injEq, not_or] at hd; have : l[15].toNat ≠ 46 := fun e => hd.1 (UInt8.toNat_inj.1 (by simpa using e)); omega
  have qd1 : ¬ ((l[15].toNat : Int) = 44) := by rw [g15] at hd; simp only [Option.some.injEq, not_or] at hd; have : l[15].toNat ≠ 44 := fun e => hd.2 (UInt8.toNat_inj.1 (by simpa using e)); omega
  have qB : ((l[15].toNat : Int) == 46) = false := by simpa using qd0
  have qC : ((l[15].toNat : Int) == 44) = false := by simpa using qd1
  have HM : Hid (momS l = .wrong) := Lib.hid (by rw [hMO]; unfold timeS; rw [h4, h5, h6]; exact (if_neg hneg).trans ((if_neg hZ2.out).trans (if_neg hd)))
  clear hT h4 h5 h6 hneg h15 h16 g15 hd h1 h2 h3 h8 hMO g8
  go_enter Tryz.func76, Tryz.ntmps76
  go_wp2_with (first
    | (go_at_call 105; (with_reducible refine D1.out.mono ?_); rintro e w1 ⟨rfl, rfl⟩)
    | (go_at_call 105; (with_reducible refine D2.out.mono ?_); rintro e w1 ⟨rfl, rfl⟩)
    | (go_at_call 105; (with_reducible refine D3.out.mono ?_); rintro e w1 ⟨rfl, rfl⟩)
    | (go_at_call 105; (with_reducible refine D4.out.mono ?_); rintro e w1 ⟨rfl, rfl⟩)
    | (go_at_call 105; (with_reducible refine D5.out.mono ?_); rintro e w1 ⟨rfl, rfl⟩)
    | (go_at_call 105; (with_reducible refine D6.out.mono ?_); rintro e w1 ⟨rfl, rfl⟩)
    | (go_at_call 85; go_must (refine (monthDaysS_any m y _).mono ?_; rintro e w1 ⟨rfl, rfl⟩))
    | (go_at_call 106; go_must (refine HT.out.mono ?_; rintro e w1 ⟨rfl, rfl⟩)))
  all_goals first | (go_ret2; exact mom_wrong HM.out rfl) | (rename_i hh; exact absurd (hh.2.symm.trans qB) (by decide)) | (rename_i hh; rcases hh with hh | hh; exact absurd (hh.symm.trans qB) (by decide); exact absurd (hh.symm.trans qC) (by decide)) | (exfalso; omega)
set_option maxRecDepth 100000 in
set_option maxHeartbeats 6400000 in
theorem time_othb (l : List UInt8) (y m d : Int) (w : World) (hl : l.length ≤ 1000000000) (hD : DateOk l y m d) (h8 : l.length ≠ 8) (hT : l[8]? = some 84) (h n x : Int) (h4 : sDig l 9 2 = some h) (h5 : sDig l 11 2 = some n) (h6 : sDig l 13 2 = some x) (r1 : ¬ 23 < h) (r2 : ¬ 59 < n) (r3 : ¬ 59 < x) (h15 : l.length ≠ 15) (h16 : l.length = 16) (hz : l[15]? ≠ some 90) (hd : ¬ (l[15]? = some 46 ∨ l[15]? = some 44)) :
    Calls Tryz.prog 76 #[.string (mkS l)] w (MomPost w (momS l)) := by
  have HT := Lib.hid (days_at hD w)
  have hin := dayNum_in hD
  have hMO := momS_ok hD
  rw [if_neg h8] at hMO
  obtain ⟨h1, h2, h3, c1, c2, c3, c4⟩ := hD
  have zl := size_mkS l
  have hge8 : 8 < l.length := by have := sDig_bd h3; omega
  have h8b : ((l.length : Int) == 8) = false := beq_eq_false_iff_ne.2 (by omega)
  have hx := idx_bt l 8 hge8 (by rw [zl]; exact hge8)
  have g8 : l[8]? = some l[8] := List.getElem?_eq_getElem hge8
  have D1 : Hid (Calls Tryz.prog 105 #[.string (mkS l), .int .i64 0, .int .i64 4] w fun e w' => e = .returned (.tuple #[.int .i64 y, .bool true]) ∧ w = w') := dig_y h1 hl (by decide) (by decide) w
  have D2 : Hid (Calls Tryz.prog 105 #[.string (mkS l), .int .i64 4, .int .i64 2] w fun e w' => e = .returned (.tuple #[.int .i64 m, .bool true]) ∧ w = w') := dig_y h2 hl (by decide) (by decide) w
  have D3 : Hid (Calls Tryz.prog 105 #[.string (mkS l), .int .i64 6, .int .i64 2] w fun e w' => e = .returned (.tuple #[.int .i64 d, .bool true]) ∧ w = w') := dig_y h3 hl (by decide) (by decide) w
  have D4 : Hid (Calls Tryz.prog 105 #[.string (mkS l), .int .i64 9, .int .i64 2] w fun e w' => e = .returned (.tuple #[.int .i64 h, .bool true]) ∧ w = w') := dig_y h4 hl (by decide) (by decide) w
  have D5 : Hid (Calls Tryz.prog 105 #[.string (mkS l), .int .i64 11, .int .i64 2] w fun e w' => e = .returned (.tuple #[.int .i64 n, .bool true]) ∧ w = w') := dig_y h5 hl (by decide) (by decide) w
  have D6 : Hid (Calls Tryz.prog 105 #[.string (mkS l), .int .i64 13, .int .i64 2] w fun e w' => e = .returned (.tuple #[.int .i64 x, .bool true]) ∧ w = w') := dig_y h6 hl (by decide) (by decide) w
  have hq : (l[8].toNat : Int) = 84 := by rw [g8] at hT; simp only [Option.some.injEq] at hT; rw [hT]; rfl
  have k4 := sDig_bd h4
  have k5 := sDig_bd h5
  have k6 := sDig_bd h6
  have hneg : ¬ (l[8]? ≠ some 84 ∨ 23 < h ∨ 59 < n ∨ 59 < x) := by rw [hT]; simp; omega
  obtain ⟨k40, k41, _⟩ := k4
  obtain ⟨k50, k51, _⟩ := k5
  obtain ⟨k60, k61, k62⟩ := k6
  have h15l : 15 < l.length := by omega
  have q15 : ((l.length : Int) == 15) = false := beq_eq_false_iff_ne.2 (by omega)
  have hy := idx_bt l 15 h15l (by rw [zl]; exact h15l)
  have g15 : l[15]? = some l[15] := List.getElem?_eq_getElem h15l
  have q16 : ((l.length : Int) == 16) = true := by rw [h16]; rfl
  have qz : ¬ ((l[15].toNat : Int) = 90) := by rw [g15] at hz; simp only [ne_eq, Option.some.injEq] at hz; have : l[15].toNat ≠ 90 := fun e => hz (UInt8.toNat_inj.1 (by simpa using e)); omega
  have hZ2 : Hid (¬ (l.length = 15 ∨ l.length = 16 ∧ l[15]? = some 90)) := Lib.hid (by rintro (h | ⟨_, h⟩); exact h15 h; exact hz h)
  have qd0 : ¬ ((l[15].toNat : Int) = 46) := by rw [g15] at hd; simp only [Option.some.injEq, not_or] at hd; have : l[15].toNat ≠ 46 := fun e => hd.1 (UInt8.toNat_inj.1 (by simpa using e)); omega
  have qd1 : ¬ ((l[15].toNat : Int) = 44) := by rw [g15] at hd; simp only [Option.some.injEq, not_or] at hd; have : l[15].toNat ≠ 44 := fun e => hd.2 (UInt8.toNat_inj.1 (by simpa using e)); omega
  have qB : ((l[15].toNat : Int) == 46) = false := by simpa using qd0
  have qC : ((l[15].toNat : Int) == 44) = false := by simpa using qd1
  have HM : Hid (momS l = .wrong) := Lib.hid (by rw [hMO]; unfold timeS; rw [h4, h5, h6]; exact (if_neg hneg).trans ((if_neg hZ2.out).trans (if_neg hd)))
  clear hT h4 h5 h6 hneg h15 h16 hz g15 hd h1 h2 h3 h8 hMO g8
  go_enter Tryz.func76, Tryz.ntmps76
  go_wp2_with (first
    | (go_at_call 105; (with_reducible refine D1.out.mono ?_); rintro e w1 ⟨rfl, rfl⟩)
    | (go_at_call 105; (with_reducible refine D2.out.mono ?_); rintro e w1 ⟨rfl, rfl⟩)
    | (go_at_call 105; (with_reducible refine D3.out.mono ?_); rintro e w1 ⟨rfl, rfl⟩)
    | (go_at_call 105; (with_reducible refine D4.out.mono ?_); rintro e w1 ⟨rfl, rfl⟩)
    | (go_at_call 105; (with_reducible refine D5.out.mono ?_); rintro e w1 ⟨rfl, rfl⟩)
    | (go_at_call 105; (with_reducible refine D6.out.mono ?_); rintro e w1 ⟨rfl, rfl⟩)
    | (go_at_call 85; go_must (refine (monthDaysS_any m y _).mono ?_; rintro e w1 ⟨rfl, rfl⟩))
    | (go_at_call 106; go_must (refine HT.out.mono ?_; rintro e w1 ⟨rfl, rfl⟩)))
  all_goals first | (go_ret2; exact mom_wrong HM.out rfl) | (rename_i hh; exact absurd (hh.2.symm.trans qB) (by decide)) | (rename_i hh; rcases hh with hh | hh; exact absurd (hh.symm.trans qB) (by decide); exact absurd (hh.symm.trans qC) (by decide)) | (exfalso; omega)
theorem moment_any (l : List UInt8) (w : World) (hl : l.length ≤ 1000000000) : Calls Tryz.prog 76 #[.string (mkS l)] w (MomPost w (momS l)) := by
  by_cases hD : ∃ y m d, DateOk l y m d
  · obtain ⟨y, m, d, hD⟩ := hD
    by_cases h8 : l.length = 8
    · exact moment_date l y m d w hl hD h8
    · by_cases hT : l[8]? = some 84
      · cases h4 : sDig l 9 2 with
        | none => exact time_h l y m d w hl hD h8 hT h4
        | some h =>
          cases h5 : sDig l 11 2 with
          | none => exact time_n l y m d w hl hD h8 hT h h4 h5
          | some n =>
            cases h6 : sDig l 13 2 with
            | none => exact time_x l y m d w hl hD h8 hT h n h4 h5 h6
            | some x =>
              by_cases r1 : 23 < h
              · exact time_r1 l y m d w hl hD h8 hT h n x h4 h5 h6 r1
              · by_cases r2 : 59 < n
                · exact time_r2 l y m d w hl hD h8 hT h n x h4 h5 h6 r1 r2
                · by_cases r3 : 59 < x
                  · exact time_r3 l y m d w hl hD h8 hT h n x h4 h5 h6 r1 r2 r3
                  · by_cases h15 : l.length = 15
                    · exact time_15 l y m d w hl hD h8 hT h n x h4 h5 h6 r1 r2 r3 h15
                    · by_cases hz : l.length = 16 ∧ l[15]? = some 90
                      · exact time_16 l y m d w hl hD h8 hT h n x h4 h5 h6 r1 r2 r3 hz.1 hz.2
                      · by_cases hd : l[15]? = some 46
                        · exact if h16 : l.length = 16 then time_dotb l y m d w hl hD h8 hT h n x h4 h5 h6 r1 r2 r3 h15 h16 (fun e => hz ⟨h16, e⟩) hd else time_dota l y m d w hl hD h8 hT h n x h4 h5 h6 r1 r2 r3 h15 h16 hd
                        · by_cases hd2 : l[15]? = some 44
                          · exact if h16 : l.length = 16 then time_comb l y m d w hl hD h8 hT h n x h4 h5 h6 r1 r2 r3 h15 h16 (fun e => hz ⟨h16, e⟩) hd2 else time_coma l y m d w hl hD h8 hT h n x h4 h5 h6 r1 r2 r3 h15 h16 hd2
                          · exact if h16 : l.length = 16 then time_othb l y m d w hl hD h8 hT h n x h4 h5 h6 r1 r2 r3 h15 h16 (fun e => hz ⟨h16, e⟩) (by rintro (h | h); exact hd h; exact hd2 h) else time_otha l y m d w hl hD h8 hT h n x h4 h5 h6 r1 r2 r3 h15 h16 (by rintro (h | h); exact hd h; exact hd2 h)
      · exact time_T l y m d w hl hD h8 hT
  · refine moment_bad l w hl fun y m d h1 h2 h3 => ?_
    have : ¬ (¬ m < 1 ∧ ¬ 12 < m ∧ ¬ d < 1 ∧ ¬ mdays m y < d) := fun ⟨c1, c2, c3, c4⟩ => hD ⟨y, m, d, h1, h2, h3, c1, c2, c3, c4⟩
    omega
end Go.Proofs.YtcfbkkcamiephaaGreatDoor
