import Derived.Test.YtcfbkkcamiephaaGreatDoorT4
namespace Go.Proofs.YtcfbkkcamiephaaGreatDoor
open Go.RowKit

/-! ### TextStart -/
def startO (l : List UInt8) : Out Int := if ascL l = false then .opn else startS l
def MomB (w : World) (o : Out Int) (e : Ending) (w' : World) : Prop := e = .returned (.tuple #[.int .i64 o.val, .int .u8 o.code]) ∧ Below w.heap.size w w'
theorem momB_wrong {w w' : World} {o : Out Int} {e : Ending} (h : o = .wrong) (he : e = .returned (.tuple #[.int .i64 0, .int .u8 1])) (hb : Below w.heap.size w w') : MomB w o e w' := by rw [h]; exact ⟨he, hb⟩
theorem momB_opn {w w' : World} {o : Out Int} {e : Ending} (h : o = .opn) (he : e = .returned (.tuple #[.int .i64 0, .int .u8 2])) (hb : Below w.heap.size w w') : MomB w o e w' := by rw [h]; exact ⟨he, hb⟩
theorem momB_as {w w' : World} {o p : Out Int} {e : Ending} (h : o = p) (he : e = .returned (.tuple #[.int .i64 p.val, .int .u8 p.code])) (hb : Below w.heap.size w w') : MomB w o e w' := by rw [h]; exact ⟨he, hb⟩
theorem prefix_lit (a : List UInt8) (w : World) (hl : a.length ≤ 1000000000) : Calls Tryz.prog 57 #[.string (mkS a), .string ⟨#[84, 90, 73, 68, 61]⟩] w fun e w' => e = .returned (.bool (Lib.hasPrefix a tzid)) ∧ w = w' := begins_any a tzid w hl (by decide)
set_option maxRecDepth 100000 in
set_option maxHeartbeats 6400000 in
theorem startS_any (l : List UInt8) (w : World) (hl : l.length ≤ 1000000000) : Calls Tryz.prog 42 #[.string (mkS l)] w (MomB w (startO l)) := by
  have H53 := fun w => ascii_any l w hl
  cases ha : ascL l with
  | false =>
    rw [ha] at H53
    have H := Lib.hid H53
    have HO : Hid (startO l = .opn) := Lib.hid (by unfold startO; rw [if_pos ha])
    clear H53 ha
    go_enter Tryz.func42, Tryz.ntmps42
    go_wp2_with (go_at_call 53; go_must (refine (H.out _).mono ?_; rintro e w1 ⟨rfl, rfl⟩))
    go_ret2
    exact momB_opn HO.out rfl (Below.refl _ _)
  | true =>
    rw [ha] at H53
    have H := Lib.hid H53
    have hO : startO l = startS l := by unfold startO; rw [if_neg (by rw [ha]; simp)]
    have hsp := fun w => splitS_any l 58 w hl
    clear H53 ha
    have hmem := fun x (h : x ∈ splitL 58 l) => Nat.le_trans (split_len h) hl
    have hln := splitL_len 58 l
    unfold startS at hO
    match hs : splitL 58 l, hln with
    | [], _ => exact absurd hs (splitL_ne _ _)
    | [a], _ =>
      rw [hs] at hsp hO
      obtain rfl := splitL_one hs
      have HO := Lib.hid hO
      have HS : Hid (∀ w, Calls Tryz.prog 54 #[.string (mkS a), .int .u8 58] w (SplitPost w ([a].map mkS))) := hsp
      have HM := Lib.hid (fun w => moment_any a w hl)
      clear hO hsp hs hmem
      go_enter Tryz.func42, Tryz.ntmps42
      go_wp2_with (first
        | (go_at_call 53; go_must (refine (H.out _).mono ?_; rintro e w1 ⟨rfl, rfl⟩))
        | (go_at_call 54; go_must (refine (HS.out _).mono ?_; rintro e w2 ⟨g, cc, rfl, hg, hrow, hb2⟩; have ca := hrow.cell 0 _ rfl))
        | (go_at_call 76; go_must (refine (HM.out _).mono ?_; rintro e w3 ⟨rfl, rfl⟩)))
      go_ret2
      exact momB_as HO.out rfl hb2
    | [a, b], _ =>
      have hla := hmem a (by rw [hs]; simp)
      have hlb := hmem b (by rw [hs]; simp)
      rw [hs] at hsp hO
      have HS : Hid (∀ w, Calls Tryz.prog 54 #[.string (mkS l), .int .u8 58] w (SplitPost w ([a, b].map mkS))) := hsp
      have HM := Lib.hid (fun w => moment_any b w hlb)
      have HP := fun w => prefix_lit a w hla
      simp only at hO
      cases hp : Lib.hasPrefix a tzid with
      | false =>
        rw [hp] at hO HP
        have HO : Hid (startO l = .wrong) := hO
        have HP1 := Lib.hid HP
        clear hO HP hp hsp hs hmem
        go_enter Tryz.func42, Tryz.ntmps42
        go_wp2_with (first
          | (go_at_call 53; go_must (refine (H.out _).mono ?_; rintro e w1 ⟨rfl, rfl⟩))
          | (go_at_call 54; go_must (refine (HS.out _).mono ?_; rintro e w2 ⟨g, cc, rfl, hg, hrow, hb2⟩; have ca := hrow.cell 0 _ rfl; have cb := hrow.cell 1 _ rfl))
          | (go_at_call 57; go_must (refine (HP1.out _).mono ?_; rintro e w3 ⟨rfl, rfl⟩)))
        go_ret2
        exact momB_wrong HO.out rfl hb2
      | true =>
        rw [hp] at hO HP
        have HP1 := Lib.hid HP
        have tl := toList_mkS a
        cases ht : tzOk a with
        | true =>
          rw [ht] at hO
          have HO : Hid (startO l = momS b) := hO
          have hq : (a == [84, 90, 73, 68, 61, 85, 84, 67]) = true := ht
          have hq2 : (!a == [84, 90, 73, 68, 61, 85, 84, 67]) = false := by rw [hq]; rfl
          clear hO HP hp hsp hs hmem ht
          go_enter Tryz.func42, Tryz.ntmps42
          go_wp2_with (first
            | (go_at_call 53; go_must (refine (H.out _).mono ?_; rintro e w1 ⟨rfl, rfl⟩))
            | (go_at_call 54; go_must (refine (HS.out _).mono ?_; rintro e w2 ⟨g, cc, rfl, hg, hrow, hb2⟩; have ca := hrow.cell 0 _ rfl; have cb := hrow.cell 1 _ rfl))
            | (go_at_call 57; go_must (refine (HP1.out _).mono ?_; rintro e w3 ⟨rfl, rfl⟩))
            | (go_at_call 76; go_must (refine (HM.out _).mono ?_; rintro e w3 ⟨rfl, rfl⟩)))
          go_ret2
          exact momB_as HO.out rfl hb2
        | false =>
          rw [ht] at hO
          have HO : Hid (startO l = .opn) := hO
          have hq : (a == [84, 90, 73, 68, 61, 85, 84, 67]) = false := ht
          have hq2 : (!a == [84, 90, 73, 68, 61, 85, 84, 67]) = true := by rw [hq]; rfl
          clear hO HP hp hsp hs hmem ht
          go_enter Tryz.func42, Tryz.ntmps42
          go_wp2_with (first
            | (go_at_call 53; go_must (refine (H.out _).mono ?_; rintro e w1 ⟨rfl, rfl⟩))
            | (go_at_call 54; go_must (refine (HS.out _).mono ?_; rintro e w2 ⟨g, cc, rfl, hg, hrow, hb2⟩; have ca := hrow.cell 0 _ rfl; have cb := hrow.cell 1 _ rfl))
            | (go_at_call 57; go_must (refine (HP1.out _).mono ?_; rintro e w3 ⟨rfl, rfl⟩)))
          go_ret2
          exact momB_opn HO.out rfl hb2
    | a :: b :: c :: r, hln2 =>
      rw [hs] at hsp hO
      have HO : Hid (startO l = .wrong) := hO
      have HS : Hid (∀ w, Calls Tryz.prog 54 #[.string (mkS l), .int .u8 58] w (SplitPost w ((a :: b :: c :: r).map mkS))) := hsp
      have hrl : r.length ≤ 1000000000 := by simp at hln2; omega
      clear hO hsp hs hmem
      go_enter Tryz.func42, Tryz.ntmps42
      go_wp2_with (first
        | (go_at_call 53; go_must (refine (H.out _).mono ?_; rintro e w1 ⟨rfl, rfl⟩))
        | (go_at_call 54; go_must (refine (HS.out _).mono ?_; rintro e w2 ⟨g, cc, rfl, hg, hrow, hb2⟩)))
      go_ret2
      exact momB_wrong HO.out rfl hb2
end Go.Proofs.YtcfbkkcamiephaaGreatDoor
