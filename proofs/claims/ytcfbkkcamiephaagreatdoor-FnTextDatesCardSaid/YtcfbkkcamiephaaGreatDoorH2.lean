import Derived.Test.YtcfbkkcamiephaaGreatDoorH1
import Derived.Test.YtcfbkkcamiephaaGreatDoorLk
import Derived.Test.YtcfbkkcamiephaaGreatDoorT1
import Derived.Test.YtcfbkkcamiephaaGreatDoorT5
import Derived.Test.YtcfbkkcamiephaaGreatDoorW1
import Derived.Test.YtcfbkkcamiephaaGreatDoorF13
namespace Go.Proofs.YtcfbkkcamiephaaGreatDoor
open Go.RowKit

set_option maxRecDepth 100000 in
set_option maxHeartbeats 1600000 in
theorem sameMoms_any (xs : List Int) (v v' : Value) (w : World) (hv : IntsV w v xs) (hv' : IntsV w v' xs) (hl : xs.length ≤ 1000000001) :
    Calls Tryz.prog 50 #[v, v'] w fun e w' => e = .returned (.bool true) ∧ ∃ q, w' = w.drewN q := by
  obtain ⟨a, c, rfl, hr⟩ := hv.form2
  obtain ⟨a', c', rfl, hr'⟩ := hv'.form2
  have HR := Lib.hid hr
  have HR' := Lib.hid hr'
  clear hr hr' hv hv'
  go_enter Tryz.func50, Tryz.ntmps50
  go_wp2
  go_loopw [13] (fun i wr => ∃ k q : Nat, k ≤ xs.length ∧ i = .int .i64 k ∧ wr = w.drewN q) (fun i _ => xs.length - (intOf i).toNat)
  case atStart => exact ⟨0, 0, by omega, rfl, rfl⟩
  case round =>
    obtain ⟨k, q, hk, rfl, rfl⟩ := hrel
    by_cases hlt : k < xs.length
    · obtain ⟨g, gq, rfl, hg⟩ : ∃ g gq, a = some ⟨g, gq, none⟩ ∧ IntRowQ w g gq xs := by
        rcases HR.out with h | h
        · rw [h] at hlt; simp at hlt
        · exact h
      obtain ⟨g', gq', rfl, hg'⟩ : ∃ g gq, a' = some ⟨g, gq, none⟩ ∧ IntRowQ w g gq xs := by
        rcases HR'.out with h | h
        · rw [h] at hlt; simp at hlt
        · exact h
      have hc := hg.cell k xs[k] (by simp [hlt])
      have hc' := hg'.cell k xs[k] (by simp [hlt])
      generalize xs[k] = x at hc hc'
      have hk0 : (0 : Int) ≤ (k : Int) := Int.natCast_nonneg _
      have hk1 : (k : Int) < (xs.length : Int) := by omega
      clear hg hg'
      go_wp2
      go_quiet (fail)
      go_wp2
      go_roundw
      case rel => exact ⟨k + 1, _, by omega, by go_num, rfl⟩
      case measure => simp [intOf]; omega
    · obtain rfl : k = xs.length := by omega
      go_wp2
      go_ret
      exact ⟨rfl, q, rfl⟩
/-! ### TextDates -/
def Out.pre (ns : List Int) : Out (List Int) → Out (List Int)
  | .right l => .right (ns ++ l)
  | .wrong => .wrong
  | .opn => .opn
theorem pre_nil (o : Out (List Int)) : o.pre [] = o := by cases o <;> rfl
theorem pre_pre (o : Out (List Int)) (a b : List Int) : (o.pre b).pre a = o.pre (a ++ b) := by cases o <;> simp [Out.pre]
theorem momsO_cons (x : List UInt8) (r : List (List UInt8)) : momsO (x :: r) = match momS x with
    | .right n => (momsO r).pre [n]
    | .wrong => .wrong
    | .opn => .opn := by
  conv => lhs; unfold momsO
  cases momS x with
  | right n => cases momsO r <;> rfl
  | wrong => rfl
  | opn => rfl
def DatesSPost (w : World) (o : Out (List Int)) (e : Ending) (w' : World) : Prop := Below w.heap.size w w' ∧ match o with
  | .right xs => ∃ v, e = .returned (.tuple #[v, .int .u8 0]) ∧ IntsV w' v xs
  | .wrong => e = .returned (.tuple #[.slice none 0 0, .int .u8 1])
  | .opn => e = .returned (.tuple #[.slice none 0 0, .int .u8 2])
theorem ds_right {w w' : World} {o : Out (List Int)} {e : Ending} {xs : List Int} {v : Value} (h : o = .right xs) (he : e = .returned (.tuple #[v, .int .u8 0])) (hb : Below w.heap.size w w') (hv : IntsV w' v xs) : DatesSPost w o e w' := by rw [h]; exact ⟨hb, v, he, hv⟩
theorem ds_wrong {w w' : World} {o : Out (List Int)} {e : Ending} (h : o = .wrong) (he : e = .returned (.tuple #[.slice none 0 0, .int .u8 1])) (hb : Below w.heap.size w w') : DatesSPost w o e w' := by rw [h]; exact ⟨hb, he⟩
theorem ds_opn {w w' : World} {o : Out (List Int)} {e : Ending} (h : o = .opn) (he : e = .returned (.tuple #[.slice none 0 0, .int .u8 2])) (hb : Below w.heap.size w w') : DatesSPost w o e w' := by rw [h]; exact ⟨hb, he⟩
set_option maxRecDepth 100000 in
theorem datesS_asc (l : List UInt8) (w : World) (hl : l.length ≤ 1000000000) (hA : ascL l = false) : Calls Tryz.prog 51 #[.string (mkS l)] w (DatesSPost w .opn) := by
  have h53 := fun w => ascii_any l w hl
  rw [hA] at h53
  have H53 := Lib.hid h53
  clear h53 hA
  go_enter Tryz.func51, Tryz.ntmps51
  go_wp2_with (first
    | (go_at_call 53; go_must (refine (H53.out _).mono ?_; rintro e w1 ⟨rfl, rfl⟩))
    | (fail))
  go_ret2
  exact ds_opn rfl rfl (Below.refl _ _)
set_option maxRecDepth 100000 in
theorem datesS_3 (l a b c : List UInt8) (r : List (List UInt8)) (w : World) (hl : l.length ≤ 1000000000) (hA : ascL l = true) (hS : splitL 58 l = a :: b :: c :: r) (_hr : r.length ≤ 1000000000) : Calls Tryz.prog 51 #[.string (mkS l)] w (DatesSPost w .wrong) := by
  have h53 := fun w => ascii_any l w hl
  rw [hA] at h53
  have H53 := Lib.hid h53
  have h54 := fun w => splitS_any l 58 w hl
  rw [hS] at h54
  have H54 := Lib.hid h54
  clear h53 hA h54 hS
  go_enter Tryz.func51, Tryz.ntmps51
  go_wp2_with (first
    | (go_at_call 53; go_must (refine (H53.out _).mono ?_; rintro e w1 ⟨rfl, rfl⟩))
    | (go_at_call 54; go_must (refine (H54.out _).mono ?_; rintro e w1 ⟨g, cc, rfl, hg, hrow, hb1⟩))
    | (fail))
  go_ret2
  exact ds_wrong rfl rfl hb1
set_option maxRecDepth 100000 in
set_option maxHeartbeats 3200000 in
theorem datesS_1 (l a : List UInt8) (w : World) (hl : l.length ≤ 1000000000) (hA : ascL l = true) (hS : splitL 58 l = [a]) :
    Calls Tryz.prog 51 #[.string (mkS l)] w (DatesSPost w (momsO (splitL 44 a))) := by
  have hla : a.length ≤ 1000000000 := Nat.le_trans (split_len (c := 58) (l := l) (by rw [hS]; simp)) hl
  have h53 := fun w => ascii_any l w hl
  rw [hA] at h53
  have H53 := Lib.hid h53
  have h54 := fun w => splitS_any l 58 w hl
  rw [hS] at h54
  have H54 := Lib.hid h54
  clear h53 hA h54 hS
  go_enter Tryz.func51, Tryz.ntmps51
  go_upto_region 16 with (first
    | (go_at_call 53; go_must (refine (H53.out _).mono ?_; rintro e w1 ⟨rfl, rfl⟩))
    | (go_at_call 54; go_must (refine (H54.out _).mono ?_; rintro e w1 ⟨g, cc, rfl, hg, hrow, hb1⟩))
    | (fail))
  have HBX := Lib.hid hb1
  have hca := hrow.cell 0 (mkS a) rfl
  clear hb1 hrow
  have HP : Hid (∀ p ∈ splitL 44 a, p.length ≤ 1000000000) := Lib.hid (fun _ hp => Nat.le_trans (split_len hp) hla)
  have hps : (splitL 44 a).length ≤ 1000000001 := Nat.le_trans (splitL_len 44 a) (by omega)
  have H44 := Lib.hid (fun w => splitS_any a 44 w hla)
  generalize splitL 44 a = ps at *
  go_wp2_with (first
    | (go_at_call 54; go_must (refine (H44.out _).mono ?_; rintro e w3 ⟨g2, cc2, rfl, hg2, hrow2, hb3⟩; rw [List.length_map]))
    | (fail))
  have HB3 : Hid (Below w.heap.size w w3) := Lib.hid (HBX.out.trans (hb3.mono HBX.out.size))
  have HROW2 := Lib.hid hrow2
  obtain ⟨N1, hN1⟩ : ∃ N1 : Nat, N1 = w3.heap.size := ⟨_, rfl⟩
  have HN1 := Lib.hid hN1
  have hNw : w.heap.size ≤ N1 := by rw [hN1]; exact HB3.out.size
  clear hb3 hrow2 hN1 H44 HBX hca
  go_loopw [7, 55] (fun v i wr => ∃ (k : Nat) (ns : List Int), k ≤ ps.length ∧ i = .int .i64 k ∧ ns.length = k ∧ Hid (wr.ownsRow N1 2 1 v ns.length (ns.map intV)) ∧ Hid (momsO ps = (momsO (ps.drop k)).pre ns) ∧ Hid (Below N1 w3 wr)) (fun _ i _ => ps.length - (intOf i).toNat)
  case atStart => exact ⟨0, [], by omega, rfl, rfl, Lib.hid (World.ownsRow_nil _ _ _ _), Lib.hid (by rw [pre_nil]; rfl), Lib.hid (Below.refl _ _)⟩
  case round =>
    obtain ⟨k, ns, hk, rfl, hns, HOW, hT, HB⟩ := hrel
    have hs : StrRow wr g2 cc2 (ps.map mkS) := HROW2.out.below (by rw [← HN1.out]; exact HB.out)
    have hbz : N1 ≤ wr.heap.size := by rw [HN1.out]; exact HB.out.size
    have HBW : Hid (Below w.heap.size w wr) := Lib.hid (HB3.out.trans (HB.out.mono hNw))
    by_cases hlt : k < ps.length
    · have hcell := hs.cell k (mkS ps[k]) (by simp [hlt])
      have hT2 := hT.out
      rw [List.drop_eq_getElem_cons hlt, momsO_cons] at hT2
      have hat := fun w => moment_any ps[k] w (HP.out _ (List.getElem_mem hlt))
      generalize ps[k] = p at hcell hT2 hat
      have hlk : ns.length ≤ 1000000000000 := by omega
      clear hs
      cases hA : momS p with
      | wrong =>
        rw [hA] at hT2 hat
        have HAT : Hid (∀ w, Calls Tryz.prog 76 #[.string (mkS p)] w (fun e w' => e = .returned (.tuple #[.int .i64 0, .int .u8 1]) ∧ w = w')) := hat
        have HT2 : Hid (momsO ps = .wrong) := Lib.hid hT2
        clear hat hA hT hT2 hns
        go_wp2_with (first
          | (go_at_call 76; go_must (refine (HAT.out _).mono ?_; rintro e w4 ⟨rfl, rfl⟩))
          | (fail))
        go_ret2
        exact ds_wrong (by skip; exact HT2.out) rfl HBW.out
      | opn =>
        rw [hA] at hT2 hat
        have HAT : Hid (∀ w, Calls Tryz.prog 76 #[.string (mkS p)] w (fun e w' => e = .returned (.tuple #[.int .i64 0, .int .u8 2]) ∧ w = w')) := hat
        have HT2 : Hid (momsO ps = .opn) := Lib.hid hT2
        clear hat hA hT hT2 hns
        go_wp2_with (first
          | (go_at_call 76; go_must (refine (HAT.out _).mono ?_; rintro e w4 ⟨rfl, rfl⟩))
          | (fail))
        go_ret2
        exact ds_opn (by skip; exact HT2.out) rfl HBW.out
      | right x =>
        rw [hA] at hT2 hat
        have HAT : Hid (∀ w, Calls Tryz.prog 76 #[.string (mkS p)] w (fun e w' => e = .returned (.tuple #[.int .i64 x, .int .u8 0]) ∧ w = w')) := hat
        have HT2 : Hid (momsO ps = (momsO (ps.drop (k + 1))).pre (ns ++ [x])) := Lib.hid (by rw [hT2, ← pre_pre])
        have HNS := Lib.hid hns
        have HBx := HB.out
        have HOx := HOW.out
        clear hat hA hT hT2 hns
        go_wp2_with (first
          | (go_at_call 76; go_must (refine (HAT.out _).mono ?_; rintro e w4 ⟨rfl, rfl⟩))
          | (at_builtin; go_must (refine app1 N1 _ _ 49 (.int .i64 0) 8 Tryz.u49 Tryz.i2 rfl rfl HOx HBx hbz hlk (by omega) rfl rfl rfl rfl ?_); intro v' w6 hown' hb6 hsz6)
          | (fail))
        have HO6 := Lib.hid hown'
        have HB6 := Lib.hid hb6
        go_roundw
        case rel => exact ⟨k + 1, ns ++ [x], by omega, by go_num, by rw [List.length_append, HNS.out]; rfl, Lib.hid (by rw [List.map_append, List.length_append]; exact HO6.out), HT2, HB6⟩
        case measure => simp [intOf]; omega
    · obtain rfl : k = ps.length := by omega
      have HT2 : Hid (momsO ps = .right ns) := Lib.hid (by rw [hT.out, List.drop_length]; simp [momsO, Out.pre])
      clear hT hns
      go_wp2
      go_ret2
      exact ds_right (by skip; exact HT2.out) rfl HBW.out (ints_own2 HOW.out)
theorem parsO_cons (x : List UInt8) (r : List (List UInt8)) : parsO (x :: r) = if x = tzU ∨ x = vdt ∨ x = vd then parsO r else if Lib.hasPrefix x tzid then .opn else .wrong := by
  conv => lhs; unfold parsO
/-- what the parameters leave of the dates -/
def parThen (o : Out Unit) (m : Out (List Int)) : Out (List Int) := match o with
  | .right _ => m
  | .wrong => .wrong
  | .opn => .opn
set_option maxRecDepth 100000 in
set_option maxHeartbeats 3200000 in
theorem datesS_2 (l q a : List UInt8) (w : World) (hl : l.length ≤ 1000000000) (hA : ascL l = true) (hS : splitL 58 l = [q, a]) :
    Calls Tryz.prog 51 #[.string (mkS l)] w (DatesSPost w (parThen (parsO (splitL 59 q)) (momsO (splitL 44 a)))) := by
  have hlq : q.length ≤ 1000000000 := Nat.le_trans (split_len (c := 58) (l := l) (by rw [hS]; simp)) hl
  have hla : a.length ≤ 1000000000 := Nat.le_trans (split_len (c := 58) (l := l) (by rw [hS]; simp)) hl
  have h53 := fun w => ascii_any l w hl
  rw [hA] at h53
  have H53 := Lib.hid h53
  have h54 := fun w => splitS_any l 58 w hl
  rw [hS] at h54
  have H54 := Lib.hid h54
  have HQ : Hid (∀ p ∈ splitL 59 q, p.length ≤ 1000000000) := Lib.hid (fun _ hp => Nat.le_trans (split_len hp) hlq)
  have hqs : (splitL 59 q).length ≤ 1000000001 := Nat.le_trans (splitL_len 59 q) (by omega)
  have H59 := Lib.hid (fun w => splitS_any q 59 w hlq)
  generalize splitL 59 q = qs at *
  clear h53 hA h54 hS
  go_enter Tryz.func51, Tryz.ntmps51
  go_upto_region 7 with (first
    | (go_at_call 53; go_must (refine (H53.out _).mono ?_; rintro e w1 ⟨rfl, rfl⟩))
    | (go_at_call 54; go_must (refine (H54.out _).mono ?_; rintro e w1 ⟨g, cc, rfl, hg, hrow, hb1⟩))
    | (fail))
  have HBP := Lib.hid hb1
  have HROW := Lib.hid hrow
  have hcq := hrow.cell 0 (mkS q) rfl
  clear hb1 hrow
  go_wp2_with (first
    | (go_at_call 54; go_must (refine (H59.out _).mono ?_; rintro e w2 ⟨g1, cc1, rfl, hg1, hrow1, hb2⟩; rw [List.length_map]))
    | (fail))
  have HBX : Hid (Below w.heap.size w w2) := Lib.hid (HBP.out.trans (hb2.mono HBP.out.size))
  have hca := (HROW.out.below hb2).cell 1 (mkS a) rfl
  have HROW1 := Lib.hid hrow1
  clear hb2 hrow1 hcq HROW HBP H59 H53 H54
  go_loopw [28] (fun i wr => ∃ k : Nat, k ≤ qs.length ∧ i = .int .i64 k ∧ Hid (parsO qs = parsO (qs.drop k)) ∧ wr = w2) (fun i _ => qs.length - (intOf i).toNat)
  case atStart => exact ⟨0, by omega, rfl, Lib.hid rfl, rfl⟩
  case round =>
  obtain ⟨k, hk, rfl, HOK, rfl⟩ := hrel
  by_cases hlt : k < qs.length
  case pos =>
    have hcell := HROW1.out.cell k (mkS qs[k]) (by simp [hlt])
    have hT2 := HOK.out
    rw [List.drop_eq_getElem_cons hlt, parsO_cons] at hT2
    have hpl := HQ.out _ (List.getElem_mem hlt)
    clear HOK hca
    generalize qs[k] = p at *
    by_cases hin : p = tzU ∨ p = vdt ∨ p = vd
    case pos =>
      rw [if_pos hin] at hT2
      have HT2 := Lib.hid hT2
      clear hT2
      have tl := toList_mkS p
      rcases hin with rfl | rfl | rfl
      all_goals
        go_wp2
        go_roundw
        case rel => exact ⟨k + 1, by omega, by go_num, HT2, trivial⟩
        case measure => simp [intOf]; omega
    rw [if_neg hin] at hT2
    have n1 : (p == [84, 90, 73, 68, 61, 85, 84, 67]) = false := by
      rw [beq_eq_false_iff_ne]
      exact fun h => hin (.inl h)
    have n2 : (p == [86, 65, 76, 85, 69, 61, 68, 65, 84, 69, 45, 84, 73, 77, 69]) = false := by
      rw [beq_eq_false_iff_ne]
      exact fun h => hin (.inr (.inl h))
    have n3 : (p == [86, 65, 76, 85, 69, 61, 68, 65, 84, 69]) = false := by
      rw [beq_eq_false_iff_ne]
      exact fun h => hin (.inr (.inr h))
    have H57 := Lib.hid (fun w => prefix_lit p w hpl)
    have tl := toList_mkS p
    clear hin
    cases hp : Lib.hasPrefix p tzid with
    | true =>
      rw [hp] at hT2 H57
      have HT2 : Hid (parsO qs = .opn) := Lib.hid hT2
      clear hT2 hp
      go_wp2_with (first
        | (go_at_call 57; go_must (refine (H57.out _).mono ?_; rintro e w4 ⟨rfl, rfl⟩))
        | (fail))
      go_ret2
      exact ds_opn (by rw [HT2.out]; rfl) rfl HBX.out
    | false =>
      rw [hp] at hT2 H57
      have HT2 : Hid (parsO qs = .wrong) := Lib.hid hT2
      clear hT2 hp
      go_wp2_with (first
        | (go_at_call 57; go_must (refine (H57.out _).mono ?_; rintro e w4 ⟨rfl, rfl⟩))
        | (fail))
      go_ret2
      exact ds_wrong (by rw [HT2.out]; rfl) rfl HBX.out
  case neg =>
  obtain rfl : k = qs.length := by omega
  have HPR : Hid (parsO qs = .right ()) := Lib.hid (by rw [HOK.out, List.drop_length]; rfl)
  clear HOK HROW1 HQ hlt hk
  have HP : Hid (∀ p ∈ splitL 44 a, p.length ≤ 1000000000) := Lib.hid (fun _ hp => Nat.le_trans (split_len hp) hla)
  have hps : (splitL 44 a).length ≤ 1000000001 := Nat.le_trans (splitL_len 44 a) (by omega)
  have H44 := Lib.hid (fun w => splitS_any a 44 w hla)
  generalize splitL 44 a = ps at *
  go_wp2_with (first
    | (go_at_call 54; go_must (refine (H44.out _).mono ?_; rintro e w3 ⟨g2, cc2, rfl, hg2, hrow2, hb3⟩; rw [List.length_map]))
    | (fail))
  have HB3 : Hid (Below w.heap.size w w3) := Lib.hid (HBX.out.trans (hb3.mono HBX.out.size))
  have HROW2 := Lib.hid hrow2
  obtain ⟨N1, hN1⟩ : ∃ N1 : Nat, N1 = w3.heap.size := ⟨_, rfl⟩
  have HN1 := Lib.hid hN1
  have hNw : w.heap.size ≤ N1 := by rw [hN1]; exact HB3.out.size
  clear hb3 hrow2 hN1 H44 HBX hca
  go_loopw [7, 55] (fun v i wr => ∃ (k : Nat) (ns : List Int), k ≤ ps.length ∧ i = .int .i64 k ∧ ns.length = k ∧ Hid (wr.ownsRow N1 2 1 v ns.length (ns.map intV)) ∧ Hid (momsO ps = (momsO (ps.drop k)).pre ns) ∧ Hid (Below N1 w3 wr)) (fun _ i _ => ps.length - (intOf i).toNat)
  case atStart => exact ⟨0, [], by omega, rfl, rfl, Lib.hid (World.ownsRow_nil _ _ _ _), Lib.hid (by rw [pre_nil]; rfl), Lib.hid (Below.refl _ _)⟩
  case round =>
    obtain ⟨k, ns, hk, rfl, hns, HOW, hT, HB⟩ := hrel
    have hs : StrRow wr g2 cc2 (ps.map mkS) := HROW2.out.below (by rw [← HN1.out]; exact HB.out)
    have hbz : N1 ≤ wr.heap.size := by rw [HN1.out]; exact HB.out.size
    have HBW : Hid (Below w.heap.size w wr) := Lib.hid (HB3.out.trans (HB.out.mono hNw))
    by_cases hlt : k < ps.length
    · have hcell := hs.cell k (mkS ps[k]) (by simp [hlt])
      have hT2 := hT.out
      rw [List.drop_eq_getElem_cons hlt, momsO_cons] at hT2
      have hat := fun w => moment_any ps[k] w (HP.out _ (List.getElem_mem hlt))
      generalize ps[k] = p at hcell hT2 hat
      have hlk : ns.length ≤ 1000000000000 := by omega
      clear hs
      cases hA : momS p with
      | wrong =>
        rw [hA] at hT2 hat
        have HAT : Hid (∀ w, Calls Tryz.prog 76 #[.string (mkS p)] w (fun e w' => e = .returned (.tuple #[.int .i64 0, .int .u8 1]) ∧ w = w')) := hat
        have HT2 : Hid (momsO ps = .wrong) := Lib.hid hT2
        clear hat hA hT hT2 hns
        go_wp2_with (first
          | (go_at_call 76; go_must (refine (HAT.out _).mono ?_; rintro e w4 ⟨rfl, rfl⟩))
          | (fail))
        go_ret2
        exact ds_wrong (by rw [HPR.out]; show momsO ps = _; exact HT2.out) rfl HBW.out
      | opn =>
        rw [hA] at hT2 hat
        have HAT : Hid (∀ w, Calls Tryz.prog 76 #[.string (mkS p)] w (fun e w' => e = .returned (.tuple #[.int .i64 0, .int .u8 2]) ∧ w = w')) := hat
        have HT2 : Hid (momsO ps = .opn) := Lib.hid hT2
        clear hat hA hT hT2 hns
        go_wp2_with (first
          | (go_at_call 76; go_must (refine (HAT.out _).mono ?_; rintro e w4 ⟨rfl, rfl⟩))
          | (fail))
        go_ret2
        exact ds_opn (by rw [HPR.out]; show momsO ps = _; exact HT2.out) rfl HBW.out
      | right x =>
        rw [hA] at hT2 hat
        have HAT : Hid (∀ w, Calls Tryz.prog 76 #[.string (mkS p)] w (fun e w' => e = .returned (.tuple #[.int .i64 x, .int .u8 0]) ∧ w = w')) := hat
        have HT2 : Hid (momsO ps = (momsO (ps.drop (k + 1))).pre (ns ++ [x])) := Lib.hid (by rw [hT2, ← pre_pre])
        have HNS := Lib.hid hns
        have HBx := HB.out
        have HOx := HOW.out
        clear hat hA hT hT2 hns
        go_wp2_with (first
          | (go_at_call 76; go_must (refine (HAT.out _).mono ?_; rintro e w4 ⟨rfl, rfl⟩))
          | (at_builtin; go_must (refine app1 N1 _ _ 49 (.int .i64 0) 8 Tryz.u49 Tryz.i2 rfl rfl HOx HBx hbz hlk (by omega) rfl rfl rfl rfl ?_); intro v' w6 hown' hb6 hsz6)
          | (fail))
        have HO6 := Lib.hid hown'
        have HB6 := Lib.hid hb6
        go_roundw
        case rel => exact ⟨k + 1, ns ++ [x], by omega, by go_num, by rw [List.length_append, HNS.out]; rfl, Lib.hid (by rw [List.map_append, List.length_append]; exact HO6.out), HT2, HB6⟩
        case measure => simp [intOf]; omega
    · obtain rfl : k = ps.length := by omega
      have HT2 : Hid (momsO ps = .right ns) := Lib.hid (by rw [hT.out, List.drop_length]; simp [momsO, Out.pre])
      clear hT hns
      go_wp2
      go_ret2
      exact ds_right (by rw [HPR.out]; show momsO ps = _; exact HT2.out) rfl HBW.out (ints_own2 HOW.out)
theorem datesS_any (l : List UInt8) (w : World) (hl : l.length ≤ 1000000) : Calls Tryz.prog 51 #[.string (mkS l)] w (DatesSPost w (datesO l)) := by
  have hn := splitL_len 58 l
  unfold datesO
  cases hA : ascL l with
  | false => exact datesS_asc l w (by omega) hA
  | true =>
    rw [if_neg (by decide)]
    match h : splitL 58 l, hn with
    | [], _ => exact absurd h (splitL_ne _ _)
    | [a], _ => exact datesS_1 l a w (by omega) hA h
    | [q, a], _ => exact datesS_2 l q a w (by omega) hA h
    | a :: b :: c :: r, hn => exact datesS_3 l a b c r w (by omega) hA h (by simp at hn; omega)
set_option maxRecDepth 100000 in
set_option maxHeartbeats 1600000 in
/-- FnTextDatesAny: the walk. -/
theorem law_datesAny (hrule : RuleAny) (l : List UInt8) (w : World) (hG : Good w) :
    Calls Tryz.prog 18 #[.string (mkS l)] w fun e w' => e = .returned (.bool true) ∧ Below w.heap.size w w' := by
  have zl := size_mkS l
  have HG := Lib.hid hG
  have H19 := Lib.hid (fun w hG => awake_any hrule option_any w hG)
  clear hG hrule
  rcases Nat.lt_or_ge 2147483647 l.length with hlong | hle
  · have hd : decide ((2147483647 : Int) < (l.length : Int)) = true := by simp; omega
    go_enter Tryz.func18, Tryz.ntmps18
    go_wp2
    go_ret
    exact ⟨rfl, Below.refl _ _⟩
  have hd : decide ((2147483647 : Int) < (l.length : Int)) = false := by simp; omega
  rcases Nat.lt_or_ge 2000 l.length with hlong | hlen
  · have hd2 : decide ((2000 : Int) < (l.length : Int)) = true := by simp; omega
    go_enter Tryz.func18, Tryz.ntmps18
    go_wp2_with (first
      | (go_at_call 19; go_must (refine (H19.out _ HG.out).mono ?_; rintro e w1 ⟨rfl, hb1⟩))
      | (fail))
    go_ret
    exact ⟨rfl, hb1⟩
  have hd2 : decide ((2000 : Int) < (l.length : Int)) = false := by simp; omega
  have h51 := fun w => datesS_any l w (by omega)
  have h49 := fun w => datesOf_any l w (by omega)
  have hag := dates_agree l
  have htl := @datesT_len l
  cases ho : datesO l with
  | opn =>
    rw [ho] at h51
    have H51 := Lib.hid h51
    clear h51 h49 hag ho htl
    go_enter Tryz.func18, Tryz.ntmps18
    go_wp2_with (first
      | (go_at_call 51; go_must (refine (H51.out _).mono ?_; rintro e w1 ⟨hb1, rfl⟩; have HB1 := Lib.hid hb1; clear hb1))
      | (go_at_call 19; go_must (refine (H19.out _ (HG.out.below HB1.out)).mono ?_; rintro e w2 ⟨rfl, hb2⟩; have HB2 := Lib.hid (HB1.out.trans (hb2.mono HB1.out.size)); clear hb2))
      | (fail))
    go_ret
    exact ⟨rfl, HB2.out⟩
  | wrong =>
    rw [ho] at h51 hag
    have ht : datesT l = none := hag
    rw [ht] at h49
    have H51 := Lib.hid h51
    have H49 := Lib.hid h49
    clear h51 h49 hag ho ht htl
    go_enter Tryz.func18, Tryz.ntmps18
    go_wp2_with (first
      | (go_at_call 51; go_must (refine (H51.out _).mono ?_; rintro e w1 ⟨hb1, rfl⟩; have HB1 := Lib.hid hb1; clear hb1))
      | (go_at_call 49; go_must (refine (H49.out _).mono ?_; rintro e w3 ⟨hb3, rfl⟩; have HB3 := Lib.hid (HB1.out.trans (hb3.mono HB1.out.size)); clear hb3))
      | (go_at_call 19; go_must (refine (H19.out _ (HG.out.below HB3.out)).mono ?_; rintro e w2 ⟨rfl, hb2⟩; have HB2 := Lib.hid (HB3.out.trans (hb2.mono HB3.out.size)); clear hb2))
      | (fail))
    go_ret
    exact ⟨rfl, HB2.out⟩
  | right xs =>
    rw [ho] at h51 hag
    have ht : datesT l = some (xs.map fun n => (n, 0)) := hag
    have hxl : xs.length ≤ 1000000001 := by
      have := htl ht
      rw [List.length_map] at this
      omega
    rw [ht] at h49
    have H51 := Lib.hid h51
    have H49 : Hid (∀ w, Calls Tryz.prog 49 #[.string (mkS l)] w fun e w' => Below w.heap.size w w' ∧ ∃ v, e = .returned (.tuple #[v, .bool true]) ∧ IntsV w' v xs) := Lib.hid (fun w => (h49 w).mono fun e w' ⟨a, v, b, c⟩ => ⟨a, v, b, by rw [List.map_map] at c; simpa [Function.comp_def] using c⟩)
    clear h51 h49 hag ho ht htl
    go_enter Tryz.func18, Tryz.ntmps18
    go_wp2_with (first
      | (go_at_call 51; go_must (refine (H51.out _).mono ?_; rintro e w1 ⟨hb1, v1, rfl, hv1⟩; have HB1 := Lib.hid hb1; have HV1 := Lib.hid hv1; clear hb1 hv1))
      | (go_at_call 49; go_must (refine (H49.out _).mono ?_; rintro e w3 ⟨hb3, v3, rfl, hv3⟩; have HB3 := Lib.hid (HB1.out.trans (hb3.mono HB1.out.size)); have HV3 := Lib.hid hv3; have HV1b := Lib.hid (HV1.out.below hb3); clear hb3 hv3))
      | (go_at_call 19; go_must (refine (H19.out _ (HG.out.below HB3.out)).mono ?_; rintro e w2 ⟨rfl, hb2⟩; have HB2 := Lib.hid (HB3.out.trans (hb2.mono HB3.out.size)); have HV3b := Lib.hid (HV3.out.below hb2); have HV1c := Lib.hid (HV1b.out.below hb2); clear hb2))
      | (go_at_call 50; go_must (refine (sameMoms_any xs _ _ _ HV3b.out HV1c.out hxl).mono ?_; rintro e w4 ⟨rfl, q, rfl⟩))
      | (fail))
    go_ret
    exact ⟨rfl, bdrewN HB2.out _⟩
end Go.Proofs.YtcfbkkcamiephaaGreatDoor
