import Derived.Test.YtcfbkkcamiephaaGreatDoorK2
import Derived.Test.YtcfbkkcamiephaaGreatDoorF10
import Derived.Test.YtcfbkkcamiephaaGreatDoorC8
import Derived.Test.YtcfbkkcamiephaaGreatDoorU1
namespace Go.Proofs.YtcfbkkcamiephaaGreatDoor
open Go.RowKit

/-! ### StrToDates -/
def TimesPost (w : World) (R : Option (List (Int × Int))) (e : Ending) (w' : World) : Prop := Below w.heap.size w w' ∧ match R with
  | none => ∃ T p, e = .returned (.tuple #[.slice none 0 0, .iface T (.pointer (some p))])
  | some xs => ∃ v, e = .returned (.tuple #[v, .nilIface]) ∧ DaysV w' v xs
theorem times_no {w w' : World} {R : Option (List (Int × Int))} {e : Ending} {T : TypeId} {p : Addr} (h : R = none) (he : e = .returned (.tuple #[.slice none 0 0, .iface T (.pointer (some p))])) (hb : Below w.heap.size w w') : TimesPost w R e w' := by
  rw [h]; exact ⟨hb, T, p, he⟩
theorem times_ok {w w' : World} {R : Option (List (Int × Int))} {xs : List (Int × Int)} {e : Ending} {v : Value} (h : R = some xs) (he : e = .returned (.tuple #[v, .nilIface])) (hb : Below w.heap.size w w') (hv : DaysV w' v xs) : TimesPost w R e w' := by
  rw [h]; exact ⟨hb, v, he, hv⟩
theorem Tryz.i101 : (Tryz.prog.info? 101).map (fun i => (i.zero, i.size, i.bytes)) = some (some (.agg #[.int .i64 0, .int .i64 0]), 2, 16) := by kernel_rfl
theorem Tryz.u125 : Tryz.prog.underlying 125 = some (.slice 101) := by kernel_rfl
theorem own_bel {W w' : World} {base : Nat} {e : TypeId} {size : Nat} {v : Value} {n : Nat} {xs : List Value} (h : W.ownsRow base e size v n xs) (hb : Below W.heap.size W w') : w'.ownsRow base e size v n xs := by
  refine World.ownsRow.kept (row := none) h ⟨hb.os, hb.tape, hb.output, hb.size, fun i hi _ => hb.block i hi⟩ ?_
  by_cases hh : v.ownBlock = none
  · exact .inl hh
  · exact .inr hh
theorem flat2_app (xs : List (Int × Int)) (a b : Int) : flat2 (xs ++ [(a, b)]) = flat2 xs ++ [.int .i64 a, .int .i64 b] := by simp [flat2, enc2]
theorem dates_3 (l a b c : List UInt8) (r : List (List UInt8)) (w : World) (hl : l.length ≤ 1000000000) (hS : splitL 58 l = a :: b :: c :: r) (_hr : r.length ≤ 1000000000) :
    Calls Tryz.prog 111 #[.string (mkS l), .agg #[]] w (TimesPost w none) := by
  have hsp := fun w => zzSplit_any (mkS l) 58 w (by rw [size_mkS]; omega)
  rw [mkS_data, hS] at hsp
  have H := Lib.hid hsp; clear hsp hS
  go_enter Tryz.func111, Tryz.ntmps111
  go_wp2_with (first
    | (go_at_call 107; go_must (refine (H.out _).mono ?_; rintro e w1 ⟨g, cc, rfl, hg, hrow, hb1⟩))
    | (go_at_call 108; go_must (refine (errNew_any _ _).mono ?_; rintro e w2 ⟨T, p, rfl, hb2⟩))
    | (fail))
  go_ret2
  have hal : Below w.heap.size w (w.alloc (.cells #[] 120)) := (Below.refl _ _).alloc (Nat.le_refl _) _
  have h1 := hal.trans (hb1.mono hal.size)
  exact times_no rfl rfl (h1.trans (hb2.mono h1.size))
set_option maxRecDepth 100000 in
set_option maxHeartbeats 3200000 in
theorem dates_1 (l a : List UInt8) (w : World) (hl : l.length ≤ 1000000000) (hS : splitL 58 l = [a]) :
    Calls Tryz.prog 111 #[.string (mkS l), .agg #[]] w (TimesPost w (timesL (splitL 44 a))) := by
  have hla : a.length ≤ 1000000000 := Nat.le_trans (split_len (c := 58) (l := l) (by rw [hS]; simp)) hl
  have hsp := fun w => zzSplit_any (mkS l) 58 w (by rw [size_mkS]; omega)
  rw [mkS_data, hS] at hsp
  have H := Lib.hid hsp; clear hsp hS
  have hal0 : Below w.heap.size w (w.alloc (.cells #[] 120)) := (Below.refl _ _).alloc (Nat.le_refl _) _
  go_enter Tryz.func111, Tryz.ntmps111
  go_upto_region 18 with (first
    | (go_at_call 107; go_must (refine (H.out _).mono ?_; rintro e w1 ⟨g, cc, rfl, hg, hrow, hb1⟩))
    | (fail))
  change Code.wp _ _ _ _ (w1.alloc (.cells #[] 120))
  have hal1 : Below w1.heap.size w1 (w1.alloc (.cells #[] 120)) := (Below.refl _ _).alloc (Nat.le_refl _) _
  have h1 := hal0.trans (hb1.mono hal0.size)
  have HBX : Hid (Below w.heap.size w (w1.alloc (.cells #[] 120))) := Lib.hid (h1.trans (hal1.mono h1.size))
  have hca := cell_below hal1 (hrow.cell 0 (mkS a) rfl)
  clear hal0 hal1 h1 hb1 hrow
  generalize w1.alloc (.cells #[] 120) = W1 at *
  have hps : (splitL 44 a).length ≤ 1000000001 := Nat.le_trans (splitL_len 44 a) (by omega)
  have HP : Hid (∀ p ∈ splitL 44 a, p.length ≤ 1000000000) := Lib.hid (fun _ hp => Nat.le_trans (split_len hp) hla)
  have hsp2 := fun w => zzSplit_any (mkS a) 44 w (by rw [size_mkS]; omega)
  rw [mkS_data] at hsp2
  have H44 := Lib.hid hsp2
  clear hsp2
  generalize splitL 44 a = ps at *
  go_wp2_with (first
    | (go_at_call 107; go_must (refine (H44.out _).mono ?_; rintro e w3 ⟨g2, cc2, rfl, hg2, hrow2, hb3⟩; rw [List.length_map]))
    | (fail))
  have HB3 : Hid (Below w.heap.size w w3) := Lib.hid (HBX.out.trans (hb3.mono HBX.out.size))
  have HROW2 := Lib.hid hrow2
  obtain ⟨N1, hN1⟩ : ∃ N1 : Nat, N1 = w3.heap.size := ⟨_, rfl⟩
  have HN1 := Lib.hid hN1
  have hNw : w.heap.size ≤ N1 := by rw [hN1]; exact HB3.out.size
  clear hb3 hrow2 hN1 H44 HBX hca
  go_loopw [4, 5, 60] (fun v ev i wr => ∃ (k : Nat) (ns : List (Int × Int)), k ≤ ps.length ∧ i = .int .i64 k ∧ ev = .nilIface ∧ ns.length = k ∧ Hid (wr.ownsRow N1 101 2 v ns.length (flat2 ns)) ∧ Hid (timesL ps = (timesL (ps.drop k)).map (ns ++ ·)) ∧ Hid (Below N1 w3 wr)) (fun _ _ i _ => ps.length - (intOf i).toNat)
  case atStart => exact ⟨0, [], by omega, rfl, rfl, rfl, Lib.hid (World.ownsRow_nil _ _ _ _), by unfold Hid; simp, Lib.hid (Below.refl _ _)⟩
  case round =>
    obtain ⟨k, ns, hk, rfl, rfl, hns, HOW, hT, HB⟩ := hrel
    have hs : StrRow wr g2 cc2 (ps.map mkS) := HROW2.out.below (by rw [← HN1.out]; exact HB.out)
    have hbz : N1 ≤ wr.heap.size := by rw [HN1.out]; exact HB.out.size
    have HBW : Hid (Below w.heap.size w wr) := Lib.hid (HB3.out.trans (HB.out.mono hNw))
    by_cases hlt : k < ps.length
    · have hcell := hs.cell k (mkS ps[k]) (by simp [hlt])
      have hT2 := hT.out
      rw [List.drop_eq_getElem_cons hlt] at hT2
      simp only [timesL] at hT2
      have hat := fun w => strToTime_any ps[k] w (HP.out _ (List.getElem_mem hlt))
      generalize ps[k] = p at hcell hT2 hat
      have hlk : ns.length ≤ 1000000000000 := by omega
      clear hs
      cases hA : timeT p with
      | none =>
        rw [hA] at hT2 hat
        have HAT := Lib.hid hat
        have HT2 : Hid (timesL ps = none) := Lib.hid hT2
        clear hat hA hT hT2 hns
        go_wp2_with (first
          | (go_at_call 110; go_must (refine (HAT.out _).mono ?_; rintro e w4 ⟨s, n, ev, rfl, hb4, rfl, rfl, T, p1, rfl⟩))
          | (go_at_call 108; go_must (refine (errNew_any _ _).mono ?_; rintro e w5 ⟨T2, p2, rfl, hb5⟩))
          | (fail))
        go_ret2
        have h4 := HBW.out.trans (hb4.mono HBW.out.size)
        have h4a : Below w.heap.size w (w4.alloc (.cells #[.int .i64 0, .int .i64 0] 101)) := h4.alloc h4.size _
        exact times_no (by skip; exact HT2.out) rfl (h4a.trans (hb5.mono h4a.size))
      | some x =>
        obtain ⟨xs, xn⟩ := x
        rw [hA] at hT2 hat
        have HAT := Lib.hid hat
        have HT2 : Hid (timesL ps = (timesL (ps.drop (k + 1))).map ((ns ++ [(xs, xn)]) ++ ·)) := Lib.hid (by
          rw [hT2]; simp [Option.map_map, Function.comp_def])
        have HNS := Lib.hid hns
        clear hat hA hT hT2 hns
        go_upto_region 24 with (first
          | (go_at_call 110; go_must (refine (HAT.out _).mono ?_; rintro e w4 ⟨s, n, ev, rfl, hb4, rfl, rfl, rfl⟩))
          | (fail))
        change Code.wp _ _ _ _ (w4.alloc (.cells #[.int .i64 s, .int .i64 n] 101))
        have hal : Below w4.heap.size w4 (w4.alloc (.cells #[.int .i64 s, .int .i64 n] 101)) := (Below.refl _ _).alloc (Nat.le_refl _) _
        have h4 : Below N1 w3 w4 := HB.out.trans (hb4.mono hbz)
        have hbA : Below N1 w3 (w4.alloc (.cells #[.int .i64 s, .int .i64 n] 101)) := h4.trans (hal.mono (by rw [HN1.out]; exact h4.size))
        have hownA := own_bel (own_bel HOW.out hb4) hal
        have hrA : RowAt (w4.alloc (.cells #[.int .i64 s, .int .i64 n] 101)) w4.heap.size 101 [.int .i64 s, .int .i64 n] := ⟨by rw [heap_alloc_new]⟩
        have hzA : N1 ≤ (w4.alloc (.cells #[.int .i64 s, .int .i64 n] 101)).heap.size := by rw [HN1.out]; exact hbA.size
        have hq0 := hrA.cell 0 (v := .int .i64 s) rfl
        have hq1 := hrA.cell 1 (v := .int .i64 n) rfl
        have HBA := Lib.hid hbA
        have HOA := Lib.hid hownA
        clear hbA hownA hrA hal h4 hb4 HOW HB HBW
        generalize w4.alloc (.cells #[.int .i64 s, .int .i64 n] 101) = W4 at *
        generalize w4.heap.size = n4 at *
        go_wp2_with (first
          | (at_builtin; go_must (refine app2 N1 _ _ 125 (.agg #[.int .i64 0, .int .i64 0]) 16 Tryz.u125 Tryz.i101 rfl HOA.out HBA.out hzA hlk (by omega) rfl rfl rfl rfl rfl ?_); intro v1 w6 hown' hb6 hsz6)
          | (fail))
        have HO6 := Lib.hid hown'
        have HB6 := Lib.hid hb6
        go_roundw
        case rel => exact ⟨k + 1, ns ++ [(s, n)], by omega, by go_num, rfl, by rw [List.length_append, HNS.out]; rfl, Lib.hid (by rw [flat2_app, List.length_append]; exact HO6.out), HT2, HB6⟩
        case measure => simp [intOf]; omega
    · obtain rfl : k = ps.length := by omega
      have HT2 : Hid (timesL ps = some ns) := Lib.hid (by rw [hT.out, List.drop_length]; simp [timesL])
      clear hT hns
      go_wp2
      go_ret2
      exact times_ok (by skip; exact HT2.out) rfl HBW.out (days_own HOW.out)
set_option maxRecDepth 100000 in
set_option maxHeartbeats 3200000 in
theorem dates_2 (l q a : List UInt8) (w : World) (hl : l.length ≤ 1000000000) (hS : splitL 58 l = [q, a]) :
    Calls Tryz.prog 111 #[.string (mkS l), .agg #[]] w (TimesPost w (if (splitL 59 q).all parOk then timesL (splitL 44 a) else none)) := by
  have hlq : q.length ≤ 1000000000 := Nat.le_trans (split_len (c := 58) (l := l) (by rw [hS]; simp)) hl
  have hla : a.length ≤ 1000000000 := Nat.le_trans (split_len (c := 58) (l := l) (by rw [hS]; simp)) hl
  have hsp := fun w => zzSplit_any (mkS l) 58 w (by rw [size_mkS]; omega)
  rw [mkS_data, hS] at hsp
  have H := Lib.hid hsp; clear hsp hS
  have hqs : (splitL 59 q).length ≤ 1000000001 := Nat.le_trans (splitL_len 59 q) (by omega)
  have HQ : Hid (∀ p ∈ splitL 59 q, p.length ≤ 1000000000) := Lib.hid (fun _ hp => Nat.le_trans (split_len hp) hlq)
  have hsp1 := fun w => zzSplit_any (mkS q) 59 w (by rw [size_mkS]; omega)
  rw [mkS_data] at hsp1
  have H59 := Lib.hid hsp1
  clear hsp1
  generalize splitL 59 q = qs at *
  obtain ⟨R, hR⟩ : ∃ R, R = (if qs.all parOk then timesL (splitL 44 a) else none) := ⟨_, rfl⟩
  rw [← hR]
  have HR := Lib.hid hR
  clear hR
  have hal0 : Below w.heap.size w (w.alloc (.cells #[] 120)) := (Below.refl _ _).alloc (Nat.le_refl _) _
  go_enter Tryz.func111, Tryz.ntmps111
  go_upto_region 6 with (first
    | (go_at_call 107; go_must (refine (H.out _).mono ?_; rintro e w1 ⟨g, cc, rfl, hg, hrow, hb1⟩))
    | (fail))
  change Code.wp _ _ _ _ (w1.alloc (.cells #[] 120))
  have hal1 : Below w1.heap.size w1 (w1.alloc (.cells #[] 120)) := (Below.refl _ _).alloc (Nat.le_refl _) _
  have h1 := hal0.trans (hb1.mono hal0.size)
  have HBP : Hid (Below w.heap.size w (w1.alloc (.cells #[] 120))) := Lib.hid (h1.trans (hal1.mono h1.size))
  have hrow := hrow.below hal1
  have hcq := hrow.cell 0 (mkS q) rfl
  have hcap := hrow.cap
  simp only [List.length_map, List.length_cons, List.length_nil] at hcap
  have HROW := Lib.hid hrow
  clear hal0 hal1 h1 hb1 hrow
  generalize w1.alloc (.cells #[] 120) = W1 at *
  go_wp2_with (first
    | (go_at_call 107; go_must (refine (H59.out _).mono ?_; rintro e w2 ⟨g1, cc1, rfl, hg1, hrow1, hb2⟩; rw [List.length_map]))
    | (fail))
  have HB2 : Hid (Below w.heap.size w w2) := Lib.hid (HBP.out.trans (hb2.mono HBP.out.size))
  have HROWa := Lib.hid (HROW.out.below hb2)
  have HROW1 := Lib.hid hrow1
  clear hb2 hrow1 hcq HROW HBP H59 H
  go_loopw [4, 5, 31] (fun v ev i wr => ∃ k : Nat, k ≤ qs.length ∧ v = .slice none 0 0 ∧ i = .int .i64 k ∧ ev = .nilIface ∧ Hid ((qs.take k).all parOk = true) ∧ Hid (Below w2.heap.size w2 wr)) (fun _ _ i _ => qs.length - (intOf i).toNat)
  case atStart => exact ⟨0, by omega, rfl, rfl, rfl, Lib.hid rfl, Lib.hid (Below.refl _ _)⟩
  case round =>
  obtain ⟨k, hk, rfl, rfl, rfl, HOK, HB⟩ := hrel
  have HBW : Hid (Below w.heap.size w wr) := Lib.hid (HB2.out.trans (HB.out.mono HB2.out.size))
  by_cases hlt : k < qs.length
  case pos =>
    have hcell := (HROW1.out.below HB.out).cell k (mkS qs[k]) (by simp [hlt])
    have HN : Hid (parOk qs[k] = true → (qs.take (k + 1)).all parOk = true) := Lib.hid (fun h => by rw [List.take_succ_eq_append_getElem hlt, List.all_append, HOK.out]; simp [h])
    have HF : Hid (parOk qs[k] = false → qs.all parOk = false) := Lib.hid (fun h => by
      rw [Bool.eq_false_iff]
      intro h2
      rw [List.all_eq_true.1 h2 _ (List.getElem_mem hlt)] at h
      cases h)
    have hpl := HQ.out _ (List.getElem_mem hlt)
    clear HOK
    generalize qs[k] = p at *
    cases hp : Lib.hasPrefix p tzid with
    | true =>
      have HPX : Hid (Lib.hasPrefix p [84, 90, 73, 68, 61] = true) := Lib.hid hp
      cases ht : tzOk p with
      | true =>
        have HNx := Lib.hid (HN.out (by unfold parOk; rw [hp]; exact ht))
        have hT := fun w => tzid_any p w hpl
        rw [ht] at hT
        have HT := Lib.hid hT
        clear hT ht hp HN HF
        go_wp2_with (first
          | (go_at_call 142; go_must (refine (Tryz.strings_HasPrefix _ _ _).mono ?_; rintro e w' ⟨rfl, rfl⟩; rw [mkS_data, HPX.out]))
          | (go_at_call 109; go_must (refine (HT.out _).mono ?_; rintro e w4 ⟨ev, rfl, hb4, rfl⟩; have HB4 := Lib.hid (HB.out.trans (hb4.mono HB.out.size)); clear hb4))
          | (fail))
        go_roundw
        case rel => exact ⟨k + 1, by omega, rfl, by go_num, rfl, HNx, HB4⟩
        case measure => simp [intOf]; omega
      | false =>
        have HFx := Lib.hid (HF.out (by unfold parOk; rw [hp]; exact ht))
        have hT := fun w => tzid_any p w hpl
        rw [ht] at hT
        have HT := Lib.hid hT
        clear hT ht hp HN HF
        go_wp2_with (first
          | (go_at_call 142; go_must (refine (Tryz.strings_HasPrefix _ _ _).mono ?_; rintro e w' ⟨rfl, rfl⟩; rw [mkS_data, HPX.out]))
          | (go_at_call 109; go_must (refine (HT.out _).mono ?_; rintro e w4 ⟨ev, rfl, hb4, T, p1, rfl⟩; have HB4 := Lib.hid (HBW.out.trans (hb4.mono HBW.out.size)); clear hb4))
          | (go_at_call 108; go_must (refine (errNew_any _ _).mono ?_; rintro e w5 ⟨T2, p2, rfl, hb5⟩))
          | (fail))
        go_ret2
        exact times_no (by rw [HR.out, HFx.out]; rfl) rfl (HB4.out.trans (hb5.mono HB4.out.size))
    | false =>
      have HPX : Hid (Lib.hasPrefix p [84, 90, 73, 68, 61] = false) := Lib.hid hp
      have tl := toList_mkS p
      cases h1 : p == vdt with
      | true =>
        have HNx := Lib.hid (HN.out (by unfold parOk; rw [hp, h1]; rfl))
        have e1 : p = vdt := by simpa using h1
        subst e1
        clear HN HF h1 hp
        go_wp2_with (first
          | (go_at_call 142; go_must (refine (Tryz.strings_HasPrefix _ _ _).mono ?_; rintro e w' ⟨rfl, rfl⟩; rw [mkS_data, HPX.out]))
          | (fail))
        go_roundw
        case rel => exact ⟨k + 1, by omega, rfl, by go_num, rfl, HNx, HB⟩
        case measure => simp [intOf]; omega
      | false =>
        cases h2 : p == vd with
        | true =>
          have HNx := Lib.hid (HN.out (by unfold parOk; rw [hp, h1, h2]; rfl))
          have e1 : p = vd := by simpa using h2
          subst e1
          clear HN HF h1 h2 hp
          go_wp2_with (first
            | (go_at_call 142; go_must (refine (Tryz.strings_HasPrefix _ _ _).mono ?_; rintro e w' ⟨rfl, rfl⟩; rw [mkS_data, HPX.out]))
            | (fail))
          go_roundw
          case rel => exact ⟨k + 1, by omega, rfl, by go_num, rfl, HNx, HB⟩
          case measure => simp [intOf]; omega
        | false =>
          have HFx := Lib.hid (HF.out (by unfold parOk; rw [hp, h1, h2]; rfl))
          have n1 : (!(p == [86, 65, 76, 85, 69, 61, 68, 65, 84, 69, 45, 84, 73, 77, 69])) = true := by rw [show (p == [86, 65, 76, 85, 69, 61, 68, 65, 84, 69, 45, 84, 73, 77, 69]) = false from h1]; rfl
          have n2 : (!(p == [86, 65, 76, 85, 69, 61, 68, 65, 84, 69])) = true := by rw [show (p == [86, 65, 76, 85, 69, 61, 68, 65, 84, 69]) = false from h2]; rfl
          clear HN HF h1 h2 hp
          go_wp2_with (first
            | (go_at_call 142; go_must (refine (Tryz.strings_HasPrefix _ _ _).mono ?_; rintro e w' ⟨rfl, rfl⟩; rw [mkS_data, HPX.out]))
            | (go_at_call 108; go_must (first
              | (refine (errNew_any ⟨#[117, 110, 115, 117, 112, 112, 111, 114, 116, 101, 100, 58, 32, 37, 118]⟩ _).mono ?_; rintro e w4 ⟨T1, p1, rfl, hb4⟩; have HB4 := Lib.hid (HBW.out.trans (hb4.mono HBW.out.size)); clear hb4)
              | (refine (errNew_any _ _).mono ?_; rintro e w5 ⟨T2, p2, rfl, hb5⟩)))
            | (fail))
          go_ret2
          exact times_no (by rw [HR.out, HFx.out]; rfl) rfl (HB4.out.trans (hb5.mono HB4.out.size))
  case neg =>
  obtain rfl : k = qs.length := by omega
  rw [List.take_length] at HOK
  have hca := ((HROWa.out.below HB.out).cell 1 (mkS a) rfl)
  have HBX := HBW
  have hc1 : ¬ cc = 1 := by omega
  have hc2 : (1 : Int) ≤ (cc : Int) := by omega
  clear HB HB2 HROW1 HROWa HQ hlt hk
  have hps : (splitL 44 a).length ≤ 1000000001 := Nat.le_trans (splitL_len 44 a) (by omega)
  have HP : Hid (∀ p ∈ splitL 44 a, p.length ≤ 1000000000) := Lib.hid (fun _ hp => Nat.le_trans (split_len hp) hla)
  have hsp2 := fun w => zzSplit_any (mkS a) 44 w (by rw [size_mkS]; omega)
  rw [mkS_data] at hsp2
  have H44 := Lib.hid hsp2
  clear hsp2
  generalize splitL 44 a = ps at *
  go_wp2_with (first
    | (go_at_call 107; go_must (refine (H44.out _).mono ?_; rintro e w3 ⟨g2, cc2, rfl, hg2, hrow2, hb3⟩; rw [List.length_map]))
    | (fail))
  have HB3 : Hid (Below w.heap.size w w3) := Lib.hid (HBX.out.trans (hb3.mono HBX.out.size))
  have HROW2 := Lib.hid hrow2
  obtain ⟨N1, hN1⟩ : ∃ N1 : Nat, N1 = w3.heap.size := ⟨_, rfl⟩
  have HN1 := Lib.hid hN1
  have hNw : w.heap.size ≤ N1 := by rw [hN1]; exact HB3.out.size
  clear hb3 hrow2 hN1 H44 HBX hca
  go_loopw [4, 5, 60] (fun v ev i wr => ∃ (k : Nat) (ns : List (Int × Int)), k ≤ ps.length ∧ i = .int .i64 k ∧ ev = .nilIface ∧ ns.length = k ∧ Hid (wr.ownsRow N1 101 2 v ns.length (flat2 ns)) ∧ Hid (timesL ps = (timesL (ps.drop k)).map (ns ++ ·)) ∧ Hid (Below N1 w3 wr)) (fun _ _ i _ => ps.length - (intOf i).toNat)
  case atStart => exact ⟨0, [], by omega, rfl, rfl, rfl, Lib.hid (World.ownsRow_nil _ _ _ _), by unfold Hid; simp, Lib.hid (Below.refl _ _)⟩
  case round =>
    obtain ⟨k, ns, hk, rfl, rfl, hns, HOW, hT, HB⟩ := hrel
    have hs : StrRow wr g2 cc2 (ps.map mkS) := HROW2.out.below (by rw [← HN1.out]; exact HB.out)
    have hbz : N1 ≤ wr.heap.size := by rw [HN1.out]; exact HB.out.size
    have HBW : Hid (Below w.heap.size w wr) := Lib.hid (HB3.out.trans (HB.out.mono hNw))
    by_cases hlt : k < ps.length
    · have hcell := hs.cell k (mkS ps[k]) (by simp [hlt])
      have hT2 := hT.out
      rw [List.drop_eq_getElem_cons hlt] at hT2
      simp only [timesL] at hT2
      have hat := fun w => strToTime_any ps[k] w (HP.out _ (List.getElem_mem hlt))
      generalize ps[k] = p at hcell hT2 hat
      have hlk : ns.length ≤ 1000000000000 := by omega
      clear hs
      cases hA : timeT p with
      | none =>
        rw [hA] at hT2 hat
        have HAT := Lib.hid hat
        have HT2 : Hid (timesL ps = none) := Lib.hid hT2
        clear hat hA hT hT2 hns
        go_wp2_with (first
          | (go_at_call 110; go_must (refine (HAT.out _).mono ?_; rintro e w4 ⟨s, n, ev, rfl, hb4, rfl, rfl, T, p1, rfl⟩))
          | (go_at_call 108; go_must (refine (errNew_any _ _).mono ?_; rintro e w5 ⟨T2, p2, rfl, hb5⟩))
          | (fail))
        go_ret2
        have h4 := HBW.out.trans (hb4.mono HBW.out.size)
        have h4a : Below w.heap.size w (w4.alloc (.cells #[.int .i64 0, .int .i64 0] 101)) := h4.alloc h4.size _
        exact times_no (by rw [HR.out, HOK.out, if_pos rfl]; exact HT2.out) rfl (h4a.trans (hb5.mono h4a.size))
      | some x =>
        obtain ⟨xs, xn⟩ := x
        rw [hA] at hT2 hat
        have HAT := Lib.hid hat
        have HT2 : Hid (timesL ps = (timesL (ps.drop (k + 1))).map ((ns ++ [(xs, xn)]) ++ ·)) := Lib.hid (by
          rw [hT2]; simp [Option.map_map, Function.comp_def])
        have HNS := Lib.hid hns
        clear hat hA hT hT2 hns
        go_upto_region 24 with (first
          | (go_at_call 110; go_must (refine (HAT.out _).mono ?_; rintro e w4 ⟨s, n, ev, rfl, hb4, rfl, rfl, rfl⟩))
          | (fail))
        change Code.wp _ _ _ _ (w4.alloc (.cells #[.int .i64 s, .int .i64 n] 101))
        have hal : Below w4.heap.size w4 (w4.alloc (.cells #[.int .i64 s, .int .i64 n] 101)) := (Below.refl _ _).alloc (Nat.le_refl _) _
        have h4 : Below N1 w3 w4 := HB.out.trans (hb4.mono hbz)
        have hbA : Below N1 w3 (w4.alloc (.cells #[.int .i64 s, .int .i64 n] 101)) := h4.trans (hal.mono (by rw [HN1.out]; exact h4.size))
        have hownA := own_bel (own_bel HOW.out hb4) hal
        have hrA : RowAt (w4.alloc (.cells #[.int .i64 s, .int .i64 n] 101)) w4.heap.size 101 [.int .i64 s, .int .i64 n] := ⟨by rw [heap_alloc_new]⟩
        have hzA : N1 ≤ (w4.alloc (.cells #[.int .i64 s, .int .i64 n] 101)).heap.size := by rw [HN1.out]; exact hbA.size
        have hq0 := hrA.cell 0 (v := .int .i64 s) rfl
        have hq1 := hrA.cell 1 (v := .int .i64 n) rfl
        have HBA := Lib.hid hbA
        have HOA := Lib.hid hownA
        clear hbA hownA hrA hal h4 hb4 HOW HB HBW
        generalize w4.alloc (.cells #[.int .i64 s, .int .i64 n] 101) = W4 at *
        generalize w4.heap.size = n4 at *
        go_wp2_with (first
          | (at_builtin; go_must (refine app2 N1 _ _ 125 (.agg #[.int .i64 0, .int .i64 0]) 16 Tryz.u125 Tryz.i101 rfl HOA.out HBA.out hzA hlk (by omega) rfl rfl rfl rfl rfl ?_); intro v1 w6 hown' hb6 hsz6)
          | (fail))
        have HO6 := Lib.hid hown'
        have HB6 := Lib.hid hb6
        go_roundw
        case rel => exact ⟨k + 1, ns ++ [(s, n)], by omega, by go_num, rfl, by rw [List.length_append, HNS.out]; rfl, Lib.hid (by rw [flat2_app, List.length_append]; exact HO6.out), HT2, HB6⟩
        case measure => simp [intOf]; omega
    · obtain rfl : k = ps.length := by omega
      have HT2 : Hid (timesL ps = some ns) := Lib.hid (by rw [hT.out, List.drop_length]; simp [timesL])
      clear hT hns
      go_wp2
      go_ret2
      exact times_ok (by rw [HR.out, HOK.out, if_pos rfl]; exact HT2.out) rfl HBW.out (days_own HOW.out)
theorem dates_any (l : List UInt8) (w : World) (hl : l.length ≤ 1000000) : Calls Tryz.prog 111 #[.string (mkS l), .agg #[]] w (TimesPost w (datesT l)) := by
  have hn := splitL_len 58 l
  unfold datesT
  match h : splitL 58 l, hn with
  | [], _ => exact absurd h (splitL_ne _ _)
  | [a], _ => exact dates_1 l a w (by omega) h
  | [q, a], _ => exact dates_2 l q a w (by omega) h
  | a :: b :: c :: r, hn => exact dates_3 l a b c r w (by omega) h (by simp at hn; omega)
set_option maxRecDepth 100000 in
theorem strToDates_any (l : List UInt8) (w : World) (hl : l.length ≤ 1000000) : Calls Tryz.prog 82 #[.string (mkS l)] w (TimesPost w (datesT l)) := by
  have H := Lib.hid (fun w => dates_any l w hl)
  have hal : Below w.heap.size w (w.alloc (.cells #[] 120)) := (Below.refl _ _).alloc (Nat.le_refl _) _
  generalize datesT l = R at *
  cases R with
  | none =>
    go_enter Tryz.func82, Tryz.ntmps82
    go_wp2_with (first
      | (go_at_call 78; go_must (refine (utc_any _).mono ?_; rintro e w1 ⟨rfl, rfl⟩))
      | (go_at_call 111; go_must (refine (H.out _).mono ?_; rintro e w2 ⟨hb2, T, p, rfl⟩))
      | (fail))
    go_ret2
    exact times_no rfl rfl (hal.trans (hb2.mono hal.size))
  | some ts =>
    go_enter Tryz.func82, Tryz.ntmps82
    go_wp2_with (first
      | (go_at_call 78; go_must (refine (utc_any _).mono ?_; rintro e w1 ⟨rfl, rfl⟩))
      | (go_at_call 111; go_must (refine (H.out _).mono ?_; rintro e w2 ⟨hb2, v, rfl, hv⟩))
      | (fail))
    go_ret2
    exact times_ok rfl rfl (hal.trans (hb2.mono hal.size)) hv
theorem Tryz.i2 : (Tryz.prog.info? 2).map (fun i => (i.zero, i.size, i.bytes)) = some (some (.int .i64 0), 1, 8) := by kernel_rfl
theorem Tryz.u49 : Tryz.prog.underlying 49 = some (.slice 2) := by kernel_rfl
theorem ints_own2 {w : World} {B : Nat} {t : TypeId} {v : Value} {zs : List Int} (h : w.ownsRow B t 1 v zs.length (zs.map intV)) : IntsV w v zs := by
  have h' := h
  obtain ⟨h1, h2⟩ := h
  rcases h2 with ⟨hv, h0⟩ | ⟨g, cap, cur, hv, hb, hh, hc, hm, hs, ht⟩
  · exact .inl ⟨List.eq_nil_of_length_eq_zero h0, hv⟩
  · refine .inr ⟨g, 0, cap, hv, hc, (Array.getElem?_eq_some_iff.1 hh).1, fun i p hp => ?_⟩
    have hcell := h'.cells (g := g) (by rw [hv]; rfl)
    rw [Nat.zero_add, ← add_pl0 g i]
    exact hcell i _ (by rw [List.getElem?_map, hp]; rfl)
theorem DaysV.form4 {w : World} {v : Value} {xs : List (Int × Int)} (h : DaysV w v xs) : ∃ a c, v = .slice a xs.length c ∧ (xs = [] ∨ ∃ g gq, a = some ⟨g, gq, none⟩ ∧ DayRowQ w g gq xs) := by
  rcases h with ⟨h0, h⟩ | ⟨g, gq, c, h, _, h2⟩
  · exact ⟨none, 0, by rw [h, h0]; rfl, .inl h0⟩
  · exact ⟨_, c, h, .inr ⟨g, gq, rfl, h2⟩⟩
set_option maxRecDepth 100000 in
set_option maxHeartbeats 1600000 in
theorem secs_any (ts : List (Int × Int)) (v : Value) (w : World) (hv : DaysV w v ts) (hl : ts.length ≤ 1000000001) :
    Calls Tryz.prog 83 #[v] w fun e w' => ∃ v', e = .returned v' ∧ Below w.heap.size w w' ∧ IntsV w' v' (ts.map (·.1)) := by
  obtain ⟨a, c, rfl, hr⟩ := hv.form4
  have HR := Lib.hid hr
  clear hr hv
  go_enter Tryz.func83, Tryz.ntmps83
  go_wp2
  go_loopw [3, 8] (fun v i wr => ∃ k : Nat, k ≤ ts.length ∧ i = .int .i64 k ∧ Hid (wr.ownsRow w.heap.size 2 1 v k (((ts.take k).map (·.1)).map intV)) ∧ Hid (Below w.heap.size w wr)) (fun _ i _ => ts.length - (intOf i).toNat)
  case atStart => exact ⟨0, by omega, rfl, Lib.hid (World.ownsRow_nil _ _ _ _), Lib.hid (Below.refl _ _)⟩
  case round =>
  obtain ⟨k, hk, rfl, HO, HB⟩ := hrel
  by_cases hlt : k < ts.length
  case neg =>
    obtain rfl : k = ts.length := by omega
    rw [List.take_length] at HO
    go_wp2
    go_ret
    exact ⟨_, rfl, HB.out, ints_own2 (by rw [List.length_map]; exact HO.out)⟩
  obtain ⟨g, gq, rfl, hg⟩ : ∃ g gq, a = some ⟨g, gq, none⟩ ∧ DayRowQ w g gq ts := by
    rcases HR.out with h | h
    · rw [h] at hlt; simp at hlt
    · exact h
  obtain ⟨hc0, hc1⟩ := (hg.below HB.out).cell k ts[k] (by simp [hlt])
  have HT : Hid (((ts.take (k + 1)).map (·.1)).map intV = ((ts.take k).map (·.1)).map intV ++ [intV ts[k].1]) := Lib.hid (by
    rw [List.take_succ_eq_append_getElem hlt, List.map_append, List.map_append]; rfl)
  have hbz := HB.out.size
  have hlk : k ≤ 1000000000000 := by omega
  generalize ts[k] = p at hc0 hc1 HT
  obtain ⟨s, n⟩ := p
  simp only at hc0 hc1 HT
  clear hg
  go_upto_region 5 with fail
  change Code.wp _ _ _ _ (wr.alloc (.cells #[.int .i64 s, .int .i64 n] 101))
  have hal : Below wr.heap.size wr (wr.alloc (.cells #[.int .i64 s, .int .i64 n] 101)) := (Below.refl _ _).alloc (Nat.le_refl _) _
  have hrA : RowAt (wr.alloc (.cells #[.int .i64 s, .int .i64 n] 101)) wr.heap.size 101 [.int .i64 s, .int .i64 n] := ⟨by rw [heap_alloc_new]⟩
  have hq0 := hrA.cell 0 (v := .int .i64 s) rfl
  have hq1 := hrA.cell 1 (v := .int .i64 n) rfl
  have HOA := Lib.hid (own_bel HO.out hal)
  have HBA : Hid (Below w.heap.size w (wr.alloc (.cells #[.int .i64 s, .int .i64 n] 101))) := Lib.hid (HB.out.trans (hal.mono HB.out.size))
  clear hal hrA HO HB hc0 hc1 hbz
  generalize wr.alloc (.cells #[.int .i64 s, .int .i64 n] 101) = W4 at *
  generalize wr.heap.size = n4 at *
  go_wp2_with (first
    | (go_at_call 79; go_must (refine (seconds_any s n _).mono ?_; rintro e w5 ⟨rfl, hb5⟩; have HO5 := Lib.hid (own_bel HOA.out hb5); have HB5 := Lib.hid (HBA.out.trans (hb5.mono HBA.out.size)); clear hb5))
    | (at_builtin; go_must (refine app1 w.heap.size _ _ 49 (.int .i64 0) 8 Tryz.u49 Tryz.i2 rfl rfl HO5.out HB5.out HB5.out.size hlk (by omega) rfl rfl rfl rfl ?_); intro v1 w6 hown' hb6 hsz6)
    | (fail))
  have HO6 := Lib.hid hown'
  have HB6 := Lib.hid hb6
  go_roundw
  case rel => exact ⟨k + 1, by omega, by go_num, Lib.hid (by rw [HT.out]; exact HO6.out), HB6⟩
  case measure => simp [intOf]; omega
/-- what impl.DatesOf gives back -/
def MomsPost (w : World) (R : Option (List (Int × Int))) (e : Ending) (w' : World) : Prop := Below w.heap.size w w' ∧ match R with
  | none => e = .returned (.tuple #[.slice none 0 0, .bool false])
  | some xs => ∃ v, e = .returned (.tuple #[v, .bool true]) ∧ IntsV w' v (xs.map (·.1))
theorem timesL_len {L : List (List UInt8)} {ts : List (Int × Int)} (h : timesL L = some ts) : ts.length = L.length := by
  induction L generalizing ts with
  | nil => simp only [timesL] at h; injection h with h; subst h; rfl
  | cons x r ih =>
    simp only [timesL] at h
    split at h
    · cases h
    · cases hr : timesL r with
      | none => rw [hr] at h; cases h
      | some u =>
        rw [hr] at h
        injection h with h
        subst h
        simp [ih hr]
theorem datesT_len {l : List UInt8} {ts : List (Int × Int)} (h : datesT l = some ts) : ts.length ≤ l.length + 1 := by
  unfold datesT at h
  split at h
  · rename_i a hS
    rw [timesL_len h]
    have h1 := splitL_len 44 a
    have h2 := split_len (c := 58) (l := l) (x := a) (by rw [hS]; simp)
    omega
  · rename_i q a hS
    split at h
    · rw [timesL_len h]
      have h1 := splitL_len 44 a
      have h2 := split_len (c := 58) (l := l) (x := a) (by rw [hS]; simp)
      omega
    · cases h
  · cases h
set_option maxRecDepth 100000 in
theorem datesOf_any (l : List UInt8) (w : World) (hl : l.length ≤ 1000000) : Calls Tryz.prog 49 #[.string (mkS l)] w (MomsPost w (datesT l)) := by
  have H := Lib.hid (fun w => strToDates_any l w hl)
  have hlen : ∀ ts, datesT l = some ts → ts.length ≤ 1000000001 := fun ts h => by have := datesT_len h; omega
  generalize datesT l = R at *
  cases R with
  | none =>
    go_enter Tryz.func49, Tryz.ntmps49
    go_wp2_with (first
      | (go_at_call 82; go_must (refine (H.out _).mono ?_; rintro e w2 ⟨hb2, T, p, rfl⟩))
      | (fail))
    go_ret2
    exact ⟨hb2, rfl⟩
  | some ts =>
    have hts := hlen ts rfl
    clear hlen
    go_enter Tryz.func49, Tryz.ntmps49
    go_wp2_with (first
      | (go_at_call 82; go_must (refine (H.out _).mono ?_; rintro e w2 ⟨hb2, v, rfl, hv⟩; have HV := Lib.hid hv; clear hv))
      | (go_at_call 83; go_must (refine (secs_any ts _ _ HV.out hts).mono ?_; rintro e w3 ⟨v', rfl, hb3, hv3⟩))
      | (fail))
    go_ret2
    exact ⟨hb2.trans (hb3.mono hb2.size), _, rfl, hv3⟩
end Go.Proofs.YtcfbkkcamiephaaGreatDoor
