import Derived.Test.YtcfbkkcamiephaaGreatDoorS1
import Derived.Test.YtcfbkkcamiephaaGreatDoorP1
namespace Go.Proofs.YtcfbkkcamiephaaGreatDoor
open Go.RowKit

/-! ### the reference's small readers of texts -/
theorem ascL_take_succ {l : List UInt8} {k : Nat} (h : k < l.length) : ascL (l.take (k + 1)) = (ascL (l.take k) && decide (l[k].toNat < 128)) := by
  unfold ascL; rw [List.take_succ_eq_append_getElem h, List.all_append]; simp
set_option maxRecDepth 100000 in
set_option maxHeartbeats 400000 in
/-- textASCII. -/
theorem ascii_any (l : List UInt8) (w : World) (hl : l.length ≤ 1000000000) : Calls Tryz.prog 53 #[.string (mkS l)] w fun e w' => e = .returned (.bool (ascL l)) ∧ w = w' := by
  have hsz := size_mkS l
  go_enter Tryz.func53, Tryz.ntmps53
  go_wp2
  go_loop [6] (fun i => ∃ k : Nat, k ≤ l.length ∧ i = .int .i64 k ∧ Hid (ascL (l.take k) = true)) (fun i => l.length - (intOf i).toNat)
  case atStart => exact ⟨0, by omega, rfl, Lib.hid rfl⟩
  case round =>
    obtain ⟨k, hk, rfl, HA⟩ := hrel
    by_cases hlt : k < l.length
    · have hx := idx_bt l k hlt (by rw [hsz]; exact hlt)
      have hs := ascL_take_succ hlt
      by_cases h128 : l[k].toNat < 128
      · have HS : Hid (ascL (l.take (k + 1)) = true) := Lib.hid (by rw [hs, HA.out]; simp [h128])
        clear hs
        generalize l[k] = c at *
        go_wp2
        go_round
        case rel => exact ⟨k + 1, by omega, by go_num, HS⟩
        case measure => simp [intOf]; omega
      · have HS : Hid (ascL l = false) := Lib.hid (by
          rw [Bool.eq_false_iff]
          intro h
          have := List.all_eq_true.1 h l[k] (List.getElem_mem hlt)
          simp at this; omega)
        clear hs
        generalize l[k] = c at *
        go_wp2
        go_ret
        exact ⟨by rw [HS.out]; rfl, rfl⟩
    · obtain rfl : k = l.length := by omega
      rw [List.take_length] at HA
      go_wp2
      go_ret
      exact ⟨by rw [HA.out]; rfl, rfl⟩

theorem idx_hit {c : UInt8} {l : List UInt8} {k : Nat} (h : k ≤ idx c l) (hk : l[k]? = some c) : idx c l = k := by
  rcases Nat.lt_or_ge k (idx c l) with h2 | h2
  · have := idx_before c l k h2; rw [hk] at this; simp at this
  · omega
theorem idx_miss {c : UInt8} {l : List UInt8} {k : Nat} (h : k ≤ idx c l) (hlt : k < l.length) (hk : l[k]? ≠ some c) : k + 1 ≤ idx c l := by
  rcases Nat.lt_or_ge k (idx c l) with h2 | h2
  · exact h2
  · have he : idx c l = k := by omega
    have := idx_at c l (by rw [he]; exact hlt)
    rw [he] at this; exact absurd this hk
set_option maxRecDepth 100000 in
set_option maxHeartbeats 1600000 in
/-- textSplit. -/
theorem splitS_any (l : List UInt8) (c : UInt8) (w : World) (hl : l.length ≤ 1000000000) :
    Calls Tryz.prog 54 #[.string (mkS l), .int .u8 c.toNat] w (SplitPost w ((splitL c l).map mkS)) := by
  have hsz := size_mkS l
  obtain ⟨i0, hi, hz0, hz1, hz2⟩ := info_parts Tryz.info9
  go_enter Tryz.func54, Tryz.ntmps54
  go_wp2
  have hown0 : (w.alloc (.cells #[] 9)).ownsRow w.heap.size 9 1 (.slice (some ⟨w.heap.size, 0, none⟩) 0 0) 0 [] := World.ownsRow_lit w #[] 0 (Nat.le_refl _) (by simp [maxLen]) rfl
  have hb0 : Below w.heap.size w (w.alloc (.cells #[] 9)) := (Below.refl _ _).alloc (Nat.le_refl _) _
  go_loopw [5, 6, 11] (fun v f i wr => ∃ (k q : Nat) (xs : List ByteArray), k ≤ l.length ∧ q ≤ k ∧ i = .int .i64 k ∧ f = .int .i64 q ∧ wr.ownsRow w.heap.size 9 1 v xs.length (xs.map Value.string) ∧ Below w.heap.size w wr ∧ Hid ((splitL c l).map mkS = xs ++ (splitL c (l.drop q)).map mkS) ∧ Hid (k - q ≤ idx c (l.drop q)) ∧ xs.length ≤ q) (fun _ _ i _ => l.length - (intOf i).toNat)
  case atStart => exact ⟨0, 0, [], by omega, by omega, rfl, rfl, hown0, hb0, Lib.hid (by simp), Lib.hid (by omega), by simp⟩
  case round =>
    clear hown0 hb0
    obtain ⟨k, q, xs, hk, hq, rfl, rfl, hown, hb, HS, HI, hxl⟩ := hrel
    have hbz := hb.size
    by_cases hlt : k < l.length
    · have hx := idx_bt l k hlt (by rw [hsz]; exact hlt)
      have hge : (l.drop q)[k - q]? = some l[k] := by rw [List.getElem?_drop, show q + (k - q) = k by omega, List.getElem?_eq_getElem hlt]
      have HGE := Lib.hid hge; clear hge
      have hex : (mkS l).extract q k = mkS ((l.drop q).take (k - q)) := by rw [extract_mkS, mkS_data]
      have hqz : (q : Int) ≤ (k : Int) := by omega
      have hkz : (k : Int) ≤ (l.length : Int) := by omega
      generalize l[k] = b at *
      by_cases hbc : b = c
      · subst hbc
        have hid := idx_hit HI.out HGE.out
        have HSP : Hid (splitL b (l.drop q) = (l.drop q).take (k - q) :: splitL b (l.drop (k + 1))) := Lib.hid (by
          rw [splitL_idx b (l.drop q) (by rw [hid, List.length_drop]; omega), hid, List.drop_drop, show q + (k - q + 1) = k + 1 by omega])
        clear hid
        have hq1 : ((b.toNat : Int) == (b.toNat : Int)) = true := by simp
        go_wp2_with (at_builtin; go_must (refine app1 w.heap.size _ _ 56 (.string ByteArray.empty) 16 Tryz.underlying56 Tryz.info9 rfl rfl hown hb hbz (by omega) (by omega) rfl rfl rfl rfl ?_); intro v' w3 hown' hb3 hsz3)
        go_roundw
        case rel =>
          exact ⟨k + 1, k + 1, xs ++ [mkS ((l.drop q).take (k - q))], by omega, by omega, by go_num, by go_num, by rw [List.map_append, List.length_append]; exact hown', hb3, Lib.hid (by rw [HS.out, HSP.out]; simp), Lib.hid (by omega), by simp; omega⟩
        case measure => simp [intOf]; omega
      · have hms : Hid (k + 1 - q ≤ idx c (l.drop q)) := Lib.hid (by
          have := idx_miss HI.out (by rw [List.length_drop]; omega) (by rw [HGE.out]; simpa using hbc)
          omega)
        have hq1 : ((b.toNat : Int) == (c.toNat : Int)) = false := by
          rw [beq_eq_false_iff_ne]
          intro h
          exact hbc (UInt8.toNat_inj.1 (by omega))
        clear hbc
        go_wp2
        go_roundw
        case rel => exact ⟨k + 1, q, xs, by omega, by omega, by go_num, rfl, hown, hb, HS, hms, hxl⟩
        case measure => simp [intOf]; omega
    · obtain rfl : k = l.length := by omega
      have HSP : Hid (splitL c (l.drop q) = [l.drop q]) := Lib.hid (splitL_none c (l.drop q) (by have := HI.out; rw [List.length_drop]; omega))
      have hex : (mkS l).extract q l.length = mkS (l.drop q) := by rw [extract_mkS, mkS_data, List.take_of_length_le (by simp)]
      have hqz : (q : Int) ≤ (l.length : Int) := by omega
      go_wp2_with (at_builtin; go_must (refine app1 w.heap.size _ _ 56 (.string ByteArray.empty) 16 Tryz.underlying56 Tryz.info9 rfl rfl hown hb hbz (by omega) (by omega) rfl rfl rfl rfl ?_); intro v' w3 hown' hb3 hsz3)
      obtain ⟨g, cc, rfl, hg, hrow⟩ := own_strRow (xs := xs ++ [mkS (l.drop q)]) (by rw [List.map_append]; exact hown') (by omega) (by omega)
      go_ret
      refine ⟨g, cc, ?_, hg, ?_, hb3⟩
      · rw [HS.out, HSP.out]; simp
      · rw [HS.out, HSP.out]; simpa using hrow
theorem prefix_eq (l p : List UInt8) : Lib.hasPrefix l p = (decide (p.length ≤ l.length) && l.take p.length == p) := by
  unfold Lib.hasPrefix
  rw [Bool.eq_iff_iff, List.isPrefixOf_iff_prefix]
  constructor
  · rintro ⟨r, rfl⟩; simp
  · intro h
    simp only [Bool.and_eq_true, decide_eq_true_eq, beq_iff_eq] at h
    refine ⟨l.drop p.length, ?_⟩
    have := List.take_append_drop p.length l
    rw [h.2] at this; exact this
set_option maxRecDepth 100000 in
set_option maxHeartbeats 1600000 in
/-- textBegins. -/
theorem begins_any (l p : List UInt8) (w : World) (_hl : l.length ≤ 1000000000) (_hp : p.length ≤ 1000) :
    Calls Tryz.prog 57 #[.string (mkS l), .string (mkS p)] w fun e w' => e = .returned (.bool (Lib.hasPrefix l p)) ∧ w = w' := by
  have zl := size_mkS l
  have zp := size_mkS p
  have HP := Lib.hid (prefix_eq l p)
  by_cases hlen : p.length ≤ l.length
  · have he : (mkS l).extract 0 p.length = mkS (l.take p.length) := by rw [extract_mkS, mkS_data]; simp
    have t1 := toList_mkS (l.take p.length)
    have t2 := toList_mkS p
    have HL : Hid (decide (p.length ≤ l.length) = true) := Lib.hid (by simpa using hlen)
    generalize hq : (l.take p.length == p) = q at *
    have HQ := Lib.hid hq; clear hq
    go_enter Tryz.func57, Tryz.ntmps57
    go_wp2
    go_ret
    exact ⟨by rw [HP.out, HL.out]; first | rfl | (rw [HQ.out]; rfl) | (simp [HQ.out]), rfl⟩
  · have HL : Hid (decide (p.length ≤ l.length) = false) := Lib.hid (by simpa using hlen)
    have hlt : l.length < p.length := by omega
    clear hlen
    go_enter Tryz.func57, Tryz.ntmps57
    go_wp2
    go_ret
    exact ⟨by rw [HP.out, HL.out]; rfl, rfl⟩
end Go.Proofs.YtcfbkkcamiephaaGreatDoor
namespace Go.Proofs.YtcfbkkcamiephaaGreatDoor
open Go.RowKit

/-! ### digits at a place; days of a date -/
def DigPost (w : World) (R : Option Int) (e : Ending) (w' : World) : Prop := e = .returned (.tuple #[.int .i64 (R.getD 0), .bool R.isSome]) ∧ w = w'
theorem sDig_no (l : List UInt8) (a n j : Nat) (hj : j < n) (h : l.length ≤ a + j) : sDig l a n = none := by
  unfold sDig takeD; rw [if_neg (by rw [List.length_drop]; omega)]; rfl
theorem sDig_bad (l : List UInt8) (a n j : Nat) (hj : j < n) (h : a + j < l.length) (hb : ¬ (48 ≤ l[a + j].toNat ∧ l[a + j].toNat ≤ 57)) : sDig l a n = none := by
  unfold sDig takeD
  rw [if_neg]; rfl
  rintro ⟨h1, h2⟩
  have := all_take_at h2 hj (by rw [List.length_drop]; omega)
  rw [List.getElem_drop] at this
  exact hb this
theorem sDig_yes (l : List UInt8) (a n : Nat) (h1 : a + n ≤ l.length) (h2 : ((l.drop a).take n).all isD = true) : sDig l a n = some (numFrom 0 ((l.drop a).take n)) := by
  unfold sDig takeD
  by_cases hn : n ≤ (l.drop a).length
  · rw [if_pos ⟨hn, h2⟩]; rfl
  · rw [List.length_drop] at hn; exact absurd (show n ≤ l.length - a by omega) hn
theorem dig_ok {w : World} {R : Option Int} {x : Int} {e : Ending} (h : R = some x) (he : e = .returned (.tuple #[.int .i64 x, .bool true])) : DigPost w R e w := by rw [h]; exact ⟨he, rfl⟩
theorem dig_fail {w : World} {R : Option Int} {e : Ending} (h : R = none) (he : e = .returned (.tuple #[.int .i64 0, .bool false])) : DigPost w R e w := by rw [h]; exact ⟨he, rfl⟩
set_option maxRecDepth 100000 in
set_option maxHeartbeats 1600000 in
theorem digitsAt_any (l : List UInt8) (a n : Nat) (w : World) (hl : l.length ≤ 1000000000) (ha : a ≤ 100) (hn : n ≤ 4) :
    Calls Tryz.prog 105 #[.string (mkS l), .int .i64 a, .int .i64 n] w (DigPost w (sDig l a n)) := by
  have hsz := size_mkS l
  generalize hR : sDig l a n = R
  have HR := Lib.hid hR; clear hR
  go_enter Tryz.func105, Tryz.ntmps105
  go_wp2
  go_loop [8, 9] (fun o i => ∃ j : Nat, j ≤ n ∧ i = .int .i64 ((a : Int) + j) ∧ o = .int .i64 (numFrom 0 ((l.drop a).take j)) ∧ Hid (((l.drop a).take j).all isD = true) ∧ Hid (j = 0 ∨ a + j ≤ l.length)) (fun _ i => a + n - (intOf i).toNat)
  case atStart => exact ⟨0, by omega, by simp, by simp [numFrom], Lib.hid rfl, Lib.hid (.inl rfl)⟩
  case round =>
    obtain ⟨j, hj, rfl, rfl, HA, HJ⟩ := hrel
    by_cases hlt : j < n
    · by_cases hin : a + j < l.length
      · have hx := idx_bt l (a + j) hin (by rw [hsz]; exact hin)
        have hb256 : l[a + j].toNat < 256 := l[a + j].toNat_lt
        have hnt : (((a : Int) + (j : Int)).toNat) = a + j := by omega
        by_cases hd : 48 ≤ l[a + j].toNat ∧ l[a + j].toNat ≤ 57
        · have hs1 : (l.drop a).take (j + 1) = (l.drop a).take j ++ [l[a + j]] := by
            rw [List.take_succ_eq_append_getElem (by rw [List.length_drop]; omega), List.getElem_drop]
          have HS : Hid (numFrom 0 ((l.drop a).take (j + 1)) = 10 * numFrom 0 ((l.drop a).take j) + ((l[a + j].toNat : Int) - 48)) := Lib.hid (by rw [hs1, numFrom_snoc])
          have HA2 : Hid (((l.drop a).take (j + 1)).all isD = true) := Lib.hid (by rw [hs1, List.all_append, HA.out]; simp [isD]; omega)
          have HJ2 : Hid (j + 1 = 0 ∨ a + (j + 1) ≤ l.length) := Lib.hid (.inr (by omega))
          obtain ⟨b1, b2⟩ := numFrom_bd 0 _ HA.out (by omega)
          have b3 : numFrom 0 ((l.drop a).take j) < 10000 := by
            have hle : ((l.drop a).take j).length ≤ 3 := by simp; omega
            have : (10 : Int) ^ ((l.drop a).take j).length ≤ 10 ^ 4 := by
              rcases (show ((l.drop a).take j).length = 0 ∨ ((l.drop a).take j).length = 1 ∨ ((l.drop a).take j).length = 2 ∨ ((l.drop a).take j).length = 3 from by omega) with h | h | h | h <;> rw [h] <;> decide
            omega
          obtain ⟨d1, d2⟩ := hd
          clear hs1 b2
          generalize l[a + j] = c at *
          generalize numFrom 0 ((l.drop a).take j) = N at *
          have hsub : IntKind.u8.wrap ((c.toNat : Int) - 48) = (c.toNat : Int) - 48 := IntWalk.u8_in _ (by omega)
          go_wp2
          go_round
          case rel => exact ⟨j + 1, by omega, by go_num, by rw [HS.out]; first | rfl | go_num, HA2, HJ2⟩
          case measure => simp [intOf]; omega
        · have HN : Hid (sDig l a n = none) := Lib.hid (sDig_bad l a n j hlt hin hd)
          generalize l[a + j] = c at *
          by_cases hd1 : c.toNat < 48
          · clear hd
            go_wp2
            go_ret2
            exact dig_fail (HR.out.symm.trans HN.out) rfl
          · have hd2 : 57 < c.toNat := by omega
            clear hd
            go_wp2
            go_ret2
            exact dig_fail (HR.out.symm.trans HN.out) rfl
      · have HN : Hid (sDig l a n = none) := Lib.hid (sDig_no l a n j hlt (by omega))
        go_wp2
        go_ret2
        exact dig_fail (HR.out.symm.trans HN.out) rfl
    · obtain rfl : j = n := by omega
      have HN : Hid (sDig l a j = some (numFrom 0 ((l.drop a).take j)) ∨ j = 0) := Lib.hid (by
        rcases HJ.out with h | h
        · exact .inr h
        · exact .inl (sDig_yes l a j h HA.out))
      have HN2 : Hid (R = some (numFrom 0 ((l.drop a).take j))) := Lib.hid (by
        rw [← HR.out]
        rcases HN.out with h | h
        · exact h
        · subst h; simp [sDig, takeD])
      go_wp2
      go_ret2
      exact dig_ok HN2.out rfl
def eraDays (y' m d : Int) : Int := y' / 400 * 146097 + ((y' - y' / 400 * 400) * 365 + (y' - y' / 400 * 400) / 4 - (y' - y' / 400 * 400) / 100 + ((153 * ((m + 9) % 12) + 2) / 5 + d - 1)) - 306
theorem eraDays_eq (y d : Int) (m : Nat) (hm : 1 ≤ m ∧ m ≤ 12) : eraDays (if (m : Int) ≤ 2 then y - 1 else y) m d = dayNum y m d := by
  have hmm : m = 1 ∨ m = 2 ∨ m = 3 ∨ m = 4 ∨ m = 5 ∨ m = 6 ∨ m = 7 ∨ m = 8 ∨ m = 9 ∨ m = 10 ∨ m = 11 ∨ m = 12 := by omega
  have h29 : mdays 2 y = if leapB y then 29 else 28 := rfl
  have hl : (if leapB y then (29 : Int) else 28) = 28 + ((y / 4 - (y - 1) / 4) - (y / 100 - (y - 1) / 100) + (y / 400 - (y - 1) / 400)) := by
    unfold leapB
    by_cases h : (y % 4 == 0 && (y % 100 != 0 || y % 400 == 0)) = true
    · rw [if_pos h]; simp at h; omega
    · rw [if_neg h]; simp at h; omega
  rw [hl] at h29
  unfold dayNum daysTo eraDays
  rcases hmm with rfl | rfl | rfl | rfl | rfl | rfl | rfl | rfl | rfl | rfl | rfl | rfl
  all_goals
    simp only [mcum, Int.toNat_natCast, show ((1 : Nat) : Int) - 1 = ((0 : Nat) : Int) from rfl, show ((2 : Nat) : Int) - 1 = ((1 : Nat) : Int) from rfl, show ((3 : Nat) : Int) - 1 = ((2 : Nat) : Int) from rfl, show ((4 : Nat) : Int) - 1 = ((3 : Nat) : Int) from rfl, show ((5 : Nat) : Int) - 1 = ((4 : Nat) : Int) from rfl, show ((6 : Nat) : Int) - 1 = ((5 : Nat) : Int) from rfl, show ((7 : Nat) : Int) - 1 = ((6 : Nat) : Int) from rfl, show ((8 : Nat) : Int) - 1 = ((7 : Nat) : Int) from rfl, show ((9 : Nat) : Int) - 1 = ((8 : Nat) : Int) from rfl, show ((10 : Nat) : Int) - 1 = ((9 : Nat) : Int) from rfl, show ((11 : Nat) : Int) - 1 = ((10 : Nat) : Int) from rfl, show ((12 : Nat) : Int) - 1 = ((11 : Nat) : Int) from rfl]
    simp [mdays] at h29 ⊢
    omega
set_option maxRecDepth 100000 in
set_option maxHeartbeats 1600000 in
/-- textDays. -/
theorem textDays_any (y d : Int) (m : Nat) (w : World) (hy : 0 ≤ y ∧ y ≤ 9999) (hm : 1 ≤ m ∧ m ≤ 12) (hd : 1 ≤ d ∧ d ≤ 31) :
    Calls Tryz.prog 106 #[.int .i64 y, .int .i64 m, .int .i64 d] w fun e w' => e = .returned (.int .i64 (dayNum y m d)) ∧ w = w' := by
  have HE := Lib.hid (eraDays_eq y d m hm)
  by_cases h2 : (m : Int) ≤ 2
  · by_cases h0 : y - 1 < 0
    · obtain rfl : y = 0 := by omega
      go_enter Tryz.func106, Tryz.ntmps106
      go_wp2
      go_ret
      exact ⟨ret_int (by rw [← HE.out, if_pos h2]; unfold eraDays; omega), rfl⟩
    · go_enter Tryz.func106, Tryz.ntmps106
      go_wp2
      go_ret
      exact ⟨ret_int (by rw [← HE.out, if_pos h2]; unfold eraDays; omega), rfl⟩
  · go_enter Tryz.func106, Tryz.ntmps106
    go_wp2
    go_ret
    exact ⟨ret_int (by rw [← HE.out, if_neg (by omega)]; unfold eraDays; omega), rfl⟩
end Go.Proofs.YtcfbkkcamiephaaGreatDoor
