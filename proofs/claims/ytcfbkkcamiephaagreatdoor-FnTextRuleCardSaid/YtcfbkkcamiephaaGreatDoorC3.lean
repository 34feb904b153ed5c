import Derived.Test.YtcfbkkcamiephaaGreatDoorC1
namespace Go.Proofs.YtcfbkkcamiephaaGreatDoor
open Go.RowKit
theorem parseTail_none {y m d hh mm ss nn : Int} {ok : Bool} (h : ok = false ∨ d < 1 ∨ mdays m y < d) : parseTail y m d hh mm ss nn ok = none := if_pos h
theorem parseTail_some {y m d hh mm ss nn : Int} {ok : Bool} (h1 : ok = true) (h2 : 1 ≤ d) (h3 : d ≤ mdays m y) : parseTail y m d hh mm ss nn ok = some (dayNum y m d * 86400 + hh * 3600 + mm * 60 + ss, nn) :=
  if_neg (by rintro (h | h | h); · rw [h1] at h; cases h
             · omega
             · omega)
theorem post_fail {w : World} {R : Option (Int × Int)} {e : Ending} {w' : World} (h : R = none) (hp : ParseFail w e w') : ParsePost w R e w' := by rw [h]; exact hp
theorem post_ok {w : World} {R : Option (Int × Int)} {a b : Int} {e : Ending} {w' : World} (h : R = some (a, b)) (h1 : e = .returned (.tuple #[.agg #[.int .i64 a, .int .i64 b], .nilIface])) (h2 : Below w.heap.size w w') : ParsePost w R e w' := by rw [h]; exact ⟨h1, h2⟩
theorem toList_mkS (l : List UInt8) : (mkS l).toList = l := by rw [Lib.toList_data]; rfl
theorem extract1_mkS (t : UInt8) (l : List UInt8) : (mkS (t :: l)).extract 1 (l.length + 1) = mkS l := by
  rw [extract_mkS, mkS_data]; simp
/-- A layout with a time: what stands behind its eight digits, and behind 'T150405'. -/
structure Lay (L L7 : ByteArray) (z : List UInt8) : Prop where
  s8 : 8 ≤ L.size
  h8 : L.extract 8 L.size = L7
  ne : (!L7.toList.isEmpty) = true
  s7 : 7 ≤ L7.size
  h7 : L7.extract 7 L7.size = mkS z
set_option maxRecDepth 100000 in
set_option maxHeartbeats 1600000 in
theorem parse_t0 (L L7 : ByteArray) (z : List UInt8) (l l1 l2 : List UInt8) (y m d : Int)  (w : World) (hl : l.length ≤ 1000000000) (hL : Lay L L7 z) (h1 : takeD 4 l = some (y, l1)) (h2 : takeD 2 l1 = some (m, l2)) (m1 : 1 ≤ m) (m2 : m ≤ 12) (h3 : takeD 2 l2 = some (d, []))  :
    Calls Tryz.prog 145 #[.string L, .string (mkS l)] w (ParseFail w) := by
  have hl1 : l1.length ≤ 1000000000 := Nat.le_trans (takeD_len h1) hl
  have H1 := Lib.hid h1; clear h1
  have hl2 : l2.length ≤ 1000000000 := Nat.le_trans (takeD_len h2) hl1
  have H2 := Lib.hid h2; clear h2
  have hl3 : [].length ≤ 1000000000 := Nat.le_trans (takeD_len h3) hl2
  have H3 := Lib.hid h3; clear h3
  obtain ⟨s8, h8, ne, s7, h7⟩ := hL
  have bs8 : (8 : Int) ≤ (L.size : Int) := by omega
  have z0 : (mkS []).size = 0 := rfl
  go_enter Tryz.func145, Tryz.ntmps145
  go_wp2_with (first | (go_at_call 167; (with_reducible refine (dig4y l l1 y _ hl H1.out).mono ?_); rintro e w' ⟨rfl, ⟨q1, rfl⟩⟩) | (go_at_call 167; (with_reducible refine (dig2y l1 l2 m _ hl1 H2.out).mono ?_); rintro e w' ⟨rfl, ⟨q2, rfl⟩⟩) | (go_at_call 167; (with_reducible refine (dig2y l2 [] d _ hl2 H3.out).mono ?_); rintro e w' ⟨rfl, ⟨q3, rfl⟩⟩) | go_in)
  all_goals
    refine bodyPost_ret (v := .tuple #[.agg #[.int .i64 0, .int .i64 0], .iface 194 (.pointer (some ⟨w.heap.size + 1, 0, none⟩))]) (by simp [results, Tryz.results145, go_sem]) rfl ⟨_, _, rfl, ?_⟩
    repeat (first | exact Below.refl _ _ | refine Below.setCell ?_ (by simp) _ | refine below_drewN ?_ _ | refine Below.alloc ?_ (by simp) _)

set_option maxRecDepth 100000 in
set_option maxHeartbeats 1600000 in
theorem parse_t1 (L L7 : ByteArray) (z : List UInt8) (l l1 l2 : List UInt8) (y m d : Int) (t : UInt8) (l4 : List UInt8) (w : World) (hl : l.length ≤ 1000000000) (hL : Lay L L7 z) (h1 : takeD 4 l = some (y, l1)) (h2 : takeD 2 l1 = some (m, l2)) (m1 : 1 ≤ m) (m2 : m ≤ 12) (h3 : takeD 2 l2 = some (d, (t :: l4))) (ht : ¬ t.toNat = 84) :
    Calls Tryz.prog 145 #[.string L, .string (mkS l)] w (ParseFail w) := by
  have hl1 : l1.length ≤ 1000000000 := Nat.le_trans (takeD_len h1) hl
  have H1 := Lib.hid h1; clear h1
  have hl2 : l2.length ≤ 1000000000 := Nat.le_trans (takeD_len h2) hl1
  have H2 := Lib.hid h2; clear h2
  have hl3 : (t :: l4).length ≤ 1000000000 := Nat.le_trans (takeD_len h3) hl2
  have H3 := Lib.hid h3; clear h3
  obtain ⟨s8, h8, ne, s7, h7⟩ := hL
  have bs8 : (8 : Int) ≤ (L.size : Int) := by omega
  have hl4 : l4.length ≤ 1000000000 := by simp at hl3; omega
  have zz := size_mkS (t :: l4)
  rw [List.length_cons] at zz
  have x0 : (mkS (t :: l4))[0]'(by rw [zz]; omega) = t := rfl
  have tb : ((t.toNat : Int) != 84) = true := bne_iff_ne.2 (by omega)
  go_enter Tryz.func145, Tryz.ntmps145
  go_wp2_with (first | (go_at_call 167; (with_reducible refine (dig4y l l1 y _ hl H1.out).mono ?_); rintro e w' ⟨rfl, ⟨q1, rfl⟩⟩) | (go_at_call 167; (with_reducible refine (dig2y l1 l2 m _ hl1 H2.out).mono ?_); rintro e w' ⟨rfl, ⟨q2, rfl⟩⟩) | (go_at_call 167; (with_reducible refine (dig2y l2 (t :: l4) d _ hl2 H3.out).mono ?_); rintro e w' ⟨rfl, ⟨q3, rfl⟩⟩) | go_in)
  all_goals
    refine bodyPost_ret (v := .tuple #[.agg #[.int .i64 0, .int .i64 0], .iface 194 (.pointer (some ⟨w.heap.size + 1, 0, none⟩))]) (by simp [results, Tryz.results145, go_sem]) rfl ⟨_, _, rfl, ?_⟩
    repeat (first | exact Below.refl _ _ | refine Below.setCell ?_ (by simp) _ | refine below_drewN ?_ _ | refine Below.alloc ?_ (by simp) _)

set_option maxRecDepth 100000 in
set_option maxHeartbeats 1600000 in
theorem parse_t2 (L L7 : ByteArray) (z : List UInt8) (l l1 l2 : List UInt8) (y m d : Int) (t : UInt8) (l4 : List UInt8) (w : World) (hl : l.length ≤ 1000000000) (hL : Lay L L7 z) (h1 : takeD 4 l = some (y, l1)) (h2 : takeD 2 l1 = some (m, l2)) (m1 : 1 ≤ m) (m2 : m ≤ 12) (h3 : takeD 2 l2 = some (d, (t :: l4))) (ht : t.toNat = 84) (h4 : takeD 2 l4 = none) :
    Calls Tryz.prog 145 #[.string L, .string (mkS l)] w (ParseFail w) := by
  have hl1 : l1.length ≤ 1000000000 := Nat.le_trans (takeD_len h1) hl
  have H1 := Lib.hid h1; clear h1
  have hl2 : l2.length ≤ 1000000000 := Nat.le_trans (takeD_len h2) hl1
  have H2 := Lib.hid h2; clear h2
  have hl3 : (t :: l4).length ≤ 1000000000 := Nat.le_trans (takeD_len h3) hl2
  have H3 := Lib.hid h3; clear h3
  obtain ⟨s8, h8, ne, s7, h7⟩ := hL
  have bs8 : (8 : Int) ≤ (L.size : Int) := by omega
  have hl4 : l4.length ≤ 1000000000 := by simp at hl3; omega
  have zz := size_mkS (t :: l4)
  rw [List.length_cons] at zz
  have x0 : (mkS (t :: l4))[0]'(by rw [zz]; omega) = t := rfl
  have x1 := extract1_mkS t l4
  have tb : ((t.toNat : Int) != 84) = false := bne_eq_false_iff_eq.2 (by omega)
  clear ht
  have H4 := Lib.hid h4; clear h4
  go_enter Tryz.func145, Tryz.ntmps145
  go_wp2_with (first | (go_at_call 167; (with_reducible refine (dig4y l l1 y _ hl H1.out).mono ?_); rintro e w' ⟨rfl, ⟨q1, rfl⟩⟩) | (go_at_call 167; (with_reducible refine (dig2y l1 l2 m _ hl1 H2.out).mono ?_); rintro e w' ⟨rfl, ⟨q2, rfl⟩⟩) | (go_at_call 167; (with_reducible refine (dig2y l2 (t :: l4) d _ hl2 H3.out).mono ?_); rintro e w' ⟨rfl, ⟨q3, rfl⟩⟩) | (go_at_call 167; (with_reducible refine (dig2n l4 _ hl4 H4.out).mono ?_); rintro e w' ⟨rfl, ⟨q4, rfl⟩⟩) | go_in)
  all_goals
    refine bodyPost_ret (v := .tuple #[.agg #[.int .i64 0, .int .i64 0], .iface 194 (.pointer (some ⟨w.heap.size + 1, 0, none⟩))]) (by simp [results, Tryz.results145, go_sem]) rfl ⟨_, _, rfl, ?_⟩
    repeat (first | exact Below.refl _ _ | refine Below.setCell ?_ (by simp) _ | refine below_drewN ?_ _ | refine Below.alloc ?_ (by simp) _)

set_option maxRecDepth 100000 in
set_option maxHeartbeats 1600000 in
theorem parse_t3 (L L7 : ByteArray) (z : List UInt8) (l l1 l2 : List UInt8) (y m d : Int) (t : UInt8) (l4 : List UInt8) (l5 : List UInt8) (hh : Int) (w : World) (hl : l.length ≤ 1000000000) (hL : Lay L L7 z) (h1 : takeD 4 l = some (y, l1)) (h2 : takeD 2 l1 = some (m, l2)) (m1 : 1 ≤ m) (m2 : m ≤ 12) (h3 : takeD 2 l2 = some (d, (t :: l4))) (ht : t.toNat = 84) (h4 : takeD 2 l4 = some (hh, l5)) (hb : 23 < hh) :
    Calls Tryz.prog 145 #[.string L, .string (mkS l)] w (ParseFail w) := by
  have hl1 : l1.length ≤ 1000000000 := Nat.le_trans (takeD_len h1) hl
  have H1 := Lib.hid h1; clear h1
  have hl2 : l2.length ≤ 1000000000 := Nat.le_trans (takeD_len h2) hl1
  have H2 := Lib.hid h2; clear h2
  have hl3 : (t :: l4).length ≤ 1000000000 := Nat.le_trans (takeD_len h3) hl2
  have H3 := Lib.hid h3; clear h3
  obtain ⟨s8, h8, ne, s7, h7⟩ := hL
  have bs8 : (8 : Int) ≤ (L.size : Int) := by omega
  have hl4 : l4.length ≤ 1000000000 := by simp at hl3; omega
  have zz := size_mkS (t :: l4)
  rw [List.length_cons] at zz
  have x0 : (mkS (t :: l4))[0]'(by rw [zz]; omega) = t := rfl
  have x1 := extract1_mkS t l4
  have tb : ((t.toNat : Int) != 84) = false := bne_eq_false_iff_eq.2 (by omega)
  clear ht
  have hl5 : l5.length ≤ 1000000000 := Nat.le_trans (takeD_len h4) hl4
  have H4 := Lib.hid h4; clear h4
  go_enter Tryz.func145, Tryz.ntmps145
  go_wp2_with (first | (go_at_call 167; (with_reducible refine (dig4y l l1 y _ hl H1.out).mono ?_); rintro e w' ⟨rfl, ⟨q1, rfl⟩⟩) | (go_at_call 167; (with_reducible refine (dig2y l1 l2 m _ hl1 H2.out).mono ?_); rintro e w' ⟨rfl, ⟨q2, rfl⟩⟩) | (go_at_call 167; (with_reducible refine (dig2y l2 (t :: l4) d _ hl2 H3.out).mono ?_); rintro e w' ⟨rfl, ⟨q3, rfl⟩⟩) | (go_at_call 167; (with_reducible refine (dig2y l4 l5 hh _ hl4 H4.out).mono ?_); rintro e w' ⟨rfl, ⟨q4, rfl⟩⟩) | go_in)
  all_goals
    refine bodyPost_ret (v := .tuple #[.agg #[.int .i64 0, .int .i64 0], .iface 194 (.pointer (some ⟨w.heap.size + 1, 0, none⟩))]) (by simp [results, Tryz.results145, go_sem]) rfl ⟨_, _, rfl, ?_⟩
    repeat (first | exact Below.refl _ _ | refine Below.setCell ?_ (by simp) _ | refine below_drewN ?_ _ | refine Below.alloc ?_ (by simp) _)

set_option maxRecDepth 100000 in
set_option maxHeartbeats 1600000 in
theorem parse_t4 (L L7 : ByteArray) (z : List UInt8) (l l1 l2 : List UInt8) (y m d : Int) (t : UInt8) (l4 : List UInt8) (l5 : List UInt8) (hh : Int) (w : World) (hl : l.length ≤ 1000000000) (hL : Lay L L7 z) (h1 : takeD 4 l = some (y, l1)) (h2 : takeD 2 l1 = some (m, l2)) (m1 : 1 ≤ m) (m2 : m ≤ 12) (h3 : takeD 2 l2 = some (d, (t :: l4))) (ht : t.toNat = 84) (h4 : takeD 2 l4 = some (hh, l5)) (hb : hh ≤ 23) (h5 : takeD 2 l5 = none) :
    Calls Tryz.prog 145 #[.string L, .string (mkS l)] w (ParseFail w) := by
  have hl1 : l1.length ≤ 1000000000 := Nat.le_trans (takeD_len h1) hl
  have H1 := Lib.hid h1; clear h1
  have hl2 : l2.length ≤ 1000000000 := Nat.le_trans (takeD_len h2) hl1
  have H2 := Lib.hid h2; clear h2
  have hl3 : (t :: l4).length ≤ 1000000000 := Nat.le_trans (takeD_len h3) hl2
  have H3 := Lib.hid h3; clear h3
  obtain ⟨s8, h8, ne, s7, h7⟩ := hL
  have bs8 : (8 : Int) ≤ (L.size : Int) := by omega
  have hl4 : l4.length ≤ 1000000000 := by simp at hl3; omega
  have zz := size_mkS (t :: l4)
  rw [List.length_cons] at zz
  have x0 : (mkS (t :: l4))[0]'(by rw [zz]; omega) = t := rfl
  have x1 := extract1_mkS t l4
  have tb : ((t.toNat : Int) != 84) = false := bne_eq_false_iff_eq.2 (by omega)
  clear ht
  have hl5 : l5.length ≤ 1000000000 := Nat.le_trans (takeD_len h4) hl4
  have H4 := Lib.hid h4; clear h4
  have H5 := Lib.hid h5; clear h5
  go_enter Tryz.func145, Tryz.ntmps145
  go_wp2_with (first | (go_at_call 167; (with_reducible refine (dig4y l l1 y _ hl H1.out).mono ?_); rintro e w' ⟨rfl, ⟨q1, rfl⟩⟩) | (go_at_call 167; (with_reducible refine (dig2y l1 l2 m _ hl1 H2.out).mono ?_); rintro e w' ⟨rfl, ⟨q2, rfl⟩⟩) | (go_at_call 167; (with_reducible refine (dig2y l2 (t :: l4) d _ hl2 H3.out).mono ?_); rintro e w' ⟨rfl, ⟨q3, rfl⟩⟩) | (go_at_call 167; (with_reducible refine (dig2y l4 l5 hh _ hl4 H4.out).mono ?_); rintro e w' ⟨rfl, ⟨q4, rfl⟩⟩) | (go_at_call 167; (with_reducible refine (dig2n l5 _ hl5 H5.out).mono ?_); rintro e w' ⟨rfl, ⟨q5, rfl⟩⟩) | go_in)
  all_goals
    refine bodyPost_ret (v := .tuple #[.agg #[.int .i64 0, .int .i64 0], .iface 194 (.pointer (some ⟨w.heap.size + 1, 0, none⟩))]) (by simp [results, Tryz.results145, go_sem]) rfl ⟨_, _, rfl, ?_⟩
    repeat (first | exact Below.refl _ _ | refine Below.setCell ?_ (by simp) _ | refine below_drewN ?_ _ | refine Below.alloc ?_ (by simp) _)

set_option maxRecDepth 100000 in
set_option maxHeartbeats 1600000 in
theorem parse_t5 (L L7 : ByteArray) (z : List UInt8) (l l1 l2 : List UInt8) (y m d : Int) (t : UInt8) (l4 : List UInt8) (l5 l6 : List UInt8) (hh mm : Int) (w : World) (hl : l.length ≤ 1000000000) (hL : Lay L L7 z) (h1 : takeD 4 l = some (y, l1)) (h2 : takeD 2 l1 = some (m, l2)) (m1 : 1 ≤ m) (m2 : m ≤ 12) (h3 : takeD 2 l2 = some (d, (t :: l4))) (ht : t.toNat = 84) (h4 : takeD 2 l4 = some (hh, l5)) (hb : hh ≤ 23) (h5 : takeD 2 l5 = some (mm, l6)) (mb : 59 < mm) :
    Calls Tryz.prog 145 #[.string L, .string (mkS l)] w (ParseFail w) := by
  have hl1 : l1.length ≤ 1000000000 := Nat.le_trans (takeD_len h1) hl
  have H1 := Lib.hid h1; clear h1
  have hl2 : l2.length ≤ 1000000000 := Nat.le_trans (takeD_len h2) hl1
  have H2 := Lib.hid h2; clear h2
  have hl3 : (t :: l4).length ≤ 1000000000 := Nat.le_trans (takeD_len h3) hl2
  have H3 := Lib.hid h3; clear h3
  obtain ⟨s8, h8, ne, s7, h7⟩ := hL
  have bs8 : (8 : Int) ≤ (L.size : Int) := by omega
  have hl4 : l4.length ≤ 1000000000 := by simp at hl3; omega
  have zz := size_mkS (t :: l4)
  rw [List.length_cons] at zz
  have x0 : (mkS (t :: l4))[0]'(by rw [zz]; omega) = t := rfl
  have x1 := extract1_mkS t l4
  have tb : ((t.toNat : Int) != 84) = false := bne_eq_false_iff_eq.2 (by omega)
  clear ht
  have hl5 : l5.length ≤ 1000000000 := Nat.le_trans (takeD_len h4) hl4
  have H4 := Lib.hid h4; clear h4
  have hl6 : l6.length ≤ 1000000000 := Nat.le_trans (takeD_len h5) hl5
  have H5 := Lib.hid h5; clear h5
  go_enter Tryz.func145, Tryz.ntmps145
  go_wp2_with (first | (go_at_call 167; (with_reducible refine (dig4y l l1 y _ hl H1.out).mono ?_); rintro e w' ⟨rfl, ⟨q1, rfl⟩⟩) | (go_at_call 167; (with_reducible refine (dig2y l1 l2 m _ hl1 H2.out).mono ?_); rintro e w' ⟨rfl, ⟨q2, rfl⟩⟩) | (go_at_call 167; (with_reducible refine (dig2y l2 (t :: l4) d _ hl2 H3.out).mono ?_); rintro e w' ⟨rfl, ⟨q3, rfl⟩⟩) | (go_at_call 167; (with_reducible refine (dig2y l4 l5 hh _ hl4 H4.out).mono ?_); rintro e w' ⟨rfl, ⟨q4, rfl⟩⟩) | (go_at_call 167; (with_reducible refine (dig2y l5 l6 mm _ hl5 H5.out).mono ?_); rintro e w' ⟨rfl, ⟨q5, rfl⟩⟩) | go_in)
  all_goals
    refine bodyPost_ret (v := .tuple #[.agg #[.int .i64 0, .int .i64 0], .iface 194 (.pointer (some ⟨w.heap.size + 1, 0, none⟩))]) (by simp [results, Tryz.results145, go_sem]) rfl ⟨_, _, rfl, ?_⟩
    repeat (first | exact Below.refl _ _ | refine Below.setCell ?_ (by simp) _ | refine below_drewN ?_ _ | refine Below.alloc ?_ (by simp) _)

set_option maxRecDepth 100000 in
set_option maxHeartbeats 1600000 in
theorem parse_t6 (L L7 : ByteArray) (z : List UInt8) (l l1 l2 : List UInt8) (y m d : Int) (t : UInt8) (l4 : List UInt8) (l5 l6 : List UInt8) (hh mm : Int) (w : World) (hl : l.length ≤ 1000000000) (hL : Lay L L7 z) (h1 : takeD 4 l = some (y, l1)) (h2 : takeD 2 l1 = some (m, l2)) (m1 : 1 ≤ m) (m2 : m ≤ 12) (h3 : takeD 2 l2 = some (d, (t :: l4))) (ht : t.toNat = 84) (h4 : takeD 2 l4 = some (hh, l5)) (hb : hh ≤ 23) (h5 : takeD 2 l5 = some (mm, l6)) (mb : mm ≤ 59) (h6 : takeD 2 l6 = none) :
    Calls Tryz.prog 145 #[.string L, .string (mkS l)] w (ParseFail w) := by
  have hl1 : l1.length ≤ 1000000000 := Nat.le_trans (takeD_len h1) hl
  have H1 := Lib.hid h1; clear h1
  have hl2 : l2.length ≤ 1000000000 := Nat.le_trans (takeD_len h2) hl1
  have H2 := Lib.hid h2; clear h2
  have hl3 : (t :: l4).length ≤ 1000000000 := Nat.le_trans (takeD_len h3) hl2
  have H3 := Lib.hid h3; clear h3
  obtain ⟨s8, h8, ne, s7, h7⟩ := hL
  have bs8 : (8 : Int) ≤ (L.size : Int) := by omega
  have hl4 : l4.length ≤ 1000000000 := by simp at hl3; omega
  have zz := size_mkS (t :: l4)
  rw [List.length_cons] at zz
  have x0 : (mkS (t :: l4))[0]'(by rw [zz]; omega) = t := rfl
  have x1 := extract1_mkS t l4
  have tb : ((t.toNat : Int) != 84) = false := bne_eq_false_iff_eq.2 (by omega)
  clear ht
  have hl5 : l5.length ≤ 1000000000 := Nat.le_trans (takeD_len h4) hl4
  have H4 := Lib.hid h4; clear h4
  have hl6 : l6.length ≤ 1000000000 := Nat.le_trans (takeD_len h5) hl5
  have H5 := Lib.hid h5; clear h5
  have H6 := Lib.hid h6; clear h6
  go_enter Tryz.func145, Tryz.ntmps145
  go_wp2_with (first | (go_at_call 167; (with_reducible refine (dig4y l l1 y _ hl H1.out).mono ?_); rintro e w' ⟨rfl, ⟨q1, rfl⟩⟩) | (go_at_call 167; (with_reducible refine (dig2y l1 l2 m _ hl1 H2.out).mono ?_); rintro e w' ⟨rfl, ⟨q2, rfl⟩⟩) | (go_at_call 167; (with_reducible refine (dig2y l2 (t :: l4) d _ hl2 H3.out).mono ?_); rintro e w' ⟨rfl, ⟨q3, rfl⟩⟩) | (go_at_call 167; (with_reducible refine (dig2y l4 l5 hh _ hl4 H4.out).mono ?_); rintro e w' ⟨rfl, ⟨q4, rfl⟩⟩) | (go_at_call 167; (with_reducible refine (dig2y l5 l6 mm _ hl5 H5.out).mono ?_); rintro e w' ⟨rfl, ⟨q5, rfl⟩⟩) | (go_at_call 167; (with_reducible refine (dig2n l6 _ hl6 H6.out).mono ?_); rintro e w' ⟨rfl, ⟨q6, rfl⟩⟩) | go_in)
  all_goals
    refine bodyPost_ret (v := .tuple #[.agg #[.int .i64 0, .int .i64 0], .iface 194 (.pointer (some ⟨w.heap.size + 1, 0, none⟩))]) (by simp [results, Tryz.results145, go_sem]) rfl ⟨_, _, rfl, ?_⟩
    repeat (first | exact Below.refl _ _ | refine Below.setCell ?_ (by simp) _ | refine below_drewN ?_ _ | refine Below.alloc ?_ (by simp) _)

set_option maxRecDepth 100000 in
set_option maxHeartbeats 1600000 in
theorem parse_t7 (L L7 : ByteArray) (z : List UInt8) (l l1 l2 : List UInt8) (y m d : Int) (t : UInt8) (l4 : List UInt8) (l5 l6 l7 : List UInt8) (hh mm ss : Int) (w : World) (hl : l.length ≤ 1000000000) (hL : Lay L L7 z) (h1 : takeD 4 l = some (y, l1)) (h2 : takeD 2 l1 = some (m, l2)) (m1 : 1 ≤ m) (m2 : m ≤ 12) (h3 : takeD 2 l2 = some (d, (t :: l4))) (ht : t.toNat = 84) (h4 : takeD 2 l4 = some (hh, l5)) (hb : hh ≤ 23) (h5 : takeD 2 l5 = some (mm, l6)) (mb : mm ≤ 59) (h6 : takeD 2 l6 = some (ss, l7)) (sb : 59 < ss) :
    Calls Tryz.prog 145 #[.string L, .string (mkS l)] w (ParseFail w) := by
  have hl1 : l1.length ≤ 1000000000 := Nat.le_trans (takeD_len h1) hl
  have H1 := Lib.hid h1; clear h1
  have hl2 : l2.length ≤ 1000000000 := Nat.le_trans (takeD_len h2) hl1
  have H2 := Lib.hid h2; clear h2
  have hl3 : (t :: l4).length ≤ 1000000000 := Nat.le_trans (takeD_len h3) hl2
  have H3 := Lib.hid h3; clear h3
  obtain ⟨s8, h8, ne, s7, h7⟩ := hL
  have bs8 : (8 : Int) ≤ (L.size : Int) := by omega
  have hl4 : l4.length ≤ 1000000000 := by simp at hl3; omega
  have zz := size_mkS (t :: l4)
  rw [List.length_cons] at zz
  have x0 : (mkS (t :: l4))[0]'(by rw [zz]; omega) = t := rfl
  have x1 := extract1_mkS t l4
  have tb : ((t.toNat : Int) != 84) = false := bne_eq_false_iff_eq.2 (by omega)
  clear ht
  have hl5 : l5.length ≤ 1000000000 := Nat.le_trans (takeD_len h4) hl4
  have H4 := Lib.hid h4; clear h4
  have hl6 : l6.length ≤ 1000000000 := Nat.le_trans (takeD_len h5) hl5
  have H5 := Lib.hid h5; clear h5
  have hl7 : l7.length ≤ 1000000000 := Nat.le_trans (takeD_len h6) hl6
  have H6 := Lib.hid h6; clear h6
  go_enter Tryz.func145, Tryz.ntmps145
  go_wp2_with (first | (go_at_call 167; (with_reducible refine (dig4y l l1 y _ hl H1.out).mono ?_); rintro e w' ⟨rfl, ⟨q1, rfl⟩⟩) | (go_at_call 167; (with_reducible refine (dig2y l1 l2 m _ hl1 H2.out).mono ?_); rintro e w' ⟨rfl, ⟨q2, rfl⟩⟩) | (go_at_call 167; (with_reducible refine (dig2y l2 (t :: l4) d _ hl2 H3.out).mono ?_); rintro e w' ⟨rfl, ⟨q3, rfl⟩⟩) | (go_at_call 167; (with_reducible refine (dig2y l4 l5 hh _ hl4 H4.out).mono ?_); rintro e w' ⟨rfl, ⟨q4, rfl⟩⟩) | (go_at_call 167; (with_reducible refine (dig2y l5 l6 mm _ hl5 H5.out).mono ?_); rintro e w' ⟨rfl, ⟨q5, rfl⟩⟩) | (go_at_call 167; (with_reducible refine (dig2y l6 l7 ss _ hl6 H6.out).mono ?_); rintro e w' ⟨rfl, ⟨q6, rfl⟩⟩) | go_in)
  all_goals
    refine bodyPost_ret (v := .tuple #[.agg #[.int .i64 0, .int .i64 0], .iface 194 (.pointer (some ⟨w.heap.size + 1, 0, none⟩))]) (by simp [results, Tryz.results145, go_sem]) rfl ⟨_, _, rfl, ?_⟩
    repeat (first | exact Below.refl _ _ | refine Below.setCell ?_ (by simp) _ | refine below_drewN ?_ _ | refine Below.alloc ?_ (by simp) _)

