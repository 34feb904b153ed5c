import Derived.Test.YtcfbkkcamiephaaGreatDoorC3
namespace Go.Proofs.YtcfbkkcamiephaaGreatDoor
open Go.RowKit
set_option maxRecDepth 100000 in
set_option maxHeartbeats 1600000 in
theorem parse_t8a (L L7 : ByteArray) (z : List UInt8) (l l1 l2 : List UInt8) (y m d : Int) (t : UInt8) (l4 : List UInt8) (l5 l6 : List UInt8)  (hh mm ss : Int) (w : World) (hl : l.length ≤ 1000000000) (hL : Lay L L7 z) (h1 : takeD 4 l = some (y, l1)) (h2 : takeD 2 l1 = some (m, l2)) (m1 : 1 ≤ m) (m2 : m ≤ 12) (h3 : takeD 2 l2 = some (d, (t :: l4))) (ht : t.toNat = 84) (h4 : takeD 2 l4 = some (hh, l5)) (hb : hh ≤ 23) (h5 : takeD 2 l5 = some (mm, l6)) (mb : mm ≤ 59) (h6 : takeD 2 l6 = some (ss, [])) (sb : ss ≤ 59)  (R : Option (Int × Int)) (hR : parseTail y m d hh mm ss 0 ([] == z) = R) :
    Calls Tryz.prog 145 #[.string L, .string (mkS l)] w (ParsePost w R) := by
  obtain ⟨y0, y9⟩ := takeD_bd h1
  obtain ⟨d0, d9⟩ := takeD_bd h3
  obtain ⟨h0, h9⟩ := takeD_bd h4
  obtain ⟨mm0, mm9⟩ := takeD_bd h5
  obtain ⟨ss0, ss9⟩ := takeD_bd h6
  have tz := toList_mkS z
  have HR := Lib.hid hR; clear hR
  have hl1 : l1.length ≤ 1000000000 := Nat.le_trans (takeD_len h1) hl
  have H1 := Lib.hid h1; clear h1
  have hl2 : l2.length ≤ 1000000000 := Nat.le_trans (takeD_len h2) hl1
  have H2 := Lib.hid h2; clear h2
  have hl3 : (t :: l4).length ≤ 1000000000 := Nat.le_trans (takeD_len h3) hl2
  have H3 := Lib.hid h3; clear h3
  obtain ⟨s8, h8, ne, s7, h7⟩ := hL
  have bs8 : (8 : Int) ≤ (L.size : Int) := by omega
  have hl4 : l4.length ≤ 1000000000 := by simp at hl3; omega
  have zz := size_mkS (t :: l4)
  rw [List.length_cons] at zz
  have x0 : (mkS (t :: l4))[0]'(by rw [zz]; omega) = t := rfl
  have x1 := extract1_mkS t l4
  have tb : ((t.toNat : Int) != 84) = false := bne_eq_false_iff_eq.2 (by omega)
  clear ht
  have hl5 : l5.length ≤ 1000000000 := Nat.le_trans (takeD_len h4) hl4
  have H4 := Lib.hid h4; clear h4
  have hl6 : l6.length ≤ 1000000000 := Nat.le_trans (takeD_len h5) hl5
  have H5 := Lib.hid h5; clear h5
  have hl7 : [].length ≤ 1000000000 := Nat.le_trans (takeD_len h6) hl6
  have H6 := Lib.hid h6; clear h6
  have tl := toList_mkS []
  have z0 : (mkS []).size = 0 := rfl
  go_enter Tryz.func145, Tryz.ntmps145
  go_wp2_with (first | (go_at_call 167; (with_reducible refine (dig4y l l1 y _ hl H1.out).mono ?_); rintro e w' ⟨rfl, ⟨q1, rfl⟩⟩) | (go_at_call 167; (with_reducible refine (dig2y l1 l2 m _ hl1 H2.out).mono ?_); rintro e w' ⟨rfl, ⟨q2, rfl⟩⟩) | (go_at_call 167; (with_reducible refine (dig2y l2 (t :: l4) d _ hl2 H3.out).mono ?_); rintro e w' ⟨rfl, ⟨q3, rfl⟩⟩) | (go_at_call 167; (with_reducible refine (dig2y l4 l5 hh _ hl4 H4.out).mono ?_); rintro e w' ⟨rfl, ⟨q4, rfl⟩⟩) | (go_at_call 167; (with_reducible refine (dig2y l5 l6 mm _ hl5 H5.out).mono ?_); rintro e w' ⟨rfl, ⟨q5, rfl⟩⟩) | (go_at_call 167; (with_reducible refine (dig2y l6 [] ss _ hl6 H6.out).mono ?_); rintro e w' ⟨rfl, ⟨q6, rfl⟩⟩) | (go_at_call 160; refine (monthDays_any m y _).mono ?_; rintro e w' ⟨rfl, rfl⟩) | (go_at_call 134; refine (date_any y m d hh mm ss _ (by omega) (by omega) m1 m2 (by omega) (by omega) (by omega) (by omega) (by omega) (by omega) (by omega) (by omega) 0 (by omega) (by omega)).mono ?_; rintro e w4 ⟨rfl, hb4⟩; have hc4 := cell_below hb4 (a := ⟨w.heap.size, 0, none⟩) (v := .int .i64 0) (by simp); have hd4 := cell_below hb4 (a := ⟨w.heap.size, 1, none⟩) (v := .int .i64 0) (by simp); have hf4 := frozen_below hb4 (a := ⟨w.heap.size, 0, none⟩) (by simp <;> omega) (by simp); have hg4 := frozen_below hb4 (a := ⟨w.heap.size, 1, none⟩) (by simp <;> omega) (by simp)) | go_in)
  all_goals first
      | (refine bodyPost_ret (v := .tuple #[.agg #[.int .i64 0, .int .i64 0], .iface 194 (.pointer (some ⟨w.heap.size + 1, 0, none⟩))]) (by simp [results, Tryz.results145, go_sem]) rfl (post_fail (HR.out.symm.trans (parseTail_none ?_)) ⟨_, _, rfl, ?_⟩)
         · first | (left; simpa using ‹¬ _ = _›) | (right; omega)
         · repeat (first | exact Below.refl _ _ | refine Below.setCell ?_ (by simp) _ | refine below_drewN ?_ _ | refine Below.alloc ?_ (by simp) _))
      | (refine bodyPost_ret (v := .tuple #[.agg #[.int .i64 (dayNum y m d * 86400 + hh * 3600 + mm * 60 + ss), .int .i64 0], .nilIface]) (by simp [results, Tryz.results145, go_sem, hc4, hd4]) rfl (post_ok (HR.out.symm.trans (parseTail_some (by simp [*]) (by omega) (by omega))) rfl ?_)
         refine Below.setCell (Below.setCell (Below.trans ?_ (hb4.mono (by simp; omega))) (by simp) _) (by simp) _
         repeat (first | exact Below.refl _ _ | refine Below.setCell ?_ (by simp) _ | refine below_drewN ?_ _ | refine Below.alloc ?_ (by simp) _))

set_option maxRecDepth 100000 in
set_option maxHeartbeats 1600000 in
theorem parse_t8b (L L7 : ByteArray) (z : List UInt8) (l l1 l2 : List UInt8) (y m d : Int) (t : UInt8) (l4 : List UInt8) (l5 l6 : List UInt8) (p : UInt8) (hh mm ss : Int) (w : World) (hl : l.length ≤ 1000000000) (hL : Lay L L7 z) (h1 : takeD 4 l = some (y, l1)) (h2 : takeD 2 l1 = some (m, l2)) (m1 : 1 ≤ m) (m2 : m ≤ 12) (h3 : takeD 2 l2 = some (d, (t :: l4))) (ht : t.toNat = 84) (h4 : takeD 2 l4 = some (hh, l5)) (hb : hh ≤ 23) (h5 : takeD 2 l5 = some (mm, l6)) (mb : mm ≤ 59) (h6 : takeD 2 l6 = some (ss, [p])) (sb : ss ≤ 59)  (R : Option (Int × Int)) (hR : parseTail y m d hh mm ss 0 ([p] == z) = R) :
    Calls Tryz.prog 145 #[.string L, .string (mkS l)] w (ParsePost w R) := by
  obtain ⟨y0, y9⟩ := takeD_bd h1
  obtain ⟨d0, d9⟩ := takeD_bd h3
  obtain ⟨h0, h9⟩ := takeD_bd h4
  obtain ⟨mm0, mm9⟩ := takeD_bd h5
  obtain ⟨ss0, ss9⟩ := takeD_bd h6
  have tz := toList_mkS z
  have HR := Lib.hid hR; clear hR
  have hl1 : l1.length ≤ 1000000000 := Nat.le_trans (takeD_len h1) hl
  have H1 := Lib.hid h1; clear h1
  have hl2 : l2.length ≤ 1000000000 := Nat.le_trans (takeD_len h2) hl1
  have H2 := Lib.hid h2; clear h2
  have hl3 : (t :: l4).length ≤ 1000000000 := Nat.le_trans (takeD_len h3) hl2
  have H3 := Lib.hid h3; clear h3
  obtain ⟨s8, h8, ne, s7, h7⟩ := hL
  have bs8 : (8 : Int) ≤ (L.size : Int) := by omega
  have hl4 : l4.length ≤ 1000000000 := by simp at hl3; omega
  have zz := size_mkS (t :: l4)
  rw [List.length_cons] at zz
  have x0 : (mkS (t :: l4))[0]'(by rw [zz]; omega) = t := rfl
  have x1 := extract1_mkS t l4
  have tb : ((t.toNat : Int) != 84) = false := bne_eq_false_iff_eq.2 (by omega)
  clear ht
  have hl5 : l5.length ≤ 1000000000 := Nat.le_trans (takeD_len h4) hl4
  have H4 := Lib.hid h4; clear h4
  have hl6 : l6.length ≤ 1000000000 := Nat.le_trans (takeD_len h5) hl5
  have H5 := Lib.hid h5; clear h5
  have hl7 : [p].length ≤ 1000000000 := Nat.le_trans (takeD_len h6) hl6
  have H6 := Lib.hid h6; clear h6
  have tl := toList_mkS [p]
  have z0 : (mkS [p]).size = 1 := rfl
  go_enter Tryz.func145, Tryz.ntmps145
  go_wp2_with (first | (go_at_call 167; (with_reducible refine (dig4y l l1 y _ hl H1.out).mono ?_); rintro e w' ⟨rfl, ⟨q1, rfl⟩⟩) | (go_at_call 167; (with_reducible refine (dig2y l1 l2 m _ hl1 H2.out).mono ?_); rintro e w' ⟨rfl, ⟨q2, rfl⟩⟩) | (go_at_call 167; (with_reducible refine (dig2y l2 (t :: l4) d _ hl2 H3.out).mono ?_); rintro e w' ⟨rfl, ⟨q3, rfl⟩⟩) | (go_at_call 167; (with_reducible refine (dig2y l4 l5 hh _ hl4 H4.out).mono ?_); rintro e w' ⟨rfl, ⟨q4, rfl⟩⟩) | (go_at_call 167; (with_reducible refine (dig2y l5 l6 mm _ hl5 H5.out).mono ?_); rintro e w' ⟨rfl, ⟨q5, rfl⟩⟩) | (go_at_call 167; (with_reducible refine (dig2y l6 [p] ss _ hl6 H6.out).mono ?_); rintro e w' ⟨rfl, ⟨q6, rfl⟩⟩) | (go_at_call 160; refine (monthDays_any m y _).mono ?_; rintro e w' ⟨rfl, rfl⟩) | (go_at_call 134; refine (date_any y m d hh mm ss _ (by omega) (by omega) m1 m2 (by omega) (by omega) (by omega) (by omega) (by omega) (by omega) (by omega) (by omega) 0 (by omega) (by omega)).mono ?_; rintro e w4 ⟨rfl, hb4⟩; have hc4 := cell_below hb4 (a := ⟨w.heap.size, 0, none⟩) (v := .int .i64 0) (by simp); have hd4 := cell_below hb4 (a := ⟨w.heap.size, 1, none⟩) (v := .int .i64 0) (by simp); have hf4 := frozen_below hb4 (a := ⟨w.heap.size, 0, none⟩) (by simp <;> omega) (by simp); have hg4 := frozen_below hb4 (a := ⟨w.heap.size, 1, none⟩) (by simp <;> omega) (by simp)) | go_in)
  all_goals first
      | (refine bodyPost_ret (v := .tuple #[.agg #[.int .i64 0, .int .i64 0], .iface 194 (.pointer (some ⟨w.heap.size + 1, 0, none⟩))]) (by simp [results, Tryz.results145, go_sem]) rfl (post_fail (HR.out.symm.trans (parseTail_none ?_)) ⟨_, _, rfl, ?_⟩)
         · first | (left; simpa using ‹¬ _ = _›) | (right; omega)
         · repeat (first | exact Below.refl _ _ | refine Below.setCell ?_ (by simp) _ | refine below_drewN ?_ _ | refine Below.alloc ?_ (by simp) _))
      | (refine bodyPost_ret (v := .tuple #[.agg #[.int .i64 (dayNum y m d * 86400 + hh * 3600 + mm * 60 + ss), .int .i64 0], .nilIface]) (by simp [results, Tryz.results145, go_sem, hc4, hd4]) rfl (post_ok (HR.out.symm.trans (parseTail_some (by simp [*]) (by omega) (by omega))) rfl ?_)
         refine Below.setCell (Below.setCell (Below.trans ?_ (hb4.mono (by simp; omega))) (by simp) _) (by simp) _
         repeat (first | exact Below.refl _ _ | refine Below.setCell ?_ (by simp) _ | refine below_drewN ?_ _ | refine Below.alloc ?_ (by simp) _))

set_option maxRecDepth 100000 in
set_option maxHeartbeats 1600000 in
theorem parse_t8c (L L7 : ByteArray) (z : List UInt8) (l l1 l2 : List UInt8) (y m d : Int) (t : UInt8) (l4 : List UInt8) (l5 l6 : List UInt8) (p c : UInt8) (r : List UInt8) (hh mm ss : Int) (w : World) (hl : l.length ≤ 1000000000) (hL : Lay L L7 z) (h1 : takeD 4 l = some (y, l1)) (h2 : takeD 2 l1 = some (m, l2)) (m1 : 1 ≤ m) (m2 : m ≤ 12) (h3 : takeD 2 l2 = some (d, (t :: l4))) (ht : t.toNat = 84) (h4 : takeD 2 l4 = some (hh, l5)) (hb : hh ≤ 23) (h5 : takeD 2 l5 = some (mm, l6)) (mb : mm ≤ 59) (h6 : takeD 2 l6 = some (ss, (p :: c :: r))) (sb : ss ≤ 59) (hp : ¬ p.toNat = 46) (hq : ¬ p.toNat = 44) (R : Option (Int × Int)) (hR : parseTail y m d hh mm ss 0 ((p :: c :: r) == z) = R) :
    Calls Tryz.prog 145 #[.string L, .string (mkS l)] w (ParsePost w R) := by
  obtain ⟨y0, y9⟩ := takeD_bd h1
  obtain ⟨d0, d9⟩ := takeD_bd h3
  obtain ⟨h0, h9⟩ := takeD_bd h4
  obtain ⟨mm0, mm9⟩ := takeD_bd h5
  obtain ⟨ss0, ss9⟩ := takeD_bd h6
  have tz := toList_mkS z
  have HR := Lib.hid hR; clear hR
  have hl1 : l1.length ≤ 1000000000 := Nat.le_trans (takeD_len h1) hl
  have H1 := Lib.hid h1; clear h1
  have hl2 : l2.length ≤ 1000000000 := Nat.le_trans (takeD_len h2) hl1
  have H2 := Lib.hid h2; clear h2
  have hl3 : (t :: l4).length ≤ 1000000000 := Nat.le_trans (takeD_len h3) hl2
  have H3 := Lib.hid h3; clear h3
  obtain ⟨s8, h8, ne, s7, h7⟩ := hL
  have bs8 : (8 : Int) ≤ (L.size : Int) := by omega
  have hl4 : l4.length ≤ 1000000000 := by simp at hl3; omega
  have zz := size_mkS (t :: l4)
  rw [List.length_cons] at zz
  have x0 : (mkS (t :: l4))[0]'(by rw [zz]; omega) = t := rfl
  have x1 := extract1_mkS t l4
  have tb : ((t.toNat : Int) != 84) = false := bne_eq_false_iff_eq.2 (by omega)
  clear ht
  have hl5 : l5.length ≤ 1000000000 := Nat.le_trans (takeD_len h4) hl4
  have H4 := Lib.hid h4; clear h4
  have hl6 : l6.length ≤ 1000000000 := Nat.le_trans (takeD_len h5) hl5
  have H5 := Lib.hid h5; clear h5
  have hl7 : (p :: c :: r).length ≤ 1000000000 := Nat.le_trans (takeD_len h6) hl6
  have H6 := Lib.hid h6; clear h6
  have tl := toList_mkS (p :: c :: r)
  have zp := size_mkS (p :: c :: r)
  rw [List.length_cons, List.length_cons] at zp
  have lr : r.length ≤ 1000000000 := by simp at hl7; omega
  have xp : (mkS (p :: c :: r))[0]'(by rw [zp]; omega) = p := rfl
  have xc : (mkS (p :: c :: r))[1]'(by rw [zp]; omega) = c := rfl
  have b46 : ((p.toNat : Int) == 46) = false := beq_eq_false_iff_ne.2 (by omega)
  have b44 : ((p.toNat : Int) == 44) = false := beq_eq_false_iff_ne.2 (by omega)
  go_enter Tryz.func145, Tryz.ntmps145
  go_wp2_with (first | (go_at_call 167; (with_reducible refine (dig4y l l1 y _ hl H1.out).mono ?_); rintro e w' ⟨rfl, ⟨q1, rfl⟩⟩) | (go_at_call 167; (with_reducible refine (dig2y l1 l2 m _ hl1 H2.out).mono ?_); rintro e w' ⟨rfl, ⟨q2, rfl⟩⟩) | (go_at_call 167; (with_reducible refine (dig2y l2 (t :: l4) d _ hl2 H3.out).mono ?_); rintro e w' ⟨rfl, ⟨q3, rfl⟩⟩) | (go_at_call 167; (with_reducible refine (dig2y l4 l5 hh _ hl4 H4.out).mono ?_); rintro e w' ⟨rfl, ⟨q4, rfl⟩⟩) | (go_at_call 167; (with_reducible refine (dig2y l5 l6 mm _ hl5 H5.out).mono ?_); rintro e w' ⟨rfl, ⟨q5, rfl⟩⟩) | (go_at_call 167; (with_reducible refine (dig2y l6 (p :: c :: r) ss _ hl6 H6.out).mono ?_); rintro e w' ⟨rfl, ⟨q6, rfl⟩⟩) | (go_at_call 160; refine (monthDays_any m y _).mono ?_; rintro e w' ⟨rfl, rfl⟩) | (go_at_call 134; refine (date_any y m d hh mm ss _ (by omega) (by omega) m1 m2 (by omega) (by omega) (by omega) (by omega) (by omega) (by omega) (by omega) (by omega) 0 (by omega) (by omega)).mono ?_; rintro e w4 ⟨rfl, hb4⟩; have hc4 := cell_below hb4 (a := ⟨w.heap.size, 0, none⟩) (v := .int .i64 0) (by simp); have hd4 := cell_below hb4 (a := ⟨w.heap.size, 1, none⟩) (v := .int .i64 0) (by simp); have hf4 := frozen_below hb4 (a := ⟨w.heap.size, 0, none⟩) (by simp <;> omega) (by simp); have hg4 := frozen_below hb4 (a := ⟨w.heap.size, 1, none⟩) (by simp <;> omega) (by simp)) | go_in)
  all_goals first
      | (refine bodyPost_ret (v := .tuple #[.agg #[.int .i64 0, .int .i64 0], .iface 194 (.pointer (some ⟨w.heap.size + 1, 0, none⟩))]) (by simp [results, Tryz.results145, go_sem]) rfl (post_fail (HR.out.symm.trans (parseTail_none ?_)) ⟨_, _, rfl, ?_⟩)
         · first | (left; simpa using ‹¬ _ = _›) | (right; omega)
         · repeat (first | exact Below.refl _ _ | refine Below.setCell ?_ (by simp) _ | refine below_drewN ?_ _ | refine Below.alloc ?_ (by simp) _))
      | (refine bodyPost_ret (v := .tuple #[.agg #[.int .i64 (dayNum y m d * 86400 + hh * 3600 + mm * 60 + ss), .int .i64 0], .nilIface]) (by simp [results, Tryz.results145, go_sem, hc4, hd4]) rfl (post_ok (HR.out.symm.trans (parseTail_some (by simp [*]) (by omega) (by omega))) rfl ?_)
         refine Below.setCell (Below.setCell (Below.trans ?_ (hb4.mono (by simp; omega))) (by simp) _) (by simp) _
         repeat (first | exact Below.refl _ _ | refine Below.setCell ?_ (by simp) _ | refine below_drewN ?_ _ | refine Below.alloc ?_ (by simp) _))

set_option maxRecDepth 100000 in
set_option maxHeartbeats 1600000 in
theorem parse_t8d1 (L L7 : ByteArray) (z : List UInt8) (l l1 l2 : List UInt8) (y m d : Int) (t : UInt8) (l4 : List UInt8) (l5 l6 : List UInt8) (p c : UInt8) (r : List UInt8) (hh mm ss : Int) (w : World) (hl : l.length ≤ 1000000000) (hL : Lay L L7 z) (h1 : takeD 4 l = some (y, l1)) (h2 : takeD 2 l1 = some (m, l2)) (m1 : 1 ≤ m) (m2 : m ≤ 12) (h3 : takeD 2 l2 = some (d, (t :: l4))) (ht : t.toNat = 84) (h4 : takeD 2 l4 = some (hh, l5)) (hb : hh ≤ 23) (h5 : takeD 2 l5 = some (mm, l6)) (mb : mm ≤ 59) (h6 : takeD 2 l6 = some (ss, (p :: c :: r))) (sb : ss ≤ 59) (hp : p.toNat = 46) (hc : c.toNat < 48) (R : Option (Int × Int)) (hR : parseTail y m d hh mm ss 0 ((p :: c :: r) == z) = R) :
    Calls Tryz.prog 145 #[.string L, .string (mkS l)] w (ParsePost w R) := by
  obtain ⟨y0, y9⟩ := takeD_bd h1
  obtain ⟨d0, d9⟩ := takeD_bd h3
  obtain ⟨h0, h9⟩ := takeD_bd h4
  obtain ⟨mm0, mm9⟩ := takeD_bd h5
  obtain ⟨ss0, ss9⟩ := takeD_bd h6
  have tz := toList_mkS z
  have HR := Lib.hid hR; clear hR
  have hl1 : l1.length ≤ 1000000000 := Nat.le_trans (takeD_len h1) hl
  have H1 := Lib.hid h1; clear h1
  have hl2 : l2.length ≤ 1000000000 := Nat.le_trans (takeD_len h2) hl1
  have H2 := Lib.hid h2; clear h2
  have hl3 : (t :: l4).length ≤ 1000000000 := Nat.le_trans (takeD_len h3) hl2
  have H3 := Lib.hid h3; clear h3
  obtain ⟨s8, h8, ne, s7, h7⟩ := hL
  have bs8 : (8 : Int) ≤ (L.size : Int) := by omega
  have hl4 : l4.length ≤ 1000000000 := by simp at hl3; omega
  have zz := size_mkS (t :: l4)
  rw [List.length_cons] at zz
  have x0 : (mkS (t :: l4))[0]'(by rw [zz]; omega) = t := rfl
  have x1 := extract1_mkS t l4
  have tb : ((t.toNat : Int) != 84) = false := bne_eq_false_iff_eq.2 (by omega)
  clear ht
  have hl5 : l5.length ≤ 1000000000 := Nat.le_trans (takeD_len h4) hl4
  have H4 := Lib.hid h4; clear h4
  have hl6 : l6.length ≤ 1000000000 := Nat.le_trans (takeD_len h5) hl5
  have H5 := Lib.hid h5; clear h5
  have hl7 : (p :: c :: r).length ≤ 1000000000 := Nat.le_trans (takeD_len h6) hl6
  have H6 := Lib.hid h6; clear h6
  have tl := toList_mkS (p :: c :: r)
  have zp := size_mkS (p :: c :: r)
  rw [List.length_cons, List.length_cons] at zp
  have lr : r.length ≤ 1000000000 := by simp at hl7; omega
  have xp : (mkS (p :: c :: r))[0]'(by rw [zp]; omega) = p := rfl
  have xc : (mkS (p :: c :: r))[1]'(by rw [zp]; omega) = c := rfl
  have cb : c.toNat < 256 := c.toNat_lt
  have b46 : ((p.toNat : Int) == 46) = true := beq_iff_eq.2 (by omega)
  clear hp
  go_enter Tryz.func145, Tryz.ntmps145
  go_wp2_with (first | (go_at_call 167; (with_reducible refine (dig4y l l1 y _ hl H1.out).mono ?_); rintro e w' ⟨rfl, ⟨q1, rfl⟩⟩) | (go_at_call 167; (with_reducible refine (dig2y l1 l2 m _ hl1 H2.out).mono ?_); rintro e w' ⟨rfl, ⟨q2, rfl⟩⟩) | (go_at_call 167; (with_reducible refine (dig2y l2 (t :: l4) d _ hl2 H3.out).mono ?_); rintro e w' ⟨rfl, ⟨q3, rfl⟩⟩) | (go_at_call 167; (with_reducible refine (dig2y l4 l5 hh _ hl4 H4.out).mono ?_); rintro e w' ⟨rfl, ⟨q4, rfl⟩⟩) | (go_at_call 167; (with_reducible refine (dig2y l5 l6 mm _ hl5 H5.out).mono ?_); rintro e w' ⟨rfl, ⟨q5, rfl⟩⟩) | (go_at_call 167; (with_reducible refine (dig2y l6 (p :: c :: r) ss _ hl6 H6.out).mono ?_); rintro e w' ⟨rfl, ⟨q6, rfl⟩⟩) | (go_at_call 160; refine (monthDays_any m y _).mono ?_; rintro e w' ⟨rfl, rfl⟩) | (go_at_call 134; refine (date_any y m d hh mm ss _ (by omega) (by omega) m1 m2 (by omega) (by omega) (by omega) (by omega) (by omega) (by omega) (by omega) (by omega) 0 (by omega) (by omega)).mono ?_; rintro e w4 ⟨rfl, hb4⟩; have hc4 := cell_below hb4 (a := ⟨w.heap.size, 0, none⟩) (v := .int .i64 0) (by simp); have hd4 := cell_below hb4 (a := ⟨w.heap.size, 1, none⟩) (v := .int .i64 0) (by simp); have hf4 := frozen_below hb4 (a := ⟨w.heap.size, 0, none⟩) (by simp <;> omega) (by simp); have hg4 := frozen_below hb4 (a := ⟨w.heap.size, 1, none⟩) (by simp <;> omega) (by simp)) | go_in)
  all_goals first
      | (refine bodyPost_ret (v := .tuple #[.agg #[.int .i64 0, .int .i64 0], .iface 194 (.pointer (some ⟨w.heap.size + 1, 0, none⟩))]) (by simp [results, Tryz.results145, go_sem]) rfl (post_fail (HR.out.symm.trans (parseTail_none ?_)) ⟨_, _, rfl, ?_⟩)
         · first | (left; simpa using ‹¬ _ = _›) | (right; omega)
         · repeat (first | exact Below.refl _ _ | refine Below.setCell ?_ (by simp) _ | refine below_drewN ?_ _ | refine Below.alloc ?_ (by simp) _))
      | (refine bodyPost_ret (v := .tuple #[.agg #[.int .i64 (dayNum y m d * 86400 + hh * 3600 + mm * 60 + ss), .int .i64 0], .nilIface]) (by simp [results, Tryz.results145, go_sem, hc4, hd4]) rfl (post_ok (HR.out.symm.trans (parseTail_some (by simp [*]) (by omega) (by omega))) rfl ?_)
         refine Below.setCell (Below.setCell (Below.trans ?_ (hb4.mono (by simp; omega))) (by simp) _) (by simp) _
         repeat (first | exact Below.refl _ _ | refine Below.setCell ?_ (by simp) _ | refine below_drewN ?_ _ | refine Below.alloc ?_ (by simp) _))

set_option maxRecDepth 100000 in
set_option maxHeartbeats 1600000 in
theorem parse_t8e1 (L L7 : ByteArray) (z : List UInt8) (l l1 l2 : List UInt8) (y m d : Int) (t : UInt8) (l4 : List UInt8) (l5 l6 : List UInt8) (p c : UInt8) (r : List UInt8) (hh mm ss : Int) (w : World) (hl : l.length ≤ 1000000000) (hL : Lay L L7 z) (h1 : takeD 4 l = some (y, l1)) (h2 : takeD 2 l1 = some (m, l2)) (m1 : 1 ≤ m) (m2 : m ≤ 12) (h3 : takeD 2 l2 = some (d, (t :: l4))) (ht : t.toNat = 84) (h4 : takeD 2 l4 = some (hh, l5)) (hb : hh ≤ 23) (h5 : takeD 2 l5 = some (mm, l6)) (mb : mm ≤ 59) (h6 : takeD 2 l6 = some (ss, (p :: c :: r))) (sb : ss ≤ 59) (_hp : ¬ p.toNat = 46) (hq : p.toNat = 44) (hc : c.toNat < 48) (R : Option (Int × Int)) (hR : parseTail y m d hh mm ss 0 ((p :: c :: r) == z) = R) :
    Calls Tryz.prog 145 #[.string L, .string (mkS l)] w (ParsePost w R) := by
  obtain ⟨y0, y9⟩ := takeD_bd h1
  obtain ⟨d0, d9⟩ := takeD_bd h3
  obtain ⟨h0, h9⟩ := takeD_bd h4
  obtain ⟨mm0, mm9⟩ := takeD_bd h5
  obtain ⟨ss0, ss9⟩ := takeD_bd h6
  have tz := toList_mkS z
  have HR := Lib.hid hR; clear hR
  have hl1 : l1.length ≤ 1000000000 := Nat.le_trans (takeD_len h1) hl
  have H1 := Lib.hid h1; clear h1
  have hl2 : l2.length ≤ 1000000000 := Nat.le_trans (takeD_len h2) hl1
  have H2 := Lib.hid h2; clear h2
  have hl3 : (t :: l4).length ≤ 1000000000 := Nat.le_trans (takeD_len h3) hl2
  have H3 := Lib.hid h3; clear h3
  obtain ⟨s8, h8, ne, s7, h7⟩ := hL
  have bs8 : (8 : Int) ≤ (L.size : Int) := by omega
  have hl4 : l4.length ≤ 1000000000 := by simp at hl3; omega
  have zz := size_mkS (t :: l4)
  rw [List.length_cons] at zz
  have x0 : (mkS (t :: l4))[0]'(by rw [zz]; omega) = t := rfl
  have x1 := extract1_mkS t l4
  have tb : ((t.toNat : Int) != 84) = false := bne_eq_false_iff_eq.2 (by omega)
  clear ht
  have hl5 : l5.length ≤ 1000000000 := Nat.le_trans (takeD_len h4) hl4
  have H4 := Lib.hid h4; clear h4
  have hl6 : l6.length ≤ 1000000000 := Nat.le_trans (takeD_len h5) hl5
  have H5 := Lib.hid h5; clear h5
  have hl7 : (p :: c :: r).length ≤ 1000000000 := Nat.le_trans (takeD_len h6) hl6
  have H6 := Lib.hid h6; clear h6
  have tl := toList_mkS (p :: c :: r)
  have zp := size_mkS (p :: c :: r)
  rw [List.length_cons, List.length_cons] at zp
  have lr : r.length ≤ 1000000000 := by simp at hl7; omega
  have xp : (mkS (p :: c :: r))[0]'(by rw [zp]; omega) = p := rfl
  have xc : (mkS (p :: c :: r))[1]'(by rw [zp]; omega) = c := rfl
  have cb : c.toNat < 256 := c.toNat_lt
  have b46 : ((p.toNat : Int) == 46) = false := beq_eq_false_iff_ne.2 (by omega)
  have b44 : ((p.toNat : Int) == 44) = true := beq_iff_eq.2 (by omega)
  clear _hp hq
  go_enter Tryz.func145, Tryz.ntmps145
  go_wp2_with (first | (go_at_call 167; (with_reducible refine (dig4y l l1 y _ hl H1.out).mono ?_); rintro e w' ⟨rfl, ⟨q1, rfl⟩⟩) | (go_at_call 167; (with_reducible refine (dig2y l1 l2 m _ hl1 H2.out).mono ?_); rintro e w' ⟨rfl, ⟨q2, rfl⟩⟩) | (go_at_call 167; (with_reducible refine (dig2y l2 (t :: l4) d _ hl2 H3.out).mono ?_); rintro e w' ⟨rfl, ⟨q3, rfl⟩⟩) | (go_at_call 167; (with_reducible refine (dig2y l4 l5 hh _ hl4 H4.out).mono ?_); rintro e w' ⟨rfl, ⟨q4, rfl⟩⟩) | (go_at_call 167; (with_reducible refine (dig2y l5 l6 mm _ hl5 H5.out).mono ?_); rintro e w' ⟨rfl, ⟨q5, rfl⟩⟩) | (go_at_call 167; (with_reducible refine (dig2y l6 (p :: c :: r) ss _ hl6 H6.out).mono ?_); rintro e w' ⟨rfl, ⟨q6, rfl⟩⟩) | (go_at_call 160; refine (monthDays_any m y _).mono ?_; rintro e w' ⟨rfl, rfl⟩) | (go_at_call 134; refine (date_any y m d hh mm ss _ (by omega) (by omega) m1 m2 (by omega) (by omega) (by omega) (by omega) (by omega) (by omega) (by omega) (by omega) 0 (by omega) (by omega)).mono ?_; rintro e w4 ⟨rfl, hb4⟩; have hc4 := cell_below hb4 (a := ⟨w.heap.size, 0, none⟩) (v := .int .i64 0) (by simp); have hd4 := cell_below hb4 (a := ⟨w.heap.size, 1, none⟩) (v := .int .i64 0) (by simp); have hf4 := frozen_below hb4 (a := ⟨w.heap.size, 0, none⟩) (by simp <;> omega) (by simp); have hg4 := frozen_below hb4 (a := ⟨w.heap.size, 1, none⟩) (by simp <;> omega) (by simp)) | go_in)
  all_goals first
      | (refine bodyPost_ret (v := .tuple #[.agg #[.int .i64 0, .int .i64 0], .iface 194 (.pointer (some ⟨w.heap.size + 1, 0, none⟩))]) (by simp [results, Tryz.results145, go_sem]) rfl (post_fail (HR.out.symm.trans (parseTail_none ?_)) ⟨_, _, rfl, ?_⟩)
         · first | (left; simpa using ‹¬ _ = _›) | (right; omega)
         · repeat (first | exact Below.refl _ _ | refine Below.setCell ?_ (by simp) _ | refine below_drewN ?_ _ | refine Below.alloc ?_ (by simp) _))
      | (refine bodyPost_ret (v := .tuple #[.agg #[.int .i64 (dayNum y m d * 86400 + hh * 3600 + mm * 60 + ss), .int .i64 0], .nilIface]) (by simp [results, Tryz.results145, go_sem, hc4, hd4]) rfl (post_ok (HR.out.symm.trans (parseTail_some (by simp [*]) (by omega) (by omega))) rfl ?_)
         refine Below.setCell (Below.setCell (Below.trans ?_ (hb4.mono (by simp; omega))) (by simp) _) (by simp) _
         repeat (first | exact Below.refl _ _ | refine Below.setCell ?_ (by simp) _ | refine below_drewN ?_ _ | refine Below.alloc ?_ (by simp) _))

set_option maxRecDepth 100000 in
set_option maxHeartbeats 1600000 in
theorem parse_t8d2 (L L7 : ByteArray) (z : List UInt8) (l l1 l2 : List UInt8) (y m d : Int) (t : UInt8) (l4 : List UInt8) (l5 l6 : List UInt8) (p c : UInt8) (r : List UInt8) (hh mm ss : Int) (w : World) (hl : l.length ≤ 1000000000) (hL : Lay L L7 z) (h1 : takeD 4 l = some (y, l1)) (h2 : takeD 2 l1 = some (m, l2)) (m1 : 1 ≤ m) (m2 : m ≤ 12) (h3 : takeD 2 l2 = some (d, (t :: l4))) (ht : t.toNat = 84) (h4 : takeD 2 l4 = some (hh, l5)) (hb : hh ≤ 23) (h5 : takeD 2 l5 = some (mm, l6)) (mb : mm ≤ 59) (h6 : takeD 2 l6 = some (ss, (p :: c :: r))) (sb : ss ≤ 59) (hp : p.toNat = 46) (hc : 57 < c.toNat) (R : Option (Int × Int)) (hR : parseTail y m d hh mm ss 0 ((p :: c :: r) == z) = R) :
    Calls Tryz.prog 145 #[.string L, .string (mkS l)] w (ParsePost w R) := by
  obtain ⟨y0, y9⟩ := takeD_bd h1
  obtain ⟨d0, d9⟩ := takeD_bd h3
  obtain ⟨h0, h9⟩ := takeD_bd h4
  obtain ⟨mm0, mm9⟩ := takeD_bd h5
  obtain ⟨ss0, ss9⟩ := takeD_bd h6
  have tz := toList_mkS z
  have HR := Lib.hid hR; clear hR
  have hl1 : l1.length ≤ 1000000000 := Nat.le_trans (takeD_len h1) hl
  have H1 := Lib.hid h1; clear h1
  have hl2 : l2.length ≤ 1000000000 := Nat.le_trans (takeD_len h2) hl1
  have H2 := Lib.hid h2; clear h2
  have hl3 : (t :: l4).length ≤ 1000000000 := Nat.le_trans (takeD_len h3) hl2
  have H3 := Lib.hid h3; clear h3
  obtain ⟨s8, h8, ne, s7, h7⟩ := hL
  have bs8 : (8 : Int) ≤ (L.size : Int) := by omega
  have hl4 : l4.length ≤ 1000000000 := by simp at hl3; omega
  have zz := size_mkS (t :: l4)
  rw [List.length_cons] at zz
  have x0 : (mkS (t :: l4))[0]'(by rw [zz]; omega) = t := rfl
  have x1 := extract1_mkS t l4
  have tb : ((t.toNat : Int) != 84) = false := bne_eq_false_iff_eq.2 (by omega)
  clear ht
  have hl5 : l5.length ≤ 1000000000 := Nat.le_trans (takeD_len h4) hl4
  have H4 := Lib.hid h4; clear h4
  have hl6 : l6.length ≤ 1000000000 := Nat.le_trans (takeD_len h5) hl5
  have H5 := Lib.hid h5; clear h5
  have hl7 : (p :: c :: r).length ≤ 1000000000 := Nat.le_trans (takeD_len h6) hl6
  have H6 := Lib.hid h6; clear h6
  have tl := toList_mkS (p :: c :: r)
  have zp := size_mkS (p :: c :: r)
  rw [List.length_cons, List.length_cons] at zp
  have lr : r.length ≤ 1000000000 := by simp at hl7; omega
  have xp : (mkS (p :: c :: r))[0]'(by rw [zp]; omega) = p := rfl
  have xc : (mkS (p :: c :: r))[1]'(by rw [zp]; omega) = c := rfl
  have cb : c.toNat < 256 := c.toNat_lt
  have b46 : ((p.toNat : Int) == 46) = true := beq_iff_eq.2 (by omega)
  clear hp
  go_enter Tryz.func145, Tryz.ntmps145
  go_wp2_with (first | (go_at_call 167; (with_reducible refine (dig4y l l1 y _ hl H1.out).mono ?_); rintro e w' ⟨rfl, ⟨q1, rfl⟩⟩) | (go_at_call 167; (with_reducible refine (dig2y l1 l2 m _ hl1 H2.out).mono ?_); rintro e w' ⟨rfl, ⟨q2, rfl⟩⟩) | (go_at_call 167; (with_reducible refine (dig2y l2 (t :: l4) d _ hl2 H3.out).mono ?_); rintro e w' ⟨rfl, ⟨q3, rfl⟩⟩) | (go_at_call 167; (with_reducible refine (dig2y l4 l5 hh _ hl4 H4.out).mono ?_); rintro e w' ⟨rfl, ⟨q4, rfl⟩⟩) | (go_at_call 167; (with_reducible refine (dig2y l5 l6 mm _ hl5 H5.out).mono ?_); rintro e w' ⟨rfl, ⟨q5, rfl⟩⟩) | (go_at_call 167; (with_reducible refine (dig2y l6 (p :: c :: r) ss _ hl6 H6.out).mono ?_); rintro e w' ⟨rfl, ⟨q6, rfl⟩⟩) | (go_at_call 160; refine (monthDays_any m y _).mono ?_; rintro e w' ⟨rfl, rfl⟩) | (go_at_call 134; refine (date_any y m d hh mm ss _ (by omega) (by omega) m1 m2 (by omega) (by omega) (by omega) (by omega) (by omega) (by omega) (by omega) (by omega) 0 (by omega) (by omega)).mono ?_; rintro e w4 ⟨rfl, hb4⟩; have hc4 := cell_below hb4 (a := ⟨w.heap.size, 0, none⟩) (v := .int .i64 0) (by simp); have hd4 := cell_below hb4 (a := ⟨w.heap.size, 1, none⟩) (v := .int .i64 0) (by simp); have hf4 := frozen_below hb4 (a := ⟨w.heap.size, 0, none⟩) (by simp <;> omega) (by simp); have hg4 := frozen_below hb4 (a := ⟨w.heap.size, 1, none⟩) (by simp <;> omega) (by simp)) | go_in)
  all_goals first
      | (refine bodyPost_ret (v := .tuple #[.agg #[.int .i64 0, .int .i64 0], .iface 194 (.pointer (some ⟨w.heap.size + 1, 0, none⟩))]) (by simp [results, Tryz.results145, go_sem]) rfl (post_fail (HR.out.symm.trans (parseTail_none ?_)) ⟨_, _, rfl, ?_⟩)
         · first | (left; simpa using ‹¬ _ = _›) | (right; omega)
         · repeat (first | exact Below.refl _ _ | refine Below.setCell ?_ (by simp) _ | refine below_drewN ?_ _ | refine Below.alloc ?_ (by simp) _))
      | (refine bodyPost_ret (v := .tuple #[.agg #[.int .i64 (dayNum y m d * 86400 + hh * 3600 + mm * 60 + ss), .int .i64 0], .nilIface]) (by simp [results, Tryz.results145, go_sem, hc4, hd4]) rfl (post_ok (HR.out.symm.trans (parseTail_some (by simp [*]) (by omega) (by omega))) rfl ?_)
         refine Below.setCell (Below.setCell (Below.trans ?_ (hb4.mono (by simp; omega))) (by simp) _) (by simp) _
         repeat (first | exact Below.refl _ _ | refine Below.setCell ?_ (by simp) _ | refine below_drewN ?_ _ | refine Below.alloc ?_ (by simp) _))

set_option maxRecDepth 100000 in
set_option maxHeartbeats 1600000 in
theorem parse_t8e2 (L L7 : ByteArray) (z : List UInt8) (l l1 l2 : List UInt8) (y m d : Int) (t : UInt8) (l4 : List UInt8) (l5 l6 : List UInt8) (p c : UInt8) (r : List UInt8) (hh mm ss : Int) (w : World) (hl : l.length ≤ 1000000000) (hL : Lay L L7 z) (h1 : takeD 4 l = some (y, l1)) (h2 : takeD 2 l1 = some (m, l2)) (m1 : 1 ≤ m) (m2 : m ≤ 12) (h3 : takeD 2 l2 = some (d, (t :: l4))) (ht : t.toNat = 84) (h4 : takeD 2 l4 = some (hh, l5)) (hb : hh ≤ 23) (h5 : takeD 2 l5 = some (mm, l6)) (mb : mm ≤ 59) (h6 : takeD 2 l6 = some (ss, (p :: c :: r))) (sb : ss ≤ 59) (_hp : ¬ p.toNat = 46) (hq : p.toNat = 44) (hc : 57 < c.toNat) (R : Option (Int × Int)) (hR : parseTail y m d hh mm ss 0 ((p :: c :: r) == z) = R) :
    Calls Tryz.prog 145 #[.string L, .string (mkS l)] w (ParsePost w R) := by
  obtain ⟨y0, y9⟩ := takeD_bd h1
  obtain ⟨d0, d9⟩ := takeD_bd h3
  obtain ⟨h0, h9⟩ := takeD_bd h4
  obtain ⟨mm0, mm9⟩ := takeD_bd h5
  obtain ⟨ss0, ss9⟩ := takeD_bd h6
  have tz := toList_mkS z
  have HR := Lib.hid hR; clear hR
  have hl1 : l1.length ≤ 1000000000 := Nat.le_trans (takeD_len h1) hl
  have H1 := Lib.hid h1; clear h1
  have hl2 : l2.length ≤ 1000000000 := Nat.le_trans (takeD_len h2) hl1
  have H2 := Lib.hid h2; clear h2
  have hl3 : (t :: l4).length ≤ 1000000000 := Nat.le_trans (takeD_len h3) hl2
  have H3 := Lib.hid h3; clear h3
  obtain ⟨s8, h8, ne, s7, h7⟩ := hL
  have bs8 : (8 : Int) ≤ (L.size : Int) := by omega
  have hl4 : l4.length ≤ 1000000000 := by simp at hl3; omega
  have zz := size_mkS (t :: l4)
  rw [List.length_cons] at zz
  have x0 : (mkS (t :: l4))[0]'(by rw [zz]; omega) = t := rfl
  have x1 := extract1_mkS t l4
  have tb : ((t.toNat : Int) != 84) = false := bne_eq_false_iff_eq.2 (by omega)
  clear ht
  have hl5 : l5.length ≤ 1000000000 := Nat.le_trans (takeD_len h4) hl4
  have H4 := Lib.hid h4; clear h4
  have hl6 : l6.length ≤ 1000000000 := Nat.le_trans (takeD_len h5) hl5
  have H5 := Lib.hid h5; clear h5
  have hl7 : (p :: c :: r).length ≤ 1000000000 := Nat.le_trans (takeD_len h6) hl6
  have H6 := Lib.hid h6; clear h6
  have tl := toList_mkS (p :: c :: r)
  have zp := size_mkS (p :: c :: r)
  rw [List.length_cons, List.length_cons] at zp
  have lr : r.length ≤ 1000000000 := by simp at hl7; omega
  have xp : (mkS (p :: c :: r))[0]'(by rw [zp]; omega) = p := rfl
  have xc : (mkS (p :: c :: r))[1]'(by rw [zp]; omega) = c := rfl
  have cb : c.toNat < 256 := c.toNat_lt
  have b46 : ((p.toNat : Int) == 46) = false := beq_eq_false_iff_ne.2 (by omega)
  have b44 : ((p.toNat : Int) == 44) = true := beq_iff_eq.2 (by omega)
  clear _hp hq
  go_enter Tryz.func145, Tryz.ntmps145
  go_wp2_with (first | (go_at_call 167; (with_reducible refine (dig4y l l1 y _ hl H1.out).mono ?_); rintro e w' ⟨rfl, ⟨q1, rfl⟩⟩) | (go_at_call 167; (with_reducible refine (dig2y l1 l2 m _ hl1 H2.out).mono ?_); rintro e w' ⟨rfl, ⟨q2, rfl⟩⟩) | (go_at_call 167; (with_reducible refine (dig2y l2 (t :: l4) d _ hl2 H3.out).mono ?_); rintro e w' ⟨rfl, ⟨q3, rfl⟩⟩) | (go_at_call 167; (with_reducible refine (dig2y l4 l5 hh _ hl4 H4.out).mono ?_); rintro e w' ⟨rfl, ⟨q4, rfl⟩⟩) | (go_at_call 167; (with_reducible refine (dig2y l5 l6 mm _ hl5 H5.out).mono ?_); rintro e w' ⟨rfl, ⟨q5, rfl⟩⟩) | (go_at_call 167; (with_reducible refine (dig2y l6 (p :: c :: r) ss _ hl6 H6.out).mono ?_); rintro e w' ⟨rfl, ⟨q6, rfl⟩⟩) | (go_at_call 160; refine (monthDays_any m y _).mono ?_; rintro e w' ⟨rfl, rfl⟩) | (go_at_call 134; refine (date_any y m d hh mm ss _ (by omega) (by omega) m1 m2 (by omega) (by omega) (by omega) (by omega) (by omega) (by omega) (by omega) (by omega) 0 (by omega) (by omega)).mono ?_; rintro e w4 ⟨rfl, hb4⟩; have hc4 := cell_below hb4 (a := ⟨w.heap.size, 0, none⟩) (v := .int .i64 0) (by simp); have hd4 := cell_below hb4 (a := ⟨w.heap.size, 1, none⟩) (v := .int .i64 0) (by simp); have hf4 := frozen_below hb4 (a := ⟨w.heap.size, 0, none⟩) (by simp <;> omega) (by simp); have hg4 := frozen_below hb4 (a := ⟨w.heap.size, 1, none⟩) (by simp <;> omega) (by simp)) | go_in)
  all_goals first
      | (refine bodyPost_ret (v := .tuple #[.agg #[.int .i64 0, .int .i64 0], .iface 194 (.pointer (some ⟨w.heap.size + 1, 0, none⟩))]) (by simp [results, Tryz.results145, go_sem]) rfl (post_fail (HR.out.symm.trans (parseTail_none ?_)) ⟨_, _, rfl, ?_⟩)
         · first | (left; simpa using ‹¬ _ = _›) | (right; omega)
         · repeat (first | exact Below.refl _ _ | refine Below.setCell ?_ (by simp) _ | refine below_drewN ?_ _ | refine Below.alloc ?_ (by simp) _))
      | (refine bodyPost_ret (v := .tuple #[.agg #[.int .i64 (dayNum y m d * 86400 + hh * 3600 + mm * 60 + ss), .int .i64 0], .nilIface]) (by simp [results, Tryz.results145, go_sem, hc4, hd4]) rfl (post_ok (HR.out.symm.trans (parseTail_some (by simp [*]) (by omega) (by omega))) rfl ?_)
         refine Below.setCell (Below.setCell (Below.trans ?_ (hb4.mono (by simp; omega))) (by simp) _) (by simp) _
         repeat (first | exact Below.refl _ _ | refine Below.setCell ?_ (by simp) _ | refine below_drewN ?_ _ | refine Below.alloc ?_ (by simp) _))

