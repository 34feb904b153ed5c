import Derived.Test.YtcfbkkcamiephaaGreatDoorC6
import Derived.Test.YtcfbkkcamiephaaGreatDoorShelf
namespace Go.Proofs.YtcfbkkcamiephaaGreatDoor
open Go.RowKit

theorem next2 {w w1 w2 : World} {b : Nat} {x y : Value} (hb : Below w1.heap.size w1 w2) (HB : Below w.heap.size w w1) (hz : b < w1.heap.size) (hc : w1.cell? ⟨b, 0, none⟩ = some x) (hd : w1.cell? ⟨b, 1, none⟩ = some y)
    (hf : w1.frozen? ⟨b, 0, none⟩ = false) (hg : w1.frozen? ⟨b, 1, none⟩ = false) :
    Below w.heap.size w w2 ∧ b < w2.heap.size ∧ w2.cell? ⟨b, 0, none⟩ = some x ∧ w2.cell? ⟨b, 1, none⟩ = some y ∧ w2.frozen? ⟨b, 0, none⟩ = false ∧ w2.frozen? ⟨b, 1, none⟩ = false :=
  ⟨HB.trans (hb.mono HB.size), Nat.lt_of_lt_of_le hz hb.size, cell_below hb hc, cell_below hb hd, frozen_below hb hz hf, frozen_below hb hz hg⟩
def parseAny (R : Option (Int × Int)) (L : ByteArray) (l : List UInt8) : Prop := ∀ w, Calls Tryz.prog 145 #[.string L, .string (mkS l)] w (TPost w R)
set_option maxRecDepth 100000 in
set_option maxHeartbeats 800000 in
theorem inLoc_any (L : ByteArray) (l : List UInt8) (R : Option (Int × Int)) (w : World) (h : parseAny R L l) :
    Calls Tryz.prog 144 #[.string L, .string (mkS l), .agg #[]] w (TPost w R) := by
  go_enter Tryz.func144, Tryz.ntmps144
  go_wp2_with (go_at_call 145; refine (h _).mono ?_; rintro e w4 ⟨s, n, ev, rfl, hb4, hres⟩; have hc4 := cell_below hb4 (a := ⟨w.heap.size + 1, 0, none⟩) (v := .int .i64 0) (by simp); have hd4 := cell_below hb4 (a := ⟨w.heap.size + 1, 1, none⟩) (v := .int .i64 0) (by simp); have hf4 := frozen_below hb4 (a := ⟨w.heap.size + 1, 0, none⟩) (by simp <;> omega) (by simp); have hg4 := frozen_below hb4 (a := ⟨w.heap.size + 1, 1, none⟩) (by simp <;> omega) (by simp))
  refine bodyPost_ret (v := .tuple #[.agg #[.int .i64 s, .int .i64 n], ev]) (by simp [results, Tryz.results144, go_sem, hc4, hd4]) rfl ⟨s, n, ev, rfl, ?_, hres⟩
  refine Below.setCell (Below.setCell (Below.trans ?_ (hb4.mono (by simp <;> omega))) (by simp) _) (by simp) _
  repeat (first | exact Below.refl _ _ | refine Below.alloc ?_ (by simp) _)
def timeT (l : List UInt8) : Option (Int × Int) := if l.length = 8 then parseT none l else if l.length = 15 then parseT (some []) l else parseT (some [90]) l
theorem pAny_date (l : List UInt8) (hl : l.length ≤ 1000000000) : parseAny (parseT none l) ⟨#[50, 48, 48, 54, 48, 49, 48, 50]⟩ l := fun w => (parse_date l w hl).mono fun _ _ h => TPost.of h
theorem pAny_15 (l : List UInt8) (hl : l.length ≤ 1000000000) : parseAny (parseT (some []) l) ⟨#[50, 48, 48, 54, 48, 49, 48, 50, 84, 49, 53, 48, 52, 48, 53]⟩ l := fun w => (parse_time _ _ _ l w hl lay15).mono fun _ _ h => TPost.of h
theorem pAny_16 (l : List UInt8) (hl : l.length ≤ 1000000000) : parseAny (parseT (some [90]) l) ⟨#[50, 48, 48, 54, 48, 49, 48, 50, 84, 49, 53, 48, 52, 48, 53, 90]⟩ l := fun w => (parse_time _ _ _ l w hl lay16).mono fun _ _ h => TPost.of h
set_option maxRecDepth 100000 in
set_option maxHeartbeats 1600000 in
theorem strToTime_any (l : List UInt8) (w : World) (hl : l.length ≤ 1000000000) :
    Calls Tryz.prog 110 #[.string (mkS l), .agg #[]] w (TPost w (timeT l)) := by
  have zz := size_mkS l
  by_cases h8 : l.length = 8
  · have hP := pAny_date l hl
    have hT : timeT l = parseT none l := if_pos h8
    rw [hT]
    generalize parseT none l = R at hP
    rw [h8] at zz
    clear h8 hT hl
    go_enter Tryz.func110, Tryz.ntmps110
    go_wp2_with (go_at_call 144; refine (inLoc_any _ l R _ hP).mono ?_; rintro e w4 ⟨s, n, ev, rfl, hb4, hres⟩; have hc4 := cell_below hb4 (a := ⟨w.heap.size + 1, 0, none⟩) (v := .int .i64 0) (by simp); have hd4 := cell_below hb4 (a := ⟨w.heap.size + 1, 1, none⟩) (v := .int .i64 0) (by simp); have hf4 := frozen_below hb4 (a := ⟨w.heap.size + 1, 0, none⟩) (by simp <;> omega) (by simp); have hg4 := frozen_below hb4 (a := ⟨w.heap.size + 1, 1, none⟩) (by simp <;> omega) (by simp))
    refine bodyPost_ret (v := .tuple #[.agg #[.int .i64 s, .int .i64 n], ev]) (by simp [results, Tryz.results110, go_sem, hc4, hd4]) rfl ⟨s, n, ev, rfl, ?_, hres⟩
    refine Below.setCell (Below.setCell (Below.trans ?_ (hb4.mono (by simp <;> omega))) (by simp) _) (by simp) _
    repeat (first | exact Below.refl _ _ | refine Below.alloc ?_ (by simp) _)
  · by_cases h15 : l.length = 15
    · have hP := pAny_15 l hl
      have hT : timeT l = parseT (some []) l := by unfold timeT; rw [if_neg h8, if_pos h15]
      rw [hT]
      generalize parseT (some []) l = R at hP
      rw [h15] at zz
      clear h8 h15 hT hl
      go_enter Tryz.func110, Tryz.ntmps110
      go_wp2_with (go_at_call 144; refine (inLoc_any _ l R _ hP).mono ?_; rintro e w4 ⟨s, n, ev, rfl, hb4, hres⟩; have hc4 := cell_below hb4 (a := ⟨w.heap.size + 1, 0, none⟩) (v := .int .i64 0) (by simp); have hd4 := cell_below hb4 (a := ⟨w.heap.size + 1, 1, none⟩) (v := .int .i64 0) (by simp); have hf4 := frozen_below hb4 (a := ⟨w.heap.size + 1, 0, none⟩) (by simp <;> omega) (by simp); have hg4 := frozen_below hb4 (a := ⟨w.heap.size + 1, 1, none⟩) (by simp <;> omega) (by simp))
      refine bodyPost_ret (v := .tuple #[.agg #[.int .i64 s, .int .i64 n], ev]) (by simp [results, Tryz.results110, go_sem, hc4, hd4]) rfl ⟨s, n, ev, rfl, ?_, hres⟩
      refine Below.setCell (Below.setCell (Below.trans ?_ (hb4.mono (by simp <;> omega))) (by simp) _) (by simp) _
      repeat (first | exact Below.refl _ _ | refine Below.alloc ?_ (by simp) _)
    · have hP := pAny_16 l hl
      have hT : timeT l = parseT (some [90]) l := by unfold timeT; rw [if_neg h8, if_neg h15]
      rw [hT]
      generalize parseT (some [90]) l = R at hP
      have c8 : ((l.length : Int) == 8) = false := beq_eq_false_iff_ne.2 (by omega)
      have c15 : ((l.length : Int) == 15) = false := beq_eq_false_iff_ne.2 (by omega)
      clear h8 h15 hT hl
      go_enter Tryz.func110, Tryz.ntmps110
      go_wp2_with (go_at_call 145; refine (hP _).mono ?_; rintro e w4 ⟨s, n, ev, rfl, hb4, hres⟩; have hc4 := cell_below hb4 (a := ⟨w.heap.size + 1, 0, none⟩) (v := .int .i64 0) (by simp); have hd4 := cell_below hb4 (a := ⟨w.heap.size + 1, 1, none⟩) (v := .int .i64 0) (by simp); have hf4 := frozen_below hb4 (a := ⟨w.heap.size + 1, 0, none⟩) (by simp <;> omega) (by simp); have hg4 := frozen_below hb4 (a := ⟨w.heap.size + 1, 1, none⟩) (by simp <;> omega) (by simp))
      refine bodyPost_ret (v := .tuple #[.agg #[.int .i64 s, .int .i64 n], ev]) (by simp [results, Tryz.results110, go_sem, hc4, hd4]) rfl ⟨s, n, ev, rfl, ?_, hres⟩
      refine Below.setCell (Below.setCell (Below.trans ?_ (hb4.mono (by simp <;> omega))) (by simp) _) (by simp) _
      repeat (first | exact Below.refl _ _ | refine Below.alloc ?_ (by simp) _)

/-! ### zones -/
def LocPost (w : World) (ok : Bool) (e : Ending) (w' : World) : Prop := ∃ ev, e = .returned (.tuple #[.agg #[], ev]) ∧ Below w.heap.size w w' ∧ (match ok with | true => ev = .nilIface | false => ∃ T p, ev = .iface T (.pointer (some p)))
set_option maxRecDepth 100000 in
set_option maxHeartbeats 400000 in
theorem loadLoc_any (l : List UInt8) (w : World) (hl : l.length ≤ 1000000000) : Calls Tryz.prog 143 #[.string (mkS l)] w (LocPost w (l == [85, 84, 67])) := by
  have tl := toList_mkS l
  by_cases h : l = [85, 84, 67]
  · subst h
    go_enter Tryz.func143, Tryz.ntmps143
    go_wp2
    refine bodyPost_ret (v := .tuple #[.agg #[], .nilIface]) (by simp [results, Tryz.results143, go_sem]) rfl ⟨_, rfl, ?_, rfl⟩
    repeat (first | exact Below.refl _ _ | refine Below.alloc ?_ (by simp) _)
  · have hb : (l == [85, 84, 67]) = false := by simpa using h
    have hb2 : (!l == [85, 84, 67]) = true := by rw [hb]; rfl
    rw [hb]
    have zz := size_mkS l
    clear h hb
    go_enter Tryz.func143, Tryz.ntmps143
    go_wp2
    refine bodyPost_ret (v := .tuple #[.agg #[], .iface 194 (.pointer (some ⟨w.heap.size + 1, 0, none⟩))]) (by simp [results, Tryz.results143, go_sem]) rfl ⟨_, rfl, ?_, _, _, rfl⟩
    repeat (first | exact Below.refl _ _ | refine Below.alloc ?_ (by simp) _)
/-- is it the zone UTC? -/
def tzOk (l : List UInt8) : Bool := l == [84, 90, 73, 68, 61, 85, 84, 67]
set_option maxRecDepth 100000 in
set_option maxHeartbeats 800000 in
theorem tzid_any (l : List UInt8) (w : World) (hl : l.length ≤ 1000000000) : Calls Tryz.prog 109 #[.string (mkS l)] w (LocPost w (tzOk l)) := by
  have zz := size_mkS l
  by_cases hp : ∃ r, l = 84 :: 90 :: 73 :: 68 :: 61 :: r
  · obtain ⟨r, rfl⟩ := hp
    have hpp : Lib.hasPrefix (84 :: 90 :: 73 :: 68 :: 61 :: r) [84, 90, 73, 68, 61] = true := by simp [Lib.hasPrefix, List.isPrefixOf]
    have HP := Lib.hid hpp; clear hpp
    have hr : tzOk (84 :: 90 :: 73 :: 68 :: 61 :: r) = (r == [85, 84, 67]) := by unfold tzOk; rw [Bool.eq_iff_iff]; simp
    rw [hr]; clear hr
    have he : (mkS (84 :: 90 :: 73 :: 68 :: 61 :: r)).extract 5 (r.length + 5) = mkS r := by rw [extract_mkS, mkS_data]; simp
    have hlr : r.length ≤ 1000000000 := by simp at hl; omega
    simp only [List.length_cons] at zz
    rw [show r.length + 1 + 1 + 1 + 1 + 1 = r.length + 5 by omega] at zz
    by_cases h0 : r = []
    · subst h0
      simp at zz
      go_enter Tryz.func109, Tryz.ntmps109
      go_wp2_with (first | (go_at_call 142; refine (Tryz.strings_HasPrefix _ _ _).mono ?_; rintro e w' ⟨rfl, rfl⟩; rw [mkS_data, HP.out]) | go_in)
      refine bodyPost_ret (v := .tuple #[.agg #[], .iface 194 (.pointer (some ⟨w.heap.size + 1, 0, none⟩))]) (by simp [results, Tryz.results109, go_sem]) rfl ⟨_, rfl, ?_, _, _, rfl⟩
      repeat (first | exact Below.refl _ _ | refine Below.alloc ?_ (by simp) _)
    · have hpos : 0 < r.length := List.length_pos_iff.2 h0
      have c5 : ((r.length : Int) + 5 == 5) = false := beq_eq_false_iff_ne.2 (by omega)
      clear h0
      generalize hok : (r == [85, 84, 67]) = ok
      have HOK := Lib.hid hok; clear hok
      go_enter Tryz.func109, Tryz.ntmps109
      go_wp2_with (first | (go_at_call 142; refine (Tryz.strings_HasPrefix _ _ _).mono ?_; rintro e w' ⟨rfl, rfl⟩; rw [mkS_data, HP.out]) | (go_at_call 143; refine (loadLoc_any r _ hlr).mono ?_; rw [HOK.out]; rintro e w4 ⟨ev, rfl, hb4, hres⟩) | go_in)
      refine bodyPost_ret (v := .tuple #[.agg #[], ev]) (by simp [results, Tryz.results109, go_sem]) rfl ⟨_, rfl, ?_, hres⟩
      refine Below.trans ?_ (hb4.mono (by simp <;> omega))
      repeat (first | exact Below.refl _ _ | refine Below.alloc ?_ (by simp) _)
  · have hpp : Lib.hasPrefix l [84, 90, 73, 68, 61] = false := by
      rw [Bool.eq_false_iff]
      intro h
      apply hp
      unfold Lib.hasPrefix at h
      rw [List.isPrefixOf_iff_prefix] at h
      obtain ⟨r, hr⟩ := h
      exact ⟨r, by rw [← hr]; rfl⟩
    have HP := Lib.hid hpp; clear hpp
    have hr : tzOk l = false := by
      unfold tzOk
      rw [Bool.eq_false_iff]
      intro h
      exact hp ⟨[85, 84, 67], by simpa using h⟩
    rw [hr]; clear hr hp
    go_enter Tryz.func109, Tryz.ntmps109
    go_wp2_with (first | (go_at_call 142; refine (Tryz.strings_HasPrefix _ _ _).mono ?_; rintro e w' ⟨rfl, rfl⟩; rw [mkS_data, HP.out]) | go_in)
    refine bodyPost_ret (v := .tuple #[.agg #[], .iface 194 (.pointer (some ⟨w.heap.size + 1, 0, none⟩))]) (by simp [results, Tryz.results109, go_sem]) rfl ⟨_, rfl, ?_, _, _, rfl⟩
    repeat (first | exact Below.refl _ _ | refine Below.alloc ?_ (by simp) _)
