import Derived.Test.YtcfbkkcamiephaaGreatDoorC7
import Derived.Deep.RegionWith
import Derived.StillTailTactics
namespace Go.Proofs.YtcfbkkcamiephaaGreatDoor
open Go.RowKit

def startT (l : List UInt8) : Option (Int × Int) := match splitL 58 l with
  | [a] => timeT a
  | [a, b] => if tzOk a then timeT b else none
  | _ => none
theorem split_len {c : UInt8} {l : List UInt8} {x : List UInt8} (h : x ∈ splitL c l) : x.length ≤ l.length := by
  induction l generalizing x with
  | nil => simp [splitL] at h; subst h; simp
  | cons y r ih =>
    simp only [splitL] at h
    split at h
    · rcases List.mem_cons.1 h with rfl | h
      · simp
      · have := ih h; simp; omega
    · split at h
      · simp at h; subst h; simp
      · rename_i a t heq
        rcases List.mem_cons.1 h with rfl | h
        · have := ih (x := a) (by rw [heq]; simp); simp; omega
        · have := ih (x := x) (by rw [heq]; simp [h]); simp; omega
set_option maxRecDepth 100000 in
set_option maxHeartbeats 1600000 in
theorem start_1 (l a : List UInt8) (w : World) (hl : l.length ≤ 1000000000) (hS : splitL 58 l = [a]) :
    Calls Tryz.prog 77 #[.string (mkS l), .agg #[]] w (TPost w (timeT a)) := by
  have hla : a.length ≤ 1000000000 := Nat.le_trans (split_len (c := 58) (l := l) (by rw [hS]; simp)) hl
  have hsp := fun w => zzSplit_any (mkS l) 58 w (by rw [size_mkS]; omega)
  rw [mkS_data, hS] at hsp
  have H := Lib.hid hsp; clear hsp hS
  generalize hR : timeT a = R
  have hT := fun w => strToTime_any a w hla
  rw [hR] at hT
  have HT := Lib.hid hT; clear hT hR
  go_enter Tryz.func77, Tryz.ntmps77
  go_wp2_with (first
    | (go_at_call 107; refine (H.out _).mono ?_; rintro e w1 ⟨g, cc, rfl, hg, hrow, hb1⟩; have ca := hrow.cell 0 _ rfl; have HB1 : Below w.heap.size w w1 := Below.trans (by repeat (first | exact Below.refl _ _ | refine Below.alloc ?_ (by simp) _)) (hb1.mono (by first | omega | (simp; done) | (simp; omega))); have hz1 := HB1.size; have hc1 := cell_below hb1 (a := ⟨w.heap.size + 1, 0, none⟩) (v := .int .i64 0) (by simp); have hd1 := cell_below hb1 (a := ⟨w.heap.size + 1, 1, none⟩) (v := .int .i64 0) (by simp); have hf1 := frozen_below hb1 (a := ⟨w.heap.size + 1, 0, none⟩) (by first | omega | (simp; done) | (simp; omega)) (by simp); have hg1 := frozen_below hb1 (a := ⟨w.heap.size + 1, 1, none⟩) (by first | omega | (simp; done) | (simp; omega)) (by simp)))
  go_region_with (go_at_call 110; refine (HT.out _).mono ?_; rintro e w4 ⟨s, n, ev, rfl, hb4, hres⟩; have hc4 := cell_below hb4 (a := ⟨w.heap.size + 1, 0, none⟩) (v := .int .i64 0) (by simp [hc1]); have hd4 := cell_below hb4 (a := ⟨w.heap.size + 1, 1, none⟩) (v := .int .i64 0) (by simp [hd1]); have hf4 := frozen_below hb4 (a := ⟨w.heap.size + 1, 0, none⟩) (by have := hb1.size; try simp at this ⊢; omega) (by simp [hf1]); have hg4 := frozen_below hb4 (a := ⟨w.heap.size + 1, 1, none⟩) (by have := hb1.size; try simp at this ⊢; omega) (by simp [hg1]))
  all_goals
    go_wp2
    refine bodyPost_ret (v := .tuple #[.agg #[.int .i64 s, .int .i64 n], ev]) (by simp [results, Tryz.results77, go_sem, hc4, hd4]) rfl ⟨s, n, ev, rfl, ?_, hres⟩
    repeat (first | exact HB1 | refine Below.setCell ?_ (by simp) _ | refine below_drewN ?_ _ | refine Below.drew ?_ | refine Below.trans ?_ (hb4.mono (by first | omega | (simp; done) | (simp; omega))))
set_option maxRecDepth 100000 in
set_option maxHeartbeats 1600000 in
theorem start_3 (l a b c : List UInt8) (r : List (List UInt8)) (w : World) (hl : l.length ≤ 1000000000) (hS : splitL 58 l = a :: b :: c :: r) (hr : r.length ≤ 1000000000) :
    Calls Tryz.prog 77 #[.string (mkS l), .agg #[]] w (TPost w none) := by
  have hsp := fun w => zzSplit_any (mkS l) 58 w (by rw [size_mkS]; omega)
  rw [mkS_data, hS] at hsp
  have H := Lib.hid hsp; clear hsp hS
  go_enter Tryz.func77, Tryz.ntmps77
  go_wp2_with (first
    | (go_at_call 107; refine (H.out _).mono ?_; rintro e w1 ⟨g, cc, rfl, hg, hrow, hb1⟩; have hc1 := cell_below hb1 (a := ⟨w.heap.size + 1, 0, none⟩) (v := .int .i64 0) (by simp); have hd1 := cell_below hb1 (a := ⟨w.heap.size + 1, 1, none⟩) (v := .int .i64 0) (by simp); have hf1 := frozen_below hb1 (a := ⟨w.heap.size + 1, 0, none⟩) (by first | omega | (simp; done) | (simp; omega)) (by simp); have hg1 := frozen_below hb1 (a := ⟨w.heap.size + 1, 1, none⟩) (by first | omega | (simp; done) | (simp; omega)) (by simp); have HB1 : Below w.heap.size w w1 := Below.trans (by repeat (first | exact Below.refl _ _ | refine Below.alloc ?_ (by simp) _)) (hb1.mono (by first | omega | (simp; done) | (simp; omega))); have hz1 : w.heap.size + 1 < w1.heap.size := by (have := hb1.size; try simp at this; omega)) | go_in)
  refine bodyPost_ret (v := .tuple #[.agg #[.int .i64 0, .int .i64 0], .iface 194 (.pointer (some ⟨w1.heap.size, 0, none⟩))]) (by simp [results, Tryz.results77, go_sem, hc1, hd1, hz1]) rfl ⟨_, _, _, rfl, ?_, rfl, rfl, _, _, rfl⟩
  repeat (first | exact HB1 | refine Below.setCell ?_ (by simp) _ | refine below_drewN ?_ _ | refine Below.drew ?_ | refine Below.alloc ?_ (by first | omega | (simp; done) | (simp; omega)) _)
set_option maxRecDepth 100000 in
set_option maxHeartbeats 1600000 in
theorem start_2f (l a b : List UInt8) (w : World) (hl : l.length ≤ 1000000000) (hS : splitL 58 l = [a, b]) (ht : tzOk a = false) :
    Calls Tryz.prog 77 #[.string (mkS l), .agg #[]] w (TPost w none) := by
  have hla : a.length ≤ 1000000000 := Nat.le_trans (split_len (c := 58) (l := l) (by rw [hS]; simp)) hl
  have hsp := fun w => zzSplit_any (mkS l) 58 w (by rw [size_mkS]; omega)
  rw [mkS_data, hS] at hsp
  have H := Lib.hid hsp; clear hsp hS
  have hT := fun w => tzid_any a w hla
  rw [ht] at hT
  have HT := Lib.hid hT; clear hT ht
  go_enter Tryz.func77, Tryz.ntmps77
  go_wp2_with (first
    | (go_at_call 107; refine (H.out _).mono ?_; rintro e w1 ⟨g, cc, rfl, hg, hrow, hb1⟩; have ca := hrow.cell 0 _ rfl; have cb := hrow.cell 1 _ rfl; obtain ⟨HB1, hz1, hc1, hd1, hf1, hg1⟩ := next2 hb1 (w := w) (b := w.heap.size + 1) (by repeat (first | exact Below.refl _ _ | refine Below.alloc ?_ (by simp) _)) (by simp) (by simp; rfl) (by simp; rfl) (by simp) (by simp))
    | (go_at_call 109; go_must (refine (HT.out _).mono ?_; rintro e w2 ⟨ev, rfl, hb2, T, p, rfl⟩; obtain ⟨HB2, hz2, hc2, hd2, hf2, hg2⟩ := next2 hb2 HB1 hz1 hc1 hd1 hf1 hg1))
    | go_in)
  refine bodyPost_ret (v := .tuple #[.agg #[.int .i64 0, .int .i64 0], .iface T (.pointer (some p))]) (by simp [results, Tryz.results77, go_sem, hc2, hd2, hz2]) rfl ⟨_, _, _, rfl, ?_, rfl, rfl, _, _, rfl⟩
  repeat (first | exact HB2 | refine Below.setCell ?_ (by simp) _ | refine below_drewN ?_ _ | refine Below.drew ?_ | refine Below.alloc ?_ (by simp <;> omega) _)
set_option maxRecDepth 100000 in
set_option maxHeartbeats 1600000 in
theorem start_2t (l a b : List UInt8) (w : World) (hl : l.length ≤ 1000000000) (hS : splitL 58 l = [a, b]) (ht : tzOk a = true) :
    Calls Tryz.prog 77 #[.string (mkS l), .agg #[]] w (TPost w (timeT b)) := by
  have hla : a.length ≤ 1000000000 := Nat.le_trans (split_len (c := 58) (l := l) (by rw [hS]; simp)) hl
  have hlb : b.length ≤ 1000000000 := Nat.le_trans (split_len (c := 58) (l := l) (by rw [hS]; simp)) hl
  have hsp := fun w => zzSplit_any (mkS l) 58 w (by rw [size_mkS]; omega)
  rw [mkS_data, hS] at hsp
  have H := Lib.hid hsp; clear hsp hS
  have hT := fun w => tzid_any a w hla
  rw [ht] at hT
  have HT := Lib.hid hT; clear hT ht
  generalize hR : timeT b = R
  have hU := fun w => strToTime_any b w hlb
  rw [hR] at hU
  have HU := Lib.hid hU; clear hU hR
  go_enter Tryz.func77, Tryz.ntmps77
  go_wp2_with (first
    | (go_at_call 107; refine (H.out _).mono ?_; rintro e w1 ⟨g, cc, rfl, hg, hrow, hb1⟩; have ca := hrow.cell 0 _ rfl; have cb := hrow.cell 1 _ rfl; obtain ⟨HB1, hz1, hc1, hd1, hf1, hg1⟩ := next2 hb1 (w := w) (b := w.heap.size + 1) (by repeat (first | exact Below.refl _ _ | refine Below.alloc ?_ (by simp) _)) (by simp) (by simp; rfl) (by simp; rfl) (by simp) (by simp))
    | (go_at_call 109; go_must (refine (HT.out _).mono ?_; rintro e w2 ⟨ev, rfl, hb2, rfl⟩; have cb2 := cell_below hb2 cb; have hgz := Nat.lt_of_lt_of_le hrow.lt hb2.size; obtain ⟨HB2, hz2, hc2, hd2, hf2, hg2⟩ := next2 hb2 HB1 hz1 hc1 hd1 hf1 hg1)))
  go_region_with (go_at_call 110; refine (HU.out _).mono ?_; rintro e w4 ⟨s, n, ev, rfl, hb4, hres⟩; obtain ⟨HB4, hz4, hc4, hd4, hf4, hg4⟩ := next2 hb4 (w := w) (b := w.heap.size + 1) (x := .int .i64 0) (y := .int .i64 0) (by repeat (first | exact HB2 | refine Below.drew ?_ | refine below_drewN ?_ _ | refine Below.alloc ?_ (by have := HB2.size; omega) _)) (by simp; omega) (by simp [go_sem, hc2, hz2]) (by simp [go_sem, hd2, hz2]) (by simp [go_sem, hf2, hz2]) (by simp [go_sem, hg2, hz2]))
  all_goals
    go_wp2
    refine bodyPost_ret (v := .tuple #[.agg #[.int .i64 s, .int .i64 n], ev]) (by simp [results, Tryz.results77, go_sem, hc4, hd4]) rfl ⟨s, n, ev, rfl, ?_, hres⟩
    repeat (first | exact HB4 | refine Below.setCell ?_ (by simp) _ | refine below_drewN ?_ _ | refine Below.drew ?_)
theorem splitL_len (c : UInt8) (l : List UInt8) : (splitL c l).length ≤ l.length + 1 := by
  induction l with
  | nil => simp [splitL]
  | cons x r ih =>
    simp only [splitL]
    split
    · simp; omega
    · split
      · simp
      · rename_i h t heq; rw [heq] at ih; simp at ih ⊢; omega
theorem start_any (l : List UInt8) (w : World) (hl : l.length ≤ 1000000) :
    Calls Tryz.prog 77 #[.string (mkS l), .agg #[]] w (TPost w (startT l)) := by
  have hn := splitL_len 58 l
  unfold startT
  match h : splitL 58 l, hn with
  | [], _ => exact absurd h (splitL_ne _ _)
  | [a], _ => exact start_1 l a w (by omega) h
  | [a, b], _ =>
    cases ht : tzOk a with
    | false => simpa [ht] using start_2f l a b w (by omega) h ht
    | true => simpa [ht] using start_2t l a b w (by omega) h ht
  | a :: b :: c :: r, hn => exact start_3 l a b c r w (by omega) h (by simp at hn; omega)
