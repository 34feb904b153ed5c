import Derived.Test.YtcfbkkcamiephaaGreatDoorD4
namespace Go.Proofs.YtcfbkkcamiephaaGreatDoor
open Go.RowKit

/-! ### strToWeekday -/
def dayV (i : Nat) : Value := .agg #[.int .i64 i, .int .i64 0]
def dayEnts : List (ByteArray × Value) := (List.range 7).map fun i => (dayNm i, dayV i)
def dm (j : Nat) : Array MapEntry := (ents 0 (dayEnts.take j)).toArray
def dayI (l : List UInt8) : Option Nat := if mkS l = dayNm 0 then some 0 else if mkS l = dayNm 1 then some 1 else if mkS l = dayNm 2 then some 2 else if mkS l = dayNm 3 then some 3 else if mkS l = dayNm 4 then some 4 else if mkS l = dayNm 5 then some 5 else if mkS l = dayNm 6 then some 6 else none
theorem look_day (l : List UInt8) : lookS (mkS l) (dayEnts.take 7) = (dayI l).map dayV := by
  show lookS (mkS l) [(dayNm 0, dayV 0), (dayNm 1, dayV 1), (dayNm 2, dayV 2), (dayNm 3, dayV 3), (dayNm 4, dayV 4), (dayNm 5, dayV 5), (dayNm 6, dayV 6)] = _
  simp only [lookS, dayI, MapKept.bytes_beq]
  repeat (first | rfl | split)
theorem day_ins (w : World) (j : Nat) (hj : j < 7) : (Instr.mapUpdate 204 (.map (some (w.heap.size + 1))) (.string (dayNm j)) (dayV j)).run Tryz.prog ((w.alloc (.cells #[.int .i64 0, .int .i64 0] 103)).alloc (.map (dm j) j)) = .ok () ((w.alloc (.cells #[.int .i64 0, .int .i64 0] 103)).alloc (.map (dm (j + 1)) (j + 1))) := by
  have h := run_insert_ents (P := Tryz.prog) (T := 204) Tryz.underlying204 Tryz.underlying9 (w.alloc (.cells #[.int .i64 0, .int .i64 0] 103)) (dayEnts.take j) (dayNm j) (dayV j)
    (by rcases (show j = 0 ∨ j = 1 ∨ j = 2 ∨ j = 3 ∨ j = 4 ∨ j = 5 ∨ j = 6 by omega) with rfl | rfl | rfl | rfl | rfl | rfl | rfl <;> rfl)
  have hl : (dayEnts.take j).length = j := by rcases (show j = 0 ∨ j = 1 ∨ j = 2 ∨ j = 3 ∨ j = 4 ∨ j = 5 ∨ j = 6 by omega) with rfl | rfl | rfl | rfl | rfl | rfl | rfl <;> rfl
  have ht : dayEnts.take j ++ [(dayNm j, dayV j)] = dayEnts.take (j + 1) := by rcases (show j = 0 ∨ j = 1 ∨ j = 2 ∨ j = 3 ∨ j = 4 ∨ j = 5 ∨ j = 6 by omega) with rfl | rfl | rfl | rfl | rfl | rfl | rfl <;> rfl
  rw [hl, ht, show (w.alloc (.cells #[.int .i64 0, .int .i64 0] 103)).heap.size = w.heap.size + 1 by simp] at h
  exact h
theorem day_heap (w : World) : ((w.alloc (.cells #[.int .i64 0, .int .i64 0] 103)).alloc (.map (dm 7) 7)).heap[w.heap.size + 1]? = some (.map (dm 7) 7) := by
  have h := heap_alloc_new (w.alloc (.cells #[.int .i64 0, .int .i64 0] 103)) (.map (dm 7) 7)
  rw [show (w.alloc (.cells #[.int .i64 0, .int .i64 0] 103)).heap.size = w.heap.size + 1 by simp] at h
  exact h
def dayT (l : List UInt8) : Option (Int × Int) := if l.length < 2 then none else match dayI (l.drop (l.length - 2)) with
  | none => none
  | some d => if 2 < l.length then (match atoiO (l.take (l.length - 2)) with
    | none => none
    | some n => some ((d : Int), n)) else some ((d : Int), 0)
def DayRes (R : Option (Int × Int)) (d n : Int) (ev : Value) : Prop := match R with
  | none => d = 0 ∧ n = 0 ∧ ∃ T p, ev = .iface T (.pointer (some p))
  | some (a, b) => d = a ∧ n = b ∧ ev = .nilIface
def DayPost (w : World) (R : Option (Int × Int)) (e : Ending) (w' : World) : Prop := ∃ d n ev, e = .returned (.tuple #[.agg #[.int .i64 d, .int .i64 n], ev]) ∧ Below w.heap.size w w' ∧ DayRes R d n ev
theorem day_no {w : World} {R : Option (Int × Int)} {e : Ending} {w' : World} {T : TypeId} {p : Addr} (h : R = none) (he : e = .returned (.tuple #[.agg #[.int .i64 0, .int .i64 0], .iface T (.pointer (some p))])) (hb : Below w.heap.size w w') : DayPost w R e w' := by
  rw [h]; exact ⟨0, 0, _, he, hb, rfl, rfl, _, _, rfl⟩
theorem day_ok {w : World} {R : Option (Int × Int)} {e : Ending} {w' : World} {d n : Int} (h : R = some (d, n)) (he : e = .returned (.tuple #[.agg #[.int .i64 d, .int .i64 n], .nilIface])) (hb : Below w.heap.size w w') : DayPost w R e w' := by
  rw [h]; exact ⟨d, n, _, he, hb, rfl, rfl, rfl⟩
theorem extract_tail2 (l : List UInt8) (_h : 2 ≤ l.length) : (mkS l).extract (l.length - 2) l.length = mkS (l.drop (l.length - 2)) := by
  rw [extract_mkS, mkS_data, List.take_of_length_le]; simp
theorem extract_head2 (l : List UInt8) (k : Nat) : (mkS l).extract 0 k = mkS (l.take k) := by
  rw [extract_mkS, mkS_data]; simp
set_option maxRecDepth 100000 in
set_option maxHeartbeats 1600000 in
theorem day_short (l : List UInt8) (w : World) (h : l.length < 2) : Calls Tryz.prog 117 #[.string (mkS l)] w (DayPost w none) := by
  have zl := size_mkS l
  go_enter Tryz.func117, Tryz.ntmps117
  go_wp2
  refine bodyPost_ret (v := .tuple #[.agg #[.int .i64 0, .int .i64 0], .iface 194 (.pointer (some ⟨w.heap.size + 1, 0, none⟩))]) (by simp [results, Tryz.results117, go_sem]) rfl (day_no rfl rfl ?_)
  repeat (first | exact Below.refl _ _ | refine Below.alloc ?_ (by first | (simp; done) | (simp; omega)) _)
set_option maxRecDepth 100000 in
set_option maxHeartbeats 1600000 in
theorem day_none (l : List UInt8) (w : World) (hG : Good w) (h : 2 ≤ l.length) (hl : l.length ≤ 1000000000) (hd : dayI (l.drop (l.length - 2)) = none) : Calls Tryz.prog 117 #[.string (mkS l)] w (DayPost w none) := by
  have hlk := look_day (l.drop (l.length - 2))
  rw [hd] at hlk
  have zl := size_mkS l
  have zsub : ((l.length : Int) - 2).toNat = l.length - 2 := by omega
  have hex := extract_tail2 l h
  have hm := @run_makeMap Tryz.prog
  have hi0 : (Instr.mapUpdate 204 (.map (some (w.heap.size + 1))) (.string ⟨#[77, 79]⟩) (.agg #[.int .i64 0, .int .i64 0])).run Tryz.prog ((w.alloc (.cells #[.int .i64 0, .int .i64 0] 103)).alloc (.map #[] 0)) = .ok () ((w.alloc (.cells #[.int .i64 0, .int .i64 0] 103)).alloc (.map (dm 1) 1)) := day_ins w 0 (by omega)
  have c0a : w.cell? ⟨2, 0, none⟩ = some (.int .i64 0) := (hG.days 0 (by omega)).1
  have c0b : w.cell? ⟨2, 1, none⟩ = some (.int .i64 0) := (hG.days 0 (by omega)).2
  have z0 : 2 < w.heap.size := World.block_lt_of_cell? w _ c0a
  have hi1 : (Instr.mapUpdate 204 (.map (some (w.heap.size + 1))) (.string ⟨#[84, 85]⟩) (.agg #[.int .i64 1, .int .i64 0])).run Tryz.prog ((w.alloc (.cells #[.int .i64 0, .int .i64 0] 103)).alloc (.map (dm 1) 1)) = .ok () ((w.alloc (.cells #[.int .i64 0, .int .i64 0] 103)).alloc (.map (dm 2) 2)) := day_ins w 1 (by omega)
  have c1a : w.cell? ⟨4, 0, none⟩ = some (.int .i64 1) := (hG.days 1 (by omega)).1
  have c1b : w.cell? ⟨4, 1, none⟩ = some (.int .i64 0) := (hG.days 1 (by omega)).2
  have z1 : 4 < w.heap.size := World.block_lt_of_cell? w _ c1a
  have hi2 : (Instr.mapUpdate 204 (.map (some (w.heap.size + 1))) (.string ⟨#[87, 69]⟩) (.agg #[.int .i64 2, .int .i64 0])).run Tryz.prog ((w.alloc (.cells #[.int .i64 0, .int .i64 0] 103)).alloc (.map (dm 2) 2)) = .ok () ((w.alloc (.cells #[.int .i64 0, .int .i64 0] 103)).alloc (.map (dm 3) 3)) := day_ins w 2 (by omega)
  have c2a : w.cell? ⟨5, 0, none⟩ = some (.int .i64 2) := (hG.days 2 (by omega)).1
  have c2b : w.cell? ⟨5, 1, none⟩ = some (.int .i64 0) := (hG.days 2 (by omega)).2
  have z2 : 5 < w.heap.size := World.block_lt_of_cell? w _ c2a
  have hi3 : (Instr.mapUpdate 204 (.map (some (w.heap.size + 1))) (.string ⟨#[84, 72]⟩) (.agg #[.int .i64 3, .int .i64 0])).run Tryz.prog ((w.alloc (.cells #[.int .i64 0, .int .i64 0] 103)).alloc (.map (dm 3) 3)) = .ok () ((w.alloc (.cells #[.int .i64 0, .int .i64 0] 103)).alloc (.map (dm 4) 4)) := day_ins w 3 (by omega)
  have c3a : w.cell? ⟨6, 0, none⟩ = some (.int .i64 3) := (hG.days 3 (by omega)).1
  have c3b : w.cell? ⟨6, 1, none⟩ = some (.int .i64 0) := (hG.days 3 (by omega)).2
  have z3 : 6 < w.heap.size := World.block_lt_of_cell? w _ c3a
  have hi4 : (Instr.mapUpdate 204 (.map (some (w.heap.size + 1))) (.string ⟨#[70, 82]⟩) (.agg #[.int .i64 4, .int .i64 0])).run Tryz.prog ((w.alloc (.cells #[.int .i64 0, .int .i64 0] 103)).alloc (.map (dm 4) 4)) = .ok () ((w.alloc (.cells #[.int .i64 0, .int .i64 0] 103)).alloc (.map (dm 5) 5)) := day_ins w 4 (by omega)
  have c4a : w.cell? ⟨7, 0, none⟩ = some (.int .i64 4) := (hG.days 4 (by omega)).1
  have c4b : w.cell? ⟨7, 1, none⟩ = some (.int .i64 0) := (hG.days 4 (by omega)).2
  have z4 : 7 < w.heap.size := World.block_lt_of_cell? w _ c4a
  have hi5 : (Instr.mapUpdate 204 (.map (some (w.heap.size + 1))) (.string ⟨#[83, 65]⟩) (.agg #[.int .i64 5, .int .i64 0])).run Tryz.prog ((w.alloc (.cells #[.int .i64 0, .int .i64 0] 103)).alloc (.map (dm 5) 5)) = .ok () ((w.alloc (.cells #[.int .i64 0, .int .i64 0] 103)).alloc (.map (dm 6) 6)) := day_ins w 5 (by omega)
  have c5a : w.cell? ⟨8, 0, none⟩ = some (.int .i64 5) := (hG.days 5 (by omega)).1
  have c5b : w.cell? ⟨8, 1, none⟩ = some (.int .i64 0) := (hG.days 5 (by omega)).2
  have z5 : 8 < w.heap.size := World.block_lt_of_cell? w _ c5a
  have hi6 : (Instr.mapUpdate 204 (.map (some (w.heap.size + 1))) (.string ⟨#[83, 85]⟩) (.agg #[.int .i64 6, .int .i64 0])).run Tryz.prog ((w.alloc (.cells #[.int .i64 0, .int .i64 0] 103)).alloc (.map (dm 6) 6)) = .ok () ((w.alloc (.cells #[.int .i64 0, .int .i64 0] 103)).alloc (.map (dm 7) 7)) := day_ins w 6 (by omega)
  have c6a : w.cell? ⟨9, 0, none⟩ = some (.int .i64 6) := (hG.days 6 (by omega)).1
  have c6b : w.cell? ⟨9, 1, none⟩ = some (.int .i64 0) := (hG.days 6 (by omega)).2
  have z6 : 9 < w.heap.size := World.block_lt_of_cell? w _ c6a
  have hlo := run_lookup_none (P := Tryz.prog) (T := 204) Tryz.underlying204 Tryz.underlying9 ((w.alloc (.cells #[.int .i64 0, .int .i64 0] 103)).alloc (.map (dm 7) 7)) (w.heap.size + 1) (dayEnts.take 7) 7 (day_heap w) (mkS (l.drop (l.length - 2))) (.agg #[.int .i64 0, .int .i64 0]) (by kernel_rfl) hlk
  clear hlk hd hG
  go_enter Tryz.func117, Tryz.ntmps117
  go_wp2
  refine bodyPost_ret (v := .tuple #[.agg #[.int .i64 0, .int .i64 0], .iface 194 (.pointer (some ⟨w.heap.size + 3, 0, none⟩))]) (by simp [results, Tryz.results117, go_sem]) rfl (day_no rfl rfl ?_)
  repeat (first | exact Below.refl _ _ | refine Below.setCell ?_ (by simp) _ | refine Below.alloc ?_ (by first | (simp; done) | (simp; omega)) _)
set_option maxRecDepth 100000 in
set_option maxHeartbeats 1600000 in
theorem day_two (l : List UInt8) (w : World) (hG : Good w) (h : l.length = 2) (d : Nat) (hd : dayI (l.drop (l.length - 2)) = some d) : Calls Tryz.prog 117 #[.string (mkS l)] w (DayPost w (some ((d : Int), 0))) := by
  have hlk := look_day (l.drop (l.length - 2))
  rw [hd] at hlk
  have zl := size_mkS l
  have zsub : ((l.length : Int) - 2).toNat = l.length - 2 := by omega
  have hex := extract_tail2 l (by omega)
  have hm := @run_makeMap Tryz.prog
  have hi0 : (Instr.mapUpdate 204 (.map (some (w.heap.size + 1))) (.string ⟨#[77, 79]⟩) (.agg #[.int .i64 0, .int .i64 0])).run Tryz.prog ((w.alloc (.cells #[.int .i64 0, .int .i64 0] 103)).alloc (.map #[] 0)) = .ok () ((w.alloc (.cells #[.int .i64 0, .int .i64 0] 103)).alloc (.map (dm 1) 1)) := day_ins w 0 (by omega)
  have c0a : w.cell? ⟨2, 0, none⟩ = some (.int .i64 0) := (hG.days 0 (by omega)).1
  have c0b : w.cell? ⟨2, 1, none⟩ = some (.int .i64 0) := (hG.days 0 (by omega)).2
  have z0 : 2 < w.heap.size := World.block_lt_of_cell? w _ c0a
  have hi1 : (Instr.mapUpdate 204 (.map (some (w.heap.size + 1))) (.string ⟨#[84, 85]⟩) (.agg #[.int .i64 1, .int .i64 0])).run Tryz.prog ((w.alloc (.cells #[.int .i64 0, .int .i64 0] 103)).alloc (.map (dm 1) 1)) = .ok () ((w.alloc (.cells #[.int .i64 0, .int .i64 0] 103)).alloc (.map (dm 2) 2)) := day_ins w 1 (by omega)
  have c1a : w.cell? ⟨4, 0, none⟩ = some (.int .i64 1) := (hG.days 1 (by omega)).1
  have c1b : w.cell? ⟨4, 1, none⟩ = some (.int .i64 0) := (hG.days 1 (by omega)).2
  have z1 : 4 < w.heap.size := World.block_lt_of_cell? w _ c1a
  have hi2 : (Instr.mapUpdate 204 (.map (some (w.heap.size + 1))) (.string ⟨#[87, 69]⟩) (.agg #[.int .i64 2, .int .i64 0])).run Tryz.prog ((w.alloc (.cells #[.int .i64 0, .int .i64 0] 103)).alloc (.map (dm 2) 2)) = .ok () ((w.alloc (.cells #[.int .i64 0, .int .i64 0] 103)).alloc (.map (dm 3) 3)) := day_ins w 2 (by omega)
  have c2a : w.cell? ⟨5, 0, none⟩ = some (.int .i64 2) := (hG.days 2 (by omega)).1
  have c2b : w.cell? ⟨5, 1, none⟩ = some (.int .i64 0) := (hG.days 2 (by omega)).2
  have z2 : 5 < w.heap.size := World.block_lt_of_cell? w _ c2a
  have hi3 : (Instr.mapUpdate 204 (.map (some (w.heap.size + 1))) (.string ⟨#[84, 72]⟩) (.agg #[.int .i64 3, .int .i64 0])).run Tryz.prog ((w.alloc (.cells #[.int .i64 0, .int .i64 0] 103)).alloc (.map (dm 3) 3)) = .ok () ((w.alloc (.cells #[.int .i64 0, .int .i64 0] 103)).alloc (.map (dm 4) 4)) := day_ins w 3 (by omega)
  have c3a : w.cell? ⟨6, 0, none⟩ = some (.int .i64 3) := (hG.days 3 (by omega)).1
  have c3b : w.cell? ⟨6, 1, none⟩ = some (.int .i64 0) := (hG.days 3 (by omega)).2
  have z3 : 6 < w.heap.size := World.block_lt_of_cell? w _ c3a
  have hi4 : (Instr.mapUpdate 204 (.map (some (w.heap.size + 1))) (.string ⟨#[70, 82]⟩) (.agg #[.int .i64 4, .int .i64 0])).run Tryz.prog ((w.alloc (.cells #[.int .i64 0, .int .i64 0] 103)).alloc (.map (dm 4) 4)) = .ok () ((w.alloc (.cells #[.int .i64 0, .int .i64 0] 103)).alloc (.map (dm 5) 5)) := day_ins w 4 (by omega)
  have c4a : w.cell? ⟨7, 0, none⟩ = some (.int .i64 4) := (hG.days 4 (by omega)).1
  have c4b : w.cell? ⟨7, 1, none⟩ = some (.int .i64 0) := (hG.days 4 (by omega)).2
  have z4 : 7 < w.heap.size := World.block_lt_of_cell? w _ c4a
  have hi5 : (Instr.mapUpdate 204 (.map (some (w.heap.size + 1))) (.string ⟨#[83, 65]⟩) (.agg #[.int .i64 5, .int .i64 0])).run Tryz.prog ((w.alloc (.cells #[.int .i64 0, .int .i64 0] 103)).alloc (.map (dm 5) 5)) = .ok () ((w.alloc (.cells #[.int .i64 0, .int .i64 0] 103)).alloc (.map (dm 6) 6)) := day_ins w 5 (by omega)
  have c5a : w.cell? ⟨8, 0, none⟩ = some (.int .i64 5) := (hG.days 5 (by omega)).1
  have c5b : w.cell? ⟨8, 1, none⟩ = some (.int .i64 0) := (hG.days 5 (by omega)).2
  have z5 : 8 < w.heap.size := World.block_lt_of_cell? w _ c5a
  have hi6 : (Instr.mapUpdate 204 (.map (some (w.heap.size + 1))) (.string ⟨#[83, 85]⟩) (.agg #[.int .i64 6, .int .i64 0])).run Tryz.prog ((w.alloc (.cells #[.int .i64 0, .int .i64 0] 103)).alloc (.map (dm 6) 6)) = .ok () ((w.alloc (.cells #[.int .i64 0, .int .i64 0] 103)).alloc (.map (dm 7) 7)) := day_ins w 6 (by omega)
  have c6a : w.cell? ⟨9, 0, none⟩ = some (.int .i64 6) := (hG.days 6 (by omega)).1
  have c6b : w.cell? ⟨9, 1, none⟩ = some (.int .i64 0) := (hG.days 6 (by omega)).2
  have z6 : 9 < w.heap.size := World.block_lt_of_cell? w _ c6a
  have hlo := run_lookup_ents (P := Tryz.prog) (T := 204) Tryz.underlying204 Tryz.underlying9 ((w.alloc (.cells #[.int .i64 0, .int .i64 0] 103)).alloc (.map (dm 7) 7)) (w.heap.size + 1) (dayEnts.take 7) 7 (day_heap w) (mkS (l.drop (l.length - 2))) (.agg #[.int .i64 d, .int .i64 0]) hlk
  clear hlk hd hG
  rw [h] at zl zsub hex hlo
  simp only [Nat.sub_self, List.drop_zero] at hex hlo
  clear h zsub
  go_enter Tryz.func117, Tryz.ntmps117
  go_wp2
  refine bodyPost_ret (v := .tuple #[.agg #[.int .i64 d, .int .i64 0], .nilIface]) (by simp [results, Tryz.results117, go_sem]) rfl (day_ok rfl rfl ?_)
  repeat (first | exact Below.refl _ _ | refine Below.setCell ?_ (by simp) _ | refine Below.alloc ?_ (by first | (simp; done) | (simp; omega)) _)
set_option maxRecDepth 100000 in
set_option maxHeartbeats 1600000 in
theorem day_many (l : List UInt8) (w : World) (hG : Good w) (h : 2 < l.length) (hl : l.length ≤ 1000000000) (d : Nat) (hd : dayI (l.drop (l.length - 2)) = some d) (R : Option Int) (hR : atoiO (l.take (l.length - 2)) = R) : Calls Tryz.prog 117 #[.string (mkS l)] w (DayPost w (R.map fun n => ((d : Int), n))) := by
  have hlk := look_day (l.drop (l.length - 2))
  rw [hd] at hlk
  have zl := size_mkS l
  have zsub : ((l.length : Int) - 2).toNat = l.length - 2 := by omega
  have hex := extract_tail2 l (by omega)
  have hm := @run_makeMap Tryz.prog
  have hi0 : (Instr.mapUpdate 204 (.map (some (w.heap.size + 1))) (.string ⟨#[77, 79]⟩) (.agg #[.int .i64 0, .int .i64 0])).run Tryz.prog ((w.alloc (.cells #[.int .i64 0, .int .i64 0] 103)).alloc (.map #[] 0)) = .ok () ((w.alloc (.cells #[.int .i64 0, .int .i64 0] 103)).alloc (.map (dm 1) 1)) := day_ins w 0 (by omega)
  have c0a : w.cell? ⟨2, 0, none⟩ = some (.int .i64 0) := (hG.days 0 (by omega)).1
  have c0b : w.cell? ⟨2, 1, none⟩ = some (.int .i64 0) := (hG.days 0 (by omega)).2
  have z0 : 2 < w.heap.size := World.block_lt_of_cell? w _ c0a
  have hi1 : (Instr.mapUpdate 204 (.map (some (w.heap.size + 1))) (.string ⟨#[84, 85]⟩) (.agg #[.int .i64 1, .int .i64 0])).run Tryz.prog ((w.alloc (.cells #[.int .i64 0, .int .i64 0] 103)).alloc (.map (dm 1) 1)) = .ok () ((w.alloc (.cells #[.int .i64 0, .int .i64 0] 103)).alloc (.map (dm 2) 2)) := day_ins w 1 (by omega)
  have c1a : w.cell? ⟨4, 0, none⟩ = some (.int .i64 1) := (hG.days 1 (by omega)).1
  have c1b : w.cell? ⟨4, 1, none⟩ = some (.int .i64 0) := (hG.days 1 (by omega)).2
  have z1 : 4 < w.heap.size := World.block_lt_of_cell? w _ c1a
  have hi2 : (Instr.mapUpdate 204 (.map (some (w.heap.size + 1))) (.string ⟨#[87, 69]⟩) (.agg #[.int .i64 2, .int .i64 0])).run Tryz.prog ((w.alloc (.cells #[.int .i64 0, .int .i64 0] 103)).alloc (.map (dm 2) 2)) = .ok () ((w.alloc (.cells #[.int .i64 0, .int .i64 0] 103)).alloc (.map (dm 3) 3)) := day_ins w 2 (by omega)
  have c2a : w.cell? ⟨5, 0, none⟩ = some (.int .i64 2) := (hG.days 2 (by omega)).1
  have c2b : w.cell? ⟨5, 1, none⟩ = some (.int .i64 0) := (hG.days 2 (by omega)).2
  have z2 : 5 < w.heap.size := World.block_lt_of_cell? w _ c2a
  have hi3 : (Instr.mapUpdate 204 (.map (some (w.heap.size + 1))) (.string ⟨#[84, 72]⟩) (.agg #[.int .i64 3, .int .i64 0])).run Tryz.prog ((w.alloc (.cells #[.int .i64 0, .int .i64 0] 103)).alloc (.map (dm 3) 3)) = .ok () ((w.alloc (.cells #[.int .i64 0, .int .i64 0] 103)).alloc (.map (dm 4) 4)) := day_ins w 3 (by omega)
  have c3a : w.cell? ⟨6, 0, none⟩ = some (.int .i64 3) := (hG.days 3 (by omega)).1
  have c3b : w.cell? ⟨6, 1, none⟩ = some (.int .i64 0) := (hG.days 3 (by omega)).2
  have z3 : 6 < w.heap.size := World.block_lt_of_cell? w _ c3a
  have hi4 : (Instr.mapUpdate 204 (.map (some (w.heap.size + 1))) (.string ⟨#[70, 82]⟩) (.agg #[.int .i64 4, .int .i64 0])).run Tryz.prog ((w.alloc (.cells #[.int .i64 0, .int .i64 0] 103)).alloc (.map (dm 4) 4)) = .ok () ((w.alloc (.cells #[.int .i64 0, .int .i64 0] 103)).alloc (.map (dm 5) 5)) := day_ins w 4 (by omega)
  have c4a : w.cell? ⟨7, 0, none⟩ = some (.int .i64 4) := (hG.days 4 (by omega)).1
  have c4b : w.cell? ⟨7, 1, none⟩ = some (.int .i64 0) := (hG.days 4 (by omega)).2
  have z4 : 7 < w.heap.size := World.block_lt_of_cell? w _ c4a
  have hi5 : (Instr.mapUpdate 204 (.map (some (w.heap.size + 1))) (.string ⟨#[83, 65]⟩) (.agg #[.int .i64 5, .int .i64 0])).run Tryz.prog ((w.alloc (.cells #[.int .i64 0, .int .i64 0] 103)).alloc (.map (dm 5) 5)) = .ok () ((w.alloc (.cells #[.int .i64 0, .int .i64 0] 103)).alloc (.map (dm 6) 6)) := day_ins w 5 (by omega)
  have c5a : w.cell? ⟨8, 0, none⟩ = some (.int .i64 5) := (hG.days 5 (by omega)).1
  have c5b : w.cell? ⟨8, 1, none⟩ = some (.int .i64 0) := (hG.days 5 (by omega)).2
  have z5 : 8 < w.heap.size := World.block_lt_of_cell? w _ c5a
  have hi6 : (Instr.mapUpdate 204 (.map (some (w.heap.size + 1))) (.string ⟨#[83, 85]⟩) (.agg #[.int .i64 6, .int .i64 0])).run Tryz.prog ((w.alloc (.cells #[.int .i64 0, .int .i64 0] 103)).alloc (.map (dm 6) 6)) = .ok () ((w.alloc (.cells #[.int .i64 0, .int .i64 0] 103)).alloc (.map (dm 7) 7)) := day_ins w 6 (by omega)
  have c6a : w.cell? ⟨9, 0, none⟩ = some (.int .i64 6) := (hG.days 6 (by omega)).1
  have c6b : w.cell? ⟨9, 1, none⟩ = some (.int .i64 0) := (hG.days 6 (by omega)).2
  have z6 : 9 < w.heap.size := World.block_lt_of_cell? w _ c6a
  have hlo := run_lookup_ents (P := Tryz.prog) (T := 204) Tryz.underlying204 Tryz.underlying9 ((w.alloc (.cells #[.int .i64 0, .int .i64 0] 103)).alloc (.map (dm 7) 7)) (w.heap.size + 1) (dayEnts.take 7) 7 (day_heap w) (mkS (l.drop (l.length - 2))) (.agg #[.int .i64 d, .int .i64 0]) hlk
  have hex2 := extract_head2 l (l.length - 2)
  have hat := fun w hG => atoi_any (l.take (l.length - 2)) w (by rw [List.length_take]; omega) hG
  rw [hR] at hat
  have HAT := Lib.hid hat
  have HG := Lib.hid hG
  clear hlk hd hG hR hat
  go_enter Tryz.func117, Tryz.ntmps117
  cases R with
  | none =>
    go_wp2_with (go_at_call 116; go_must (refine (HAT.out _ (HG.out.below (by repeat (first | exact Below.refl _ _ | refine Below.alloc ?_ (by first | (simp; done) | (simp; omega)) _)))).mono ?_; rintro e w4 ⟨v, ev, rfl, hb4, T, p, rfl⟩; obtain ⟨HB4, hz4, hc4, hd4, hf4, hg4⟩ := next2 hb4 (w := w) (b := w.heap.size) (x := .int .i64 0) (y := .int .i64 0) (by repeat (first | exact Below.refl _ _ | refine Below.alloc ?_ (by first | (simp; done) | (simp; omega)) _)) (by simp; omega) (by simp [go_sem]) (by simp [go_sem]) (by simp [go_sem]) (by simp [go_sem]); obtain ⟨_, hz5, hc5, hd5, hf5, hg5⟩ := next2 hb4 (w := w) (b := w.heap.size + 1 + 1) (x := .int .i64 d) (y := .int .i64 0) (by repeat (first | exact Below.refl _ _ | refine Below.alloc ?_ (by first | (simp; done) | (simp; omega)) _)) (by simp) (by simp [go_sem]) (by simp [go_sem]) (by simp [go_sem]) (by simp [go_sem])))
    refine bodyPost_ret (v := .tuple #[.agg #[.int .i64 0, .int .i64 0], .iface T (.pointer (some p))]) (by simp [results, Tryz.results117, go_sem, hc4, hd4]) rfl (day_no rfl rfl ?_)
    repeat (first | exact HB4 | refine Below.setCell ?_ (by first | (simp; done) | (simp; omega)) _)
  | some n =>
    go_wp2_with (go_at_call 116; go_must (refine (HAT.out _ (HG.out.below (by repeat (first | exact Below.refl _ _ | refine Below.alloc ?_ (by first | (simp; done) | (simp; omega)) _)))).mono ?_; rintro e w4 ⟨v, ev, rfl, hb4, rfl, rfl⟩; obtain ⟨HB4, hz4, hc4, hd4, hf4, hg4⟩ := next2 hb4 (w := w) (b := w.heap.size) (x := .int .i64 0) (y := .int .i64 0) (by repeat (first | exact Below.refl _ _ | refine Below.alloc ?_ (by first | (simp; done) | (simp; omega)) _)) (by simp; omega) (by simp [go_sem]) (by simp [go_sem]) (by simp [go_sem]) (by simp [go_sem]); obtain ⟨_, hz5, hc5, hd5, hf5, hg5⟩ := next2 hb4 (w := w) (b := w.heap.size + 1 + 1) (x := .int .i64 d) (y := .int .i64 0) (by repeat (first | exact Below.refl _ _ | refine Below.alloc ?_ (by first | (simp; done) | (simp; omega)) _)) (by simp) (by simp [go_sem]) (by simp [go_sem]) (by simp [go_sem]) (by simp [go_sem])))
    refine bodyPost_ret (v := .tuple #[.agg #[.int .i64 d, .int .i64 v], .nilIface]) (by simp [results, Tryz.results117, go_sem, hc4, hd4]) rfl (day_ok rfl rfl ?_)
    repeat (first | exact HB4 | refine Below.setCell ?_ (by first | (simp; done) | (simp; omega)) _)
theorem day_any (l : List UInt8) (w : World) (hG : Good w) (hl : l.length ≤ 1000000000) : Calls Tryz.prog 117 #[.string (mkS l)] w (DayPost w (dayT l)) := by
  unfold dayT
  by_cases h2 : l.length < 2
  · rw [if_pos h2]; exact day_short l w h2
  · rw [if_neg h2]
    cases hd : dayI (l.drop (l.length - 2)) with
    | none => exact day_none l w hG (by omega) hl hd
    | some d =>
      simp only
      by_cases h3 : 2 < l.length
      · rw [if_pos h3]
        have := day_many l w hG h3 hl d hd _ rfl
        cases hR : atoiO (l.take (l.length - 2)) with
        | none => rw [hR] at this; exact this
        | some n => rw [hR] at this; exact this
      · rw [if_neg h3]; exact day_two l w hG (by omega) d hd
end Go.Proofs.YtcfbkkcamiephaaGreatDoor
namespace Go.Proofs.YtcfbkkcamiephaaGreatDoor
open Go.RowKit

/-! ### strToWeekdays -/
theorem RowAt.of_own2 {w : World} {base g n size : Nat} {e : TypeId} {xs : List Value} (h : w.ownsRow base e size (.slice (some ⟨g, 0, none⟩) n n) n xs) : RowAt w g e xs := by
  obtain ⟨h1, h2⟩ := h
  rcases h2 with ⟨h2, _⟩ | ⟨g', cap, cur, hv, hb, hh, hc, hm, hs, ht⟩
  · simp at h2
  · simp only [Value.slice.injEq, Option.some.injEq, Addr.mk.injEq, true_and] at hv
    obtain ⟨⟨rfl, _⟩, rfl⟩ := hv
    refine ⟨?_⟩
    rw [hh, ← ht]
    congr
    rw [List.take_of_length_le (by rw [Array.length_toList]; omega)]
def enc2 (p : Int × Int) : List Value := [.int .i64 p.1, .int .i64 p.2]
def fill2 (ns : List (Int × Int)) (m : Nat) : List Value := ns.flatMap enc2 ++ List.replicate (2 * m) (.int .i64 0)
theorem flat2_len (ns : List (Int × Int)) : (ns.flatMap enc2).length = ns.length * 2 := by
  induction ns with
  | nil => rfl
  | cons p r ih => simp [enc2] at ih ⊢; omega
theorem fill2_get0 (ns : List (Int × Int)) (m : Nat) (hm : 0 < m) : (fill2 ns m)[ns.length * 2]? = some (.int .i64 0) ∧ (fill2 ns m)[ns.length * 2 + 1]? = some (.int .i64 0) := by
  unfold fill2
  constructor
  · rw [List.getElem?_append_right (by rw [flat2_len]; omega), flat2_len, Nat.sub_self, List.getElem?_replicate, if_pos (by omega)]
  · rw [List.getElem?_append_right (by rw [flat2_len]; omega), flat2_len, show ns.length * 2 + 1 - ns.length * 2 = 1 by omega, List.getElem?_replicate, if_pos (by omega)]
theorem fill2_set (ns : List (Int × Int)) (m : Nat) (a b : Int) : ((fill2 ns (m + 1)).set (ns.length * 2) (.int .i64 a)).set (ns.length * 2 + 1) (.int .i64 b) = fill2 (ns ++ [(a, b)]) m := by
  unfold fill2
  rw [List.set_append_right _ _ (by rw [flat2_len]; omega), List.set_append_right _ _ (by rw [flat2_len]; omega), flat2_len, Nat.sub_self, show ns.length * 2 + 1 - ns.length * 2 = 1 by omega, show 2 * (m + 1) = 2 * m + 1 + 1 by omega]
  simp [List.replicate_succ, enc2]
theorem made_days (n : Nat) : (madeCells (Value.agg #[.int .i64 0, .int .i64 0]).cells (n * 2)).toList = List.replicate (2 * n) (Value.int .i64 0) := by
  simp [madeCells, Value.cells]
  rw [List.eq_replicate_iff]
  refine ⟨by simp; omega, fun b hb => ?_⟩
  obtain ⟨a, _, rfl⟩ := List.mem_map.1 hb
  have : a % 2 = 0 ∨ a % 2 = 1 := by omega
  rcases this with h | h <;> rw [h] <;> rfl
theorem flat2_at (ns : List (Int × Int)) (i : Nat) (p : Int × Int) (h : ns[i]? = some p) : (ns.flatMap enc2)[i * 2]? = some (.int .i64 p.1) ∧ (ns.flatMap enc2)[i * 2 + 1]? = some (.int .i64 p.2) := by
  induction ns generalizing i with
  | nil => simp at h
  | cons q r ih =>
    cases i with
    | zero => simp at h; subst h; simp [enc2]
    | succ i =>
      have := ih i (by simpa using h)
      rw [show (i + 1) * 2 = i * 2 + 2 by omega]
      simpa [enc2] using this
def daysL : List (List UInt8) → Option (List (Int × Int))
  | [] => some []
  | p :: r => match dayT p with
    | none => none
    | some n => (daysL r).map (n :: ·)
def daysT (l : List UInt8) : Option (List (Int × Int)) := daysL (splitL 44 l)
structure DayRow (w : World) (g : Nat) (xs : List (Int × Int)) : Prop where
  lt : g < w.heap.size
  cell : ∀ i p, xs[i]? = some p → w.cell? ⟨g, i * 2, none⟩ = some (.int .i64 p.1) ∧ w.cell? ⟨g, i * 2 + 1, none⟩ = some (.int .i64 p.2)
theorem DayRow.below {w w' : World} {g : Nat} {xs : List (Int × Int)} (h : DayRow w g xs) (hb : Below w.heap.size w w') : DayRow w' g xs :=
  ⟨Nat.lt_of_lt_of_le h.lt hb.size, fun i x hx => ⟨cell_below hb (h.cell i x hx).1, cell_below hb (h.cell i x hx).2⟩⟩
def DaysPost (w : World) (R : Option (List (Int × Int))) (e : Ending) (w' : World) : Prop := Below w.heap.size w w' ∧ match R with
  | none => ∃ T p, e = .returned (.tuple #[.slice none 0 0, .iface T (.pointer (some p))])
  | some xs => ∃ g, e = .returned (.tuple #[.slice (some ⟨g, 0, none⟩) xs.length xs.length, .nilIface]) ∧ DayRow w' g xs ∧ w.heap.size ≤ g
theorem days_ok {w : World} {R : Option (List (Int × Int))} {e : Ending} {w' : World} {xs : List (Int × Int)} {g : Nat} (h : R = some xs) (he : e = .returned (.tuple #[.slice (some ⟨g, 0, none⟩) xs.length xs.length, .nilIface])) (hb : Below w.heap.size w w') (hr : DayRow w' g xs) (hg : w.heap.size ≤ g) : DaysPost w R e w' := by
  rw [h]; exact ⟨hb, g, he, hr, hg⟩
theorem days_no {w : World} {R : Option (List (Int × Int))} {e : Ending} {w' : World} {T : TypeId} {p : Addr} (h : R = none) (he : e = .returned (.tuple #[.slice none 0 0, .iface T (.pointer (some p))])) (hb : Below w.heap.size w w') : DaysPost w R e w' := by
  rw [h]; exact ⟨hb, T, p, he⟩
theorem Tryz.info103 : (Tryz.prog.info? 103).map (fun i => (i.zero, i.size, i.bytes)) = some (some (.agg #[.int .i64 0, .int .i64 0]), 2, 16) := by kernel_rfl

set_option maxRecDepth 100000 in
set_option maxHeartbeats 1600000 in
theorem days_walk (l : List UInt8) (ps : List (List UInt8)) (R : Option (List (Int × Int))) (hR : daysL ps = R) (w : World) (hG : Good w) (hps : ps.length ≤ 1000000001) (hpl : ∀ p ∈ ps, p.length ≤ 1000000000)
    (hsp : ∀ w, Calls Tryz.prog 107 #[.string (mkS l), .string ⟨#[44]⟩] w (SplitPost w (ps.map mkS))) :
    Calls Tryz.prog 119 #[.string (mkS l)] w (DaysPost w R) := by
  have HR := Lib.hid hR; clear hR
  obtain ⟨i0, hi, hz0, hz1, hz2⟩ := info_parts Tryz.info103
  have H := Lib.hid hsp; clear hsp
  have HP := Lib.hid hpl; clear hpl
  go_enter Tryz.func119, Tryz.ntmps119
  go_wp2_with (first
    | (go_at_call 107; go_must (refine (H.out _).mono ?_; rintro e w1 ⟨g, cc, rfl, hg, hrow, hb1⟩; rw [List.length_map]; have hG1 := hG.below hb1))
    | (at_make; go_must (refine wpList_make_full w1 rfl _ _ 104 rfl w.heap.size 103 i0 (.agg #[.int .i64 0, .int .i64 0]) 2 Tryz.underlying104 hi hz0 hz1 .i64 .i64 _ _ ps.length rfl rfl rfl rfl (by rw [hz2]; omega) (by simp only [maxLen]; omega) hb1.size ?_; intro w2 hown hgr; have hb2 := below_none hb1 hgr; have hr0 := RowAt.of_own2 hown)))
  have hs2 := hrow.below (below_none (Below.refl _ _) hgr)
  rw [made_days] at hr0
  generalize hN : w1.heap.size = N at *
  have HN : w.heap.size ≤ N := by rw [← hN]; exact hb1.size
  have HgN : g < N := by rw [← hN]; exact hrow.lt
  clear hN hown hgr hb1 hrow
  go_loopw [16] (fun i wr => ∃ (k : Nat) (ns : List (Int × Int)), k ≤ ps.length ∧ i = .int .i64 k ∧ ns.length = k ∧ RowAt wr N 103 (fill2 ns (ps.length - k)) ∧ Hid (daysL ps = (daysL (ps.drop k)).map (ns ++ ·)) ∧ StrRow wr g cc (ps.map mkS) ∧ Below w.heap.size w wr) (fun i _ => ps.length - (intOf i).toNat)
  case atStart => exact ⟨0, [], by omega, rfl, rfl, by simpa [fill2] using hr0, by unfold Hid; simp, hs2, hb2⟩
  case round =>
    obtain ⟨k, ns, hk, rfl, hns, hr, hT, hs, hb⟩ := hrel
    have hGr := hG.below hb
    by_cases hlt : k < ps.length
    · have hcell := hs.cell k (mkS ps[k]) (by simp [hlt])
      have hT2 := hT.out
      rw [List.drop_eq_getElem_cons hlt] at hT2
      simp only [daysL] at hT2
      have hat := fun w hG => day_any ps[k] w hG (HP.out _ (List.getElem_mem hlt))
      generalize ps[k] = p at hcell hT2 hat
      obtain ⟨hg0, hg1⟩ := fill2_get0 ns (ps.length - k) (by omega)
      rw [hns] at hg0 hg1
      have hrc := hr.cell _ hg0
      have hrd := hr.cell _ hg1
      have hrf := hr.frozen (k * 2)
      have hrg := hr.frozen (k * 2 + 1)
      have hrl := hr.lt
      clear hg0 hg1
      cases hA : dayT p with
      | none =>
        simp only [hA] at hT2 hat
        have HAT := Lib.hid hat
        clear hat hA
        have HT2 := Lib.hid hT2
        clear hT hT2
        go_wp2_with (go_at_call 117; go_must (refine (HAT.out _ hGr).mono ?_; rintro e w3 ⟨d, n, ev, rfl, hb3, rfl, rfl, T, p, rfl⟩; have hrc3 := cell_below hb3 hrc; have hrd3 := cell_below hb3 hrd; have hrf3 := frozen_below hb3 hrl hrf; have hrg3 := frozen_below hb3 hrl hrg; have HB3 := hb.trans (hb3.mono hb.size)))
        go_ret2
        exact days_no (HR.out.symm.trans HT2.out) rfl ((HB3.setCell HN _).setCell HN _)
      | some x =>
        obtain ⟨xd, xn⟩ := x
        simp only [hA] at hT2 hat
        have HAT := Lib.hid hat
        clear hat hA
        go_wp2_with (go_at_call 117; go_must (refine (HAT.out _ hGr).mono ?_; rintro e w3 ⟨d, n, ev, rfl, hb3, rfl, rfl, rfl⟩; have hrc3 := cell_below hb3 hrc; have hrd3 := cell_below hb3 hrd; have hrf3 := frozen_below hb3 hrl hrf; have hrg3 := frozen_below hb3 hrl hrg; have HB3 := hb.trans (hb3.mono hb.size)))
        have hr3 := ((hr.below hb3).set (k * 2) (.int .i64 d)).set (k * 2 + 1) (.int .i64 n)
        go_roundw
        case rel =>
          refine ⟨k + 1, ns ++ [(d, n)], by omega, by go_num, by simp [hns], ?_, ?_, ?_, (HB3.setCell HN _).setCell HN _⟩
          · rw [show ps.length - k = (ps.length - (k + 1)) + 1 by omega, ← hns, fill2_set, hns] at hr3; exact hr3
          · unfold Hid; rw [hT2]; simp [Option.map_map, Function.comp_def]
          · exact ((hs.below hb3).setCell (show N ≠ g by omega) _).setCell (show N ≠ g by omega) _
        case measure => simp [intOf]; omega
    · obtain rfl : k = ps.length := by omega
      have hT2 := hT.out
      rw [List.drop_length] at hT2
      simp only [daysL, Option.map_some, List.append_nil] at hT2
      have HT2 := Lib.hid hT2
      clear hT hT2
      have hrow2 : DayRow wr N ns := ⟨hr.lt, fun i x hx => by
        have h2 := flat2_at ns i x hx
        have h3 := (List.getElem?_eq_some_iff.1 hx).1
        exact ⟨hr.cell _ (by unfold fill2; rw [List.getElem?_append_left (by rw [flat2_len]; omega)]; exact h2.1), hr.cell _ (by unfold fill2; rw [List.getElem?_append_left (by rw [flat2_len]; omega)]; exact h2.2)⟩⟩
      have HNS := Lib.hid hns; clear hns
      go_wp2
      go_ret2
      exact days_ok (HR.out.symm.trans HT2.out) (by rw [HNS.out]; rfl) hb hrow2 HN
theorem days_any (l : List UInt8) (w : World) (hG : Good w) (hl : l.length ≤ 1000000000) : Calls Tryz.prog 119 #[.string (mkS l)] w (DaysPost w (daysT l)) :=
  days_walk l (splitL 44 l) _ rfl w hG (Nat.le_trans (splitL_len 44 l) (by omega)) (fun _ hp => Nat.le_trans (split_len hp) hl) (fun w => zzSplit_any (mkS l) 44 w (by rw [size_mkS]; omega))
end Go.Proofs.YtcfbkkcamiephaaGreatDoor
