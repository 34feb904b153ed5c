import Derived.Test.YtcfbkkcamiephaaGreatDoorD3
import Derived.MapKept
namespace Go.Proofs.YtcfbkkcamiephaaGreatDoor
open Go.RowKit

/-! ### a map of texts that the call makes -/
def ents (n : Nat) : List (ByteArray × Value) → List MapEntry
  | [] => []
  | (k, v) :: r => { key := .string k, val := v, born := n } :: ents (n + 1) r
theorem ents_snoc (n : Nat) (l : List (ByteArray × Value)) (k : ByteArray) (v : Value) : ents n (l ++ [(k, v)]) = ents n l ++ [{ key := .string k, val := v, born := n + l.length }] := by
  induction l generalizing n with
  | nil => simp [ents]
  | cons p r ih => simp [ents, ih]; omega
def lookS (s : ByteArray) : List (ByteArray × Value) → Option Value
  | [] => none
  | (k, v) :: r => if s == k then some v else lookS s r
theorem findNow_ents (s : ByteArray) (l : List (ByteArray × Value)) (n i : Nat) : ∃ r, Instr.findNow .string (.string s) (ents n l) i = some r ∧ r.map (·.2) = lookS s l := by
  induction l generalizing n i with
  | nil => exact ⟨none, rfl, rfl⟩
  | cons p r ih =>
    obtain ⟨k, v⟩ := p
    simp only [ents, Instr.findNow, Instr.sameNow, lookS]
    cases h : (s == k) with
    | true => exact ⟨some (i, v), by simp, by simp⟩
    | false =>
      obtain ⟨r2, h1, h2⟩ := ih (n + 1) (i + 1)
      exact ⟨r2, by simpa using h1, by simpa using h2⟩
theorem map_set (w : World) (o o' : Obj) : { w.alloc o with heap := (w.alloc o).heap.setIfInBounds w.heap.size o' } = w.alloc o' := by
  simp only [World.alloc]
  congr 1
  apply Array.ext'
  simp [Array.setIfInBounds, Array.toList_push]
theorem run_insert_ents {P : Program} {T K E : TypeId} (hT : P.underlying T = some (.map K E)) (hK : P.underlying K = some .string) (w : World) (l : List (ByteArray × Value)) (k : ByteArray) (v : Value) (hno : lookS k l = none) :
    (Instr.mapUpdate T (.map (some w.heap.size)) (.string k) v).run P (w.alloc (.map (ents 0 l).toArray l.length)) = .ok () (w.alloc (.map (ents 0 (l ++ [(k, v)])).toArray (l.length + 1))) := by
  obtain ⟨r, h1, h2⟩ := findNow_ents k l 0 0
  rw [hno] at h2
  obtain rfl : r = none := by cases r <;> simp_all
  have hh : (w.alloc (Obj.map (ents 0 l).toArray l.length)).heap[w.heap.size]? = some (.map (ents 0 l).toArray l.length) := heap_alloc_new w _
  have hck := MapKept.run_checkKey (P := P) (w := w.alloc (Obj.map (ents 0 l).toArray l.length)) hK (k := .string k) (by simp [MapKept.IsKey]) false 9999
  have hfk := MapKept.run_findKey (P := P) (w := w.alloc (Obj.map (ents 0 l).toArray l.length)) hK h1
  unfold Instr.mapUpdate
  rw [Sem.run_bind, run_underlying hT]
  simp only [Result.andThen]
  rw [Sem.run_bind, MapKept.run_getObj_map hh]
  simp only [Result.andThen]
  rw [Sem.run_bind, hck]
  simp only [Result.andThen]
  rw [Sem.run_bind, hfk]
  simp only [Result.andThen]
  rw [MapKept.run_setObj_map _ hh]
  rw [ents_snoc]
  simp only [List.push_toArray, Nat.zero_add, Result.ok.injEq, true_and]
  exact map_set w _ _
theorem run_lookup_ents {P : Program} {T K E : TypeId} (hT : P.underlying T = some (.map K E)) (hK : P.underlying K = some .string) (w : World) (r : Nat) (l : List (ByteArray × Value)) (n : Nat) (hh : w.heap[r]? = some (.map (ents 0 l).toArray n)) (s : ByteArray) (v : Value) (hv : lookS s l = some v) :
    (Instr.lookup T (.map (some r)) (.string s) true).run P w = .ok (.tuple #[v, .bool true]) w := by
  obtain ⟨q, h1, h2⟩ := findNow_ents s l 0 0
  rw [hv] at h2
  obtain ⟨q, rfl⟩ : ∃ x, q = some x := by cases q <;> simp_all
  obtain ⟨i, v'⟩ := q
  obtain rfl : v' = v := by simpa using h2
  unfold Instr.lookup
  rw [Sem.run_bind, run_underlying hT]
  simp only [Result.andThen]
  simp only [Sem.run_bind, MapKept.run_getObj_map hh, Result.andThen, Sem.run_pure, MapKept.run_checkKey (w := w) (k := .string s) hK (by simp [MapKept.IsKey]), MapKept.run_findKey (w := w) hK h1]
  rfl
theorem run_lookup_none {P : Program} {T K E : TypeId} (hT : P.underlying T = some (.map K E)) (hK : P.underlying K = some .string) (w : World) (r : Nat) (l : List (ByteArray × Value)) (n : Nat) (hh : w.heap[r]? = some (.map (ents 0 l).toArray n)) (s : ByteArray) (z : Value) (hz : (zeroValue E).run P w = .ok z w) (hv : lookS s l = none) :
    (Instr.lookup T (.map (some r)) (.string s) true).run P w = .ok (.tuple #[z, .bool false]) w := by
  obtain ⟨q, h1, h2⟩ := findNow_ents s l 0 0
  rw [hv] at h2
  obtain rfl : q = none := by cases q <;> simp_all
  unfold Instr.lookup
  rw [Sem.run_bind, run_underlying hT]
  simp only [Result.andThen]
  simp only [Sem.run_bind, MapKept.run_getObj_map hh, Result.andThen, Sem.run_pure, MapKept.run_checkKey (w := w) (k := .string s) hK (by simp [MapKept.IsKey]), MapKept.run_findKey (w := w) hK h1, hz]
  rfl

/-! ### StrToFreq -/
def freqEnts : List (ByteArray × Value) := (List.range 7).map fun i => (freqNm i, .int .i64 (i : Int))
def fm (j : Nat) : Array MapEntry := (ents 0 (freqEnts.take j)).toArray
def freqT (l : List UInt8) : Option Int := if mkS l = freqNm 0 then some 0 else if mkS l = freqNm 1 then some 1 else if mkS l = freqNm 2 then some 2 else if mkS l = freqNm 3 then some 3 else if mkS l = freqNm 4 then some 4 else if mkS l = freqNm 5 then some 5 else if mkS l = freqNm 6 then some 6 else none
theorem look_freq (l : List UInt8) : lookS (mkS l) (freqEnts.take 7) = (freqT l).map (Value.int .i64) := by
  show lookS (mkS l) [(freqNm 0, .int .i64 0), (freqNm 1, .int .i64 1), (freqNm 2, .int .i64 2), (freqNm 3, .int .i64 3), (freqNm 4, .int .i64 4), (freqNm 5, .int .i64 5), (freqNm 6, .int .i64 6)] = _
  simp only [lookS, freqT, MapKept.bytes_beq]
  repeat (first | rfl | split)
theorem freq_ins (w : World) (j : Nat) (hj : j < 7) : (Instr.mapUpdate 159 (.map (some w.heap.size)) (.string (freqNm j)) (.int .i64 j)).run Tryz.prog (w.alloc (.map (fm j) j)) = .ok () (w.alloc (.map (fm (j + 1)) (j + 1))) := by
  have h := run_insert_ents (P := Tryz.prog) (T := 159) Tryz.underlying159 Tryz.underlying9 w (freqEnts.take j) (freqNm j) (.int .i64 j)
    (by rcases (show j = 0 ∨ j = 1 ∨ j = 2 ∨ j = 3 ∨ j = 4 ∨ j = 5 ∨ j = 6 by omega) with rfl | rfl | rfl | rfl | rfl | rfl | rfl <;> rfl)
  have hl : (freqEnts.take j).length = j := by rcases (show j = 0 ∨ j = 1 ∨ j = 2 ∨ j = 3 ∨ j = 4 ∨ j = 5 ∨ j = 6 by omega) with rfl | rfl | rfl | rfl | rfl | rfl | rfl <;> rfl
  have ht : freqEnts.take j ++ [(freqNm j, .int .i64 (j : Int))] = freqEnts.take (j + 1) := by rcases (show j = 0 ∨ j = 1 ∨ j = 2 ∨ j = 3 ∨ j = 4 ∨ j = 5 ∨ j = 6 by omega) with rfl | rfl | rfl | rfl | rfl | rfl | rfl <;> rfl
  rw [hl, ht] at h
  exact h
def FreqRes (R : Option Int) (v : Int) (ev : Value) : Prop := match R with
  | none => v = 0 ∧ ∃ T p, ev = .iface T (.pointer (some p))
  | some n => v = n ∧ ev = .nilIface
def FreqPost (w : World) (R : Option Int) (e : Ending) (w' : World) : Prop := ∃ v ev, e = .returned (.tuple #[.int .i64 v, ev]) ∧ Below w.heap.size w w' ∧ FreqRes R v ev
theorem freq_no {w : World} {R : Option Int} {e : Ending} {w' : World} {T : TypeId} {p : Addr} (h : R = none) (he : e = .returned (.tuple #[.int .i64 0, .iface T (.pointer (some p))])) (hb : Below w.heap.size w w') : FreqPost w R e w' := by
  rw [h]; exact ⟨0, _, he, hb, rfl, _, _, rfl⟩
theorem freq_ok {w : World} {R : Option Int} {e : Ending} {w' : World} {n : Int} (h : R = some n) (he : e = .returned (.tuple #[.int .i64 n, .nilIface])) (hb : Below w.heap.size w w') : FreqPost w R e w' := by
  rw [h]; exact ⟨n, _, he, hb, rfl, rfl⟩
set_option maxRecDepth 100000 in
set_option maxHeartbeats 1600000 in
theorem freq_any (l : List UInt8) (w : World) (hl : l.length ≤ 3000000000) :
    Calls Tryz.prog 80 #[.string (mkS l)] w (FreqPost w (freqT l)) := by
  have hlk := look_freq l
  have zl := size_mkS l
  generalize hR : freqT l = R at *
  have HR := Lib.hid hR; clear hR
  have hm := @run_makeMap Tryz.prog
  have hi0 : (Instr.mapUpdate 159 (.map (some w.heap.size)) (.string ⟨#[89, 69, 65, 82, 76, 89]⟩) (.int .i64 0)).run Tryz.prog (w.alloc (.map #[] 0)) = .ok () (w.alloc (.map (fm 1) 1)) := freq_ins w 0 (by omega)
  have hi1 : (Instr.mapUpdate 159 (.map (some w.heap.size)) (.string ⟨#[77, 79, 78, 84, 72, 76, 89]⟩) (.int .i64 1)).run Tryz.prog (w.alloc (.map (fm 1) 1)) = .ok () (w.alloc (.map (fm 2) 2)) := freq_ins w 1 (by omega)
  have hi2 : (Instr.mapUpdate 159 (.map (some w.heap.size)) (.string ⟨#[87, 69, 69, 75, 76, 89]⟩) (.int .i64 2)).run Tryz.prog (w.alloc (.map (fm 2) 2)) = .ok () (w.alloc (.map (fm 3) 3)) := freq_ins w 2 (by omega)
  have hi3 : (Instr.mapUpdate 159 (.map (some w.heap.size)) (.string ⟨#[68, 65, 73, 76, 89]⟩) (.int .i64 3)).run Tryz.prog (w.alloc (.map (fm 3) 3)) = .ok () (w.alloc (.map (fm 4) 4)) := freq_ins w 3 (by omega)
  have hi4 : (Instr.mapUpdate 159 (.map (some w.heap.size)) (.string ⟨#[72, 79, 85, 82, 76, 89]⟩) (.int .i64 4)).run Tryz.prog (w.alloc (.map (fm 4) 4)) = .ok () (w.alloc (.map (fm 5) 5)) := freq_ins w 4 (by omega)
  have hi5 : (Instr.mapUpdate 159 (.map (some w.heap.size)) (.string ⟨#[77, 73, 78, 85, 84, 69, 76, 89]⟩) (.int .i64 5)).run Tryz.prog (w.alloc (.map (fm 5) 5)) = .ok () (w.alloc (.map (fm 6) 6)) := freq_ins w 5 (by omega)
  have hi6 : (Instr.mapUpdate 159 (.map (some w.heap.size)) (.string ⟨#[83, 69, 67, 79, 78, 68, 76, 89]⟩) (.int .i64 6)).run Tryz.prog (w.alloc (.map (fm 6) 6)) = .ok () (w.alloc (.map (fm 7) 7)) := freq_ins w 6 (by omega)
  cases R with
  | none =>
    have hlo := run_lookup_none (P := Tryz.prog) (T := 159) Tryz.underlying159 Tryz.underlying9 (w.alloc (.map (fm 7) 7)) w.heap.size (freqEnts.take 7) 7 (heap_alloc_new w _) (mkS l) (.int .i64 0) (by kernel_rfl) hlk
    clear hlk
    go_enter Tryz.func80, Tryz.ntmps80
    go_wp2
    go_ret2
    exact freq_no rfl rfl (by repeat (first | exact Below.refl _ _ | refine Below.alloc ?_ (by simp) _))
  | some n =>
    have hlo := run_lookup_ents (P := Tryz.prog) (T := 159) Tryz.underlying159 Tryz.underlying9 (w.alloc (.map (fm 7) 7)) w.heap.size (freqEnts.take 7) 7 (heap_alloc_new w _) (mkS l) (.int .i64 n) hlk
    clear hlk
    go_enter Tryz.func80, Tryz.ntmps80
    go_wp2
    go_ret2
    exact freq_ok rfl rfl (by repeat (first | exact Below.refl _ _ | refine Below.alloc ?_ (by simp) _))
