import Derived.Test.YtcfbkkcamiephaaGreatDoorD1
import Derived.Test.YtcfbkkcamiephaaGreatDoorC7
import Derived.Test.YtcfbkkcamiephaaGreatDoorG1
namespace Go.Proofs.YtcfbkkcamiephaaGreatDoor
open Go.RowKit

/-! ### the name of a line -/
theorem mapGoD_len (f : Int → Int) (n : Nat) (l : List UInt8) : (Lib.mapGoD f n l).length ≤ 4 * n := by
  induction n generalizing l with
  | zero => simp [Lib.mapGoD]
  | succ n ih =>
    simp only [Lib.mapGoD]
    split
    · simp
    · rw [List.length_append]
      have := ih (l.drop (Lib.decodeL l).2)
      have h4 : (if 0 ≤ f (Lib.decodeL l).1 then Lib.encodeRune (f (Lib.decodeL l).1) else []).length ≤ 4 := by
        split
        · unfold Lib.encodeRune Lib.encodeRuneZ
          repeat (first | split | simp)
        · simp
      omega
theorem toUpperD_len (l : List UInt8) : (Lib.toUpperD l).length ≤ 4 * l.length := mapGoD_len _ _ _
theorem trimLeftD_len (n : Nat) (l : List UInt8) : (Lib.trimLeftD n l).length ≤ l.length := by
  induction n generalizing l with
  | zero => simp [Lib.trimLeftD]
  | succ n ih =>
    simp only [Lib.trimLeftD]
    split
    · simp
    · split
      · exact Nat.le_trans (ih _) (by simp)
      · exact Nat.le_refl _
theorem trimRightD_len (n : Nat) (l : List UInt8) : (Lib.trimRightD n l).length ≤ l.length := by
  induction n generalizing l with
  | zero => simp [Lib.trimRightD]
  | succ n ih =>
    simp only [Lib.trimRightD]
    split
    · simp
    · split
      · exact Nat.le_trans (ih _) (by simp)
      · exact Nat.le_refl _
theorem trimSpaceD_len (l : List UInt8) : (Lib.trimSpaceD l).length ≤ l.length := Nat.le_trans (trimRightD_len _ _) (trimLeftD_len _ _)

def nameU (u : List UInt8) : Option (List UInt8) :=
  if u = [] then none else if idxAI [59, 58] u ≤ 0 then none else if 0 < idxAI [61] (u.take (idxA [59, 58] u)) then none else some (u.take (idxA [59, 58] u))
def nameT (l : List UInt8) : Option (List UInt8) := nameU (Lib.toUpperD (Lib.trimSpaceD l))
def NameRes (R : Option (List UInt8)) (nm : List UInt8) (ev : Value) : Prop := match R with
  | none => nm = [] ∧ ∃ T p, ev = .iface T (.pointer (some p))
  | some x => nm = x ∧ ev = .nilIface
def NamePost (w : World) (R : Option (List UInt8)) (e : Ending) (w' : World) : Prop := ∃ nm ev, e = .returned (.tuple #[.string (mkS nm), ev]) ∧ Below w.heap.size w w' ∧ NameRes R nm ev
theorem name_none {w : World} {R : Option (List UInt8)} {e : Ending} {w' : World} {T : TypeId} {p : Addr} (h : R = none) (he : e = .returned (.tuple #[.string ⟨#[]⟩, .iface T (.pointer (some p))])) (hb : Below w.heap.size w w') : NamePost w R e w' := by
  rw [h]; exact ⟨[], _, he, hb, rfl, _, _, rfl⟩
theorem name_some {w : World} {R : Option (List UInt8)} {e : Ending} {w' : World} {x : List UInt8} (h : R = some x) (he : e = .returned (.tuple #[.string (mkS x), .nilIface])) (hb : Below w.heap.size w w') : NamePost w R e w' := by
  rw [h]; exact ⟨x, _, he, hb, rfl, rfl⟩
theorem idxAI_take {cs u : List UInt8} (h : ¬ idxAI cs u ≤ 0) : idxAI cs u = (idxA cs u : Int) ∧ idxA cs u < u.length := by
  unfold idxAI at h ⊢
  split at h
  · rename_i g; exact ⟨by rw [if_pos g], g⟩
  · omega
set_option maxRecDepth 100000 in
set_option maxHeartbeats 1600000 in
theorem name_walk (l t u : List UInt8) (R : Option (List UInt8)) (w : World) (hG : Good w) (hR : nameU u = R) (hul : u.length ≤ 400000000)
    (hT1 : ∀ w, Good w → Calls Tryz.prog 113 #[.string (mkS l)] w fun e w' => e = .returned (.string (mkS t)) ∧ Below w.heap.size w w')
    (hT2 : ∀ w, Good w → Calls Tryz.prog 150 #[.string (mkS t)] w fun e w' => e = .returned (.string (mkS u)) ∧ Below w.heap.size w w') :
    Calls Tryz.prog 114 #[.string (mkS l)] w (NamePost w R) := by
  have hI := fun w => zzIndexAny_any u [59, 58] w (by omega) (by simp) (by decide)
  have hJ := fun w => zzIndexAny_any (u.take (idxA [59, 58] u)) [61] w (by rw [List.length_take]; omega) (by simp) (by decide)
  have hidx := @idxAI_take [59, 58] u
  have hRn := hR
  unfold nameU at hRn
  generalize hx : idxAI [59, 58] u = x at *
  generalize hn : idxA [59, 58] u = n at *
  generalize hy : idxAI [61] (u.take n) = y at *
  have H1 := Lib.hid hT1; have H2 := Lib.hid hT2
  have HI : Hid (∀ w, Calls Tryz.prog 151 #[.string (mkS u), .string ⟨#[59, 58]⟩] w fun e w' => e = .returned (.int .i64 x) ∧ Below w.heap.size w w') := hI
  have HJ : Hid (∀ w, Calls Tryz.prog 151 #[.string (mkS (u.take n)), .string ⟨#[61]⟩] w fun e w' => e = .returned (.int .i64 y) ∧ Below w.heap.size w w') := hJ
  clear hT1 hT2 hI hJ hx hn hy hR
  have tl := toList_mkS u
  have zu := size_mkS u
  by_cases hu : u = []
  · rw [if_pos hu] at hRn
    subst hu
    have HRn := Lib.hid hRn.symm; clear hRn hidx
    go_enter Tryz.func114, Tryz.ntmps114
    go_wp2_with (first
    | (go_at_call 113; go_must (refine (H1.out _ hG).mono ?_; rintro e w1 ⟨rfl, hb1⟩; have hG1 := hG.below hb1))
    | (go_at_call 150; go_must (refine (H2.out _ hG1).mono ?_; rintro e w2 ⟨rfl, hb2⟩; have HB2 := hb1.trans (hb2.mono hb1.size)))
    | go_in)
    go_ret2
    refine name_none HRn.out rfl ?_
    repeat (first | exact HB2 | refine Below.alloc ?_ (by first | exact HB2.size) _)
  rw [if_neg hu] at hRn
  have hue : u.isEmpty = false := by cases u <;> simp_all
  clear hu
  by_cases hx0 : x ≤ 0
  · rw [if_pos hx0] at hRn
    have HRn := Lib.hid hRn.symm; clear hRn hidx
    go_enter Tryz.func114, Tryz.ntmps114
    go_wp2_with (first
    | (go_at_call 113; go_must (refine (H1.out _ hG).mono ?_; rintro e w1 ⟨rfl, hb1⟩; have hG1 := hG.below hb1))
    | (go_at_call 150; go_must (refine (H2.out _ hG1).mono ?_; rintro e w2 ⟨rfl, hb2⟩; have HB2 := hb1.trans (hb2.mono hb1.size)))
    | (go_at_call 151; (with_reducible refine (HI.out _).mono ?_); rintro e w3 ⟨rfl, hb3⟩; have HB3 := HB2.trans (hb3.mono HB2.size))
    | go_in)
    go_ret2
    refine name_none HRn.out rfl ?_
    repeat (first | exact HB3 | exact HB2 | refine Below.alloc ?_ (by first | exact HB3.size | exact HB2.size) _)
  rw [if_neg hx0] at hRn
  obtain ⟨rfl, hlt⟩ := hidx hx0
  have hex : (mkS u).extract 0 n = mkS (u.take n) := by rw [extract_mkS, mkS_data]; simp
  clear hidx
  by_cases hy0 : 0 < y
  · rw [if_pos hy0] at hRn
    have HRn := Lib.hid hRn.symm; clear hRn
    go_enter Tryz.func114, Tryz.ntmps114
    go_wp2_with (first
    | (go_at_call 113; go_must (refine (H1.out _ hG).mono ?_; rintro e w1 ⟨rfl, hb1⟩; have hG1 := hG.below hb1))
    | (go_at_call 150; go_must (refine (H2.out _ hG1).mono ?_; rintro e w2 ⟨rfl, hb2⟩; have HB2 := hb1.trans (hb2.mono hb1.size)))
    | (go_at_call 151; (with_reducible refine (HI.out _).mono ?_); rintro e w3 ⟨rfl, hb3⟩; have HB3 := HB2.trans (hb3.mono HB2.size))
    | (go_at_call 151; (with_reducible refine (HJ.out _).mono ?_); rintro e w4 ⟨rfl, hb4⟩; have HB4 := HB3.trans (hb4.mono HB3.size))
    | go_in)
    go_ret2
    refine name_none HRn.out rfl ?_
    repeat (first | exact HB4 | exact HB3 | exact HB2 | refine Below.alloc ?_ (by first | exact HB4.size | exact HB3.size | exact HB2.size) _)
  · rw [if_neg hy0] at hRn
    have HRn := Lib.hid hRn.symm; clear hRn
    go_enter Tryz.func114, Tryz.ntmps114
    go_wp2_with (first
    | (go_at_call 113; go_must (refine (H1.out _ hG).mono ?_; rintro e w1 ⟨rfl, hb1⟩; have hG1 := hG.below hb1))
    | (go_at_call 150; go_must (refine (H2.out _ hG1).mono ?_; rintro e w2 ⟨rfl, hb2⟩; have HB2 := hb1.trans (hb2.mono hb1.size)))
    | (go_at_call 151; (with_reducible refine (HI.out _).mono ?_); rintro e w3 ⟨rfl, hb3⟩; have HB3 := HB2.trans (hb3.mono HB2.size))
    | (go_at_call 151; (with_reducible refine (HJ.out _).mono ?_); rintro e w4 ⟨rfl, hb4⟩; have HB4 := HB3.trans (hb4.mono HB3.size))
    | go_in)
    go_ret2
    exact name_some HRn.out rfl HB4
theorem name_any (l : List UInt8) (w : World) (hl : l.length ≤ 100000000) (hG : Good w) :
    Calls Tryz.prog 114 #[.string (mkS l)] w (NamePost w (nameT l)) := by
  have ht := trimSpaceD_len l
  have hu := toUpperD_len (Lib.trimSpaceD l)
  exact name_walk l (Lib.trimSpaceD l) (Lib.toUpperD (Lib.trimSpaceD l)) _ w hG rfl (by omega)
    (fun w hG => Tryz.strings_TrimSpace_any (mkS l) w (by rw [size_mkS]; omega) hG.sp hG.u8 hG.ws)
    (fun w hG => Tryz.strings_ToUpper_any (mkS (Lib.trimSpaceD l)) w (by rw [size_mkS]; omega) hG.cv hG.u8)
