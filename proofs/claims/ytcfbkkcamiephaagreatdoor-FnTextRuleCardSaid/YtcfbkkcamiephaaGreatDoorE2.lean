import Derived.Test.YtcfbkkcamiephaaGreatDoorE1
import Derived.Deep.DeepCutAuto
import Derived.Deep.CutBlock
import Derived.Deep.LoopGhost
import Derived.Deep.WholeRow
import Derived.Great.Walk
namespace Go.Proofs.YtcfbkkcamiephaaGreatDoor
open Go.RowKit

def optZ : Array Value := #[.int .i64 0, .int .i64 0, .int .i64 0, .int .i64 0, .int .i64 0, .int .i64 0, .int .i64 0, .int .i64 0, .int .i64 0, .slice none 0 0, .slice none 0 0, .slice none 0 0, .slice none 0 0, .slice none 0 0, .slice none 0 0, .slice none 0 0, .slice none 0 0, .slice none 0 0, .slice none 0 0]
theorem Tryz.info106 : (Tryz.prog.info? 106).map (fun i => (i.zero, i.size)) = some (some (.agg optZ), 19) := by kernel_rfl
theorem Tryz.built106 : Tryz.prog.built 106 [] = some optZ := by kernel_rfl
theorem run_build106 (ρ : Operand → Value) (o : Oper) (ho : o.op = .build 106 #[]) (w : World) : (execOp ρ o).run Tryz.prog w = .ok (.value (.agg optZ)) w := by
  unfold execOp
  simp only [ho]
  simp [run_build w 106 #[] optZ Tryz.built106]
theorem run_alloc106 (ρ : Operand → Value) (o : Oper) (ho : o.op = .alloc 106) (w : World) : (execOp ρ o).run Tryz.prog w = .ok (.value (.pointer (some ⟨w.heap.size, 0, none⟩))) (w.alloc (.cells optZ 106)) := by
  have hz := (zero_of_info Tryz.info106).1
  unfold execOp
  simp only [ho]
  simp [hz, newVar, newRow, Value.cells, go_sem]
theorem optZ_one : (optZ.all fun x => x.oneCell') = true := by simp [optZ, Value.oneCell']
theorem splitC_any (l : List UInt8) (c : UInt8) (w : World) (hl : l.length ≤ 1000000000) : Calls Tryz.prog 107 #[.string (mkS l), .string ⟨#[c]⟩] w (SplitPost w ((splitL c l).map mkS)) :=
  zzSplit_any (mkS l) c w (by rw [size_mkS]; omega)
theorem trim_any (l : List UInt8) (w : World) (hl : l.length ≤ 1000000000) (hG : Good w) : Calls Tryz.prog 113 #[.string (mkS l)] w fun e w' => e = .returned (.string (mkS (Lib.trimSpaceD l))) ∧ Below w.heap.size w w' :=
  Tryz.strings_TrimSpace_any (mkS l) w (by rw [size_mkS]; omega) hG.sp hG.u8 hG.ws
theorem prefix_any (l p : List UInt8) (w : World) : Calls Tryz.prog 115 #[.string (mkS l), .string (mkS p)] w fun e w' => e = .returned (.string (mkS (Lib.trimPrefix l p))) ∧ w' = w := Tryz.strings_TrimPrefix (mkS l) (mkS p) w
def OptPost (w : World) (R : Option Opt) (e : Ending) (w' : World) : Prop := Below w.heap.size w w' ∧ match R with
  | none => ∃ T p, e = .returned (.tuple #[.pointer none, .iface T (.pointer (some p))])
  | some o => ∃ N, e = .returned (.tuple #[.pointer (some ⟨N, 0, none⟩), .nilIface]) ∧ OptIs w' N o
theorem opt_no {w : World} {R : Option Opt} {e : Ending} {w' : World} {T : TypeId} {p : Addr} (h : R = none) (he : e = .returned (.tuple #[.pointer none, .iface T (.pointer (some p))])) (hb : Below w.heap.size w w') : OptPost w R e w' := by
  rw [h]; exact ⟨hb, T, p, he⟩
theorem opt_ok {w : World} {R : Option Opt} {e : Ending} {w' : World} {o : Opt} {N : Nat} (h : R = some o) (he : e = .returned (.tuple #[.pointer (some ⟨N, 0, none⟩), .nilIface])) (hb : Below w.heap.size w w') (ho : OptIs w' N o) : OptPost w R e w' := by
  rw [h]; exact ⟨hb, N, he, ho⟩
theorem keyI_cases (k : List UInt8) : (∃ j, j < 16 ∧ k = keyNm j ∧ keyI k = j) ∨ ((∀ j, j < 16 → (k == keyNm j) = false) ∧ keyI k = 16) := by
  unfold keyI
  by_cases hh : ∃ j, j < 16 ∧ k = keyNm j
  · left
    obtain ⟨j, hj, h⟩ := hh
    refine ⟨j, hj, h, ?_⟩
    rw [h]
    rcases (show j = 0 ∨ j = 1 ∨ j = 2 ∨ j = 3 ∨ j = 4 ∨ j = 5 ∨ j = 6 ∨ j = 7 ∨ j = 8 ∨ j = 9 ∨ j = 10 ∨ j = 11 ∨ j = 12 ∨ j = 13 ∨ j = 14 ∨ j = 15 by omega) with rfl | rfl | rfl | rfl | rfl | rfl | rfl | rfl | rfl | rfl | rfl | rfl | rfl | rfl | rfl | rfl <;> decide +kernel
  · right
    have hh : ∀ j, j < 16 → k ≠ keyNm j := fun j hj h => hh ⟨j, hj, h⟩
    refine ⟨fun j hj => beq_eq_false_iff_ne.2 (hh j hj), ?_⟩
    rw [if_neg (hh 0 (by omega))]
    rw [if_neg (hh 1 (by omega))]
    rw [if_neg (hh 2 (by omega))]
    rw [if_neg (hh 3 (by omega))]
    rw [if_neg (hh 4 (by omega))]
    rw [if_neg (hh 5 (by omega))]
    rw [if_neg (hh 6 (by omega))]
    rw [if_neg (hh 7 (by omega))]
    rw [if_neg (hh 8 (by omega))]
    rw [if_neg (hh 9 (by omega))]
    rw [if_neg (hh 10 (by omega))]
    rw [if_neg (hh 11 (by omega))]
    rw [if_neg (hh 12 (by omega))]
    rw [if_neg (hh 13 (by omega))]
    rw [if_neg (hh 14 (by omega))]
    rw [if_neg (hh 15 (by omega))]
theorem Below.nn {w w' : World} (hb : Below w.heap.size w w') (_h : w.heap.size ≤ w.heap.size) : Below w.heap.size w w' := hb
theorem wpList_store_fresh {P : Program} {ops : Array Oper} {rest : List Oper} {op : Oper} {a : Act} {w : World} {Q : Exit → Act → World → Prop} (hgd : op.guard = none) (ty : TypeId) (x y : Operand) (ho : op.op = .store ty x y)
    (c c' : Array Value) (hx : a.eval x = .pointer (some ⟨w.heap.size, 0, none⟩)) (hy : a.eval y = .agg c') (hi : (P.info? ty).map (·.size) = some c'.size) (hc : c.size = c'.size) (h1 : c'.all (·.oneCell') = true)
    (h : wpList P ops Q rest (a.put op.dst undef) (w.alloc (.cells c' ty))) : wpList P ops Q (op :: rest) a (w.alloc (.cells c ty)) :=
  wpList_plain hgd fun _ hK => by
    unfold Oper.wp execOp
    simp only [ho, hx, hy, Instr.storeAt, Instr.sureAddr, Sem.run_bind, Sem.run_pure, Result.andThen_ok, run_storeVar_new w ty c c' hi hc h1]
    exact hK _ _ h
/-- What the switch leaves. -/
def SwRel (w : World) (N : Nat) (R : Option (Opt × Bool)) (s10 s18 : Value) (wx : World) : Prop := Below w.heap.size w wx ∧ match R with
  | none => ∃ T p, s18 = .iface T (.pointer (some p))
  | some (o, b) => s18 = .nilIface ∧ s10 = .bool b ∧ OptIs wx N o
theorem sw_no {w : World} {N : Nat} {R : Option (Opt × Bool)} {s10 : Value} {wx : World} {T : TypeId} {p : Addr} (h : R = none) (hb : Below w.heap.size w wx) : SwRel w N R s10 (.iface T (.pointer (some p))) wx := by
  rw [h]; exact ⟨hb, T, p, rfl⟩
theorem sw_ok {w : World} {N : Nat} {R : Option (Opt × Bool)} {b : Bool} {wx : World} {o : Opt} (h : R = some (o, b)) (hb : Below w.heap.size w wx) (ho : OptIs wx N o) : SwRel w N R (.bool b) .nilIface wx := by
  rw [h]; exact ⟨hb, rfl, rfl, ho⟩
def lineName (d : List UInt8) : Bool := match nameT d with
  | none => false
  | some n => n == [68, 84, 83, 84, 65, 82, 84]
def lineT (d : List UInt8) : Option (Int × Int) := if d = [] then some (0, 0) else if lineName d then startT (d.drop 8) else none
def partsR (a' : List UInt8) (s : Int × Int) : Option Opt := match partsL (splitL 59 a') ({ Opt.zero with st := s }, false) with
  | none => none
  | some (o, b) => if b then some o else none
def restT (d a' : List UInt8) : Option Opt := match lineT d with
  | none => none
  | some s => partsR a' s
set_option maxRecDepth 100000 in
set_option maxHeartbeats 6400000 in
theorem opt_walk (l t d a a' : List UInt8) (w : World) (hG : Good w) (R : Option Opt)
    (h1 : Hid (∀ w, Good w → Calls Tryz.prog 113 #[.string (mkS l)] w fun e w' => e = .returned (.string (mkS t)) ∧ Below w.heap.size w w'))
    (h2 : Hid (∀ w, Calls Tryz.prog 107 #[.string (mkS t), .string ⟨#[10]⟩] w (SplitPost w ((splitL 10 t).map mkS)))) (hS : Hid (linesT t = some (d, a)))
    (h114 : Hid (∀ w, Good w → Calls Tryz.prog 114 #[.string (mkS d)] w (NamePost w (nameT d))))
    (h77 : Hid (∀ w, Calls Tryz.prog 77 #[.string (mkS (d.drop 8)), .agg #[]] w (TPost w (startT (d.drop 8)))))
    (ha : Hid (Lib.trimPrefix a [82, 82, 85, 76, 69, 58] = a'))
    (hd : Hid (a'.length ≤ 1000000 ∧ (lineName d = true → 8 ≤ d.length)))
    (hR : Hid (restT d a' = R)) :
    Calls Tryz.prog 92 #[.string (mkS l), .agg #[]] w (OptPost w R) := by
  have hz := hG.alloc (.cells #[] 120)
  go_enter Tryz.func92, Tryz.ntmps92
  go_upto_block 0 with (first
    | (go_at_call 113; go_must (refine (h1.out _ (hG.alloc _)).mono ?_; rintro e w1 ⟨rfl, hb1⟩))
    | (go_at_call 107; go_must (refine (h2.out _).mono ?_; rintro e w2 ⟨g, cc, rfl, hg, hrow, hb2⟩; rw [List.length_map])))
  have HB2 : Below w.heap.size w w2 := ((Below.refl _ _).alloc (Nat.le_refl _) _).trans ((hb1.trans (hb2.mono hb1.size)).mono (by simp))
  clear hb1 hb2
  generalize hn : (splitL 10 t).length = n at *
  have HN := Lib.hid hn; clear hn
  go_cut [7, 8] from 25 to 38 (fun s7 s8 wx => s7 = .string (mkS a) ∧ s8 = .string (mkS d) ∧ wx = w2)
  case first =>
    have hS2 := hS.out
    unfold linesT at hS2
    split at hS2
    · rename_i a0 hsp
      simp only [Option.some.injEq, Prod.mk.injEq] at hS2
      obtain ⟨rfl, rfl⟩ := hS2
      have hc0 := hrow.cell 0 (mkS a0) (by rw [hsp]; rfl)
      have hn1 : n = 1 := by rw [← HN.out, hsp]; rfl
      have hq1 : ((n : Int) == 1) = true := by subst hn1; rfl
      have hp1 : 0 < n := by omega
      clear hsp hn1
      go_wp2
      go_meet
      exact ⟨rfl, rfl, rfl⟩
    · rename_i d0 a0 hsp
      simp only [Option.some.injEq, Prod.mk.injEq] at hS2
      obtain ⟨rfl, rfl⟩ := hS2
      have hc0 := hrow.cell 0 (mkS d0) (by rw [hsp]; rfl)
      have hc1 := hrow.cell 1 (mkS a0) (by rw [hsp]; rfl)
      have hn1 : n = 2 := by rw [← HN.out, hsp]; rfl
      have hq1 : ((n : Int) == 1) = false := by subst hn1; rfl
      have hq2 : ((n : Int) == 2) = true := by subst hn1; rfl
      have hp1 : 0 < n := by omega
      have hp2 : 1 < n := by omega
      clear hsp hn1
      go_wp2
      go_meet
      exact ⟨rfl, rfl, rfl⟩
    · simp at hS2
  case rest =>
    obtain ⟨rfl, rfl, rfl⟩ := hcut
    clear hrow hS HN
    have HN2 : w.heap.size ≤ wc.heap.size := HB2.size
    have hG2 := hG.below HB2
    have hzero : OptIs (wc.alloc (.cells optZ 106)) wc.heap.size Opt.zero := OptIs.zero
    have HB3 : Below w.heap.size w (wc.alloc (.cells optZ 106)) := HB2.alloc HN2 _
    go_upto_region 11 with fail
    go_step
    refine Great.wpList_runTo rfl (some 39) rfl _ _ (run_build106 _ _ rfl _) ?_
    refine Great.wpList_runTo rfl (some 9) rfl _ _ (run_alloc106 _ _ rfl _) ?_
    refine wpList_store_fresh rfl 106 _ _ rfl optZ optZ rfl rfl (by as_aux_lemma => kernel_rfl) rfl optZ_one ?_
    go_upto_if 41 with fail
    generalize wc.alloc (.cells optZ 106) = wo at *
    generalize wc.heap.size = N at *
    clear HB2 hG2
    have hGo := hG.below HB3
    generalize hb41 : (!(mkS d).toList.isEmpty) = b41
    have HB41 := Lib.hid hb41; clear hb41
    go_cut [11, 12] from 42 to 66 (fun _ _ wx => ∃ s0, Hid (lineT d = some s0) ∧ Below w.heap.size w wx ∧ OptIs wx N { Opt.zero with st := s0 })
    case first =>
      cases b41 with
      | false =>
        have hd0 : d = [] := by have := HB41.out; rw [toList_mkS] at this; cases d <;> simp_all
        have hd1 : Hid (d = []) := Lib.hid hd0
        clear hd0
        go_wp2
        go_meet
        exact ⟨(0, 0), Lib.hid (if_pos hd1.out), HB3, hzero⟩
      | true =>
        have hd0 : d ≠ [] := by rintro rfl; have := HB41.out; rw [toList_mkS] at this; simp at this
        have hLT : lineT d = if lineName d then startT (d.drop 8) else none := if_neg hd0
        have hLN : lineName d = match nameT d with
          | none => false
          | some n => n == [68, 84, 83, 84, 65, 82, 84] := rfl
        have h114' := h114.out
        cases hnm : nameT d with
        | none =>
          have hRn : R = none := by rw [← hR.out]; unfold restT; rw [hLT, hLN, hnm]; rfl
          have HRn := Lib.hid hRn
          rw [hnm] at h114'
          have H114 := Lib.hid h114'
          clear hRn hLT hLN hnm h114' hd0
          go_wp2_with (first
            | (go_at_call 114; go_must (refine (H114.out _ hGo).mono ?_; rintro e w5 ⟨nm, ev, rfl, hb5, rfl, T, p, rfl⟩))
            | (go_at_call 108; go_must (refine (errNew_any _ _).mono ?_; rintro e w6 ⟨T6, p6, rfl, hb6⟩)))
          go_ret2
          exact opt_no HRn.out rfl (HB3.trans ((hb5.trans (hb6.mono hb5.size)).mono HB3.size))
        | some nm =>
          rw [hnm] at hLN h114'
          cases hq : (nm == [68, 84, 83, 84, 65, 82, 84]) with
          | false =>
            have hRn : R = none := by rw [← hR.out]; unfold restT; rw [hLT, hLN]; simp only [hq]; rfl
            have HRn := Lib.hid hRn
            have H114 := Lib.hid h114'
            clear hRn hLT hLN hnm h114' hd0
            have tl := toList_mkS nm
            go_wp2_with (first
              | (go_at_call 114; go_must (refine (H114.out _ hGo).mono ?_; rintro e w5 ⟨nm', ev, rfl, hb5, rfl, rfl⟩))
              | (go_at_call 108; go_must (refine (errNew_any _ _).mono ?_; rintro e w6 ⟨T6, p6, rfl, hb6⟩)))
            go_ret2
            exact opt_no HRn.out rfl (HB3.trans ((hb5.trans (hb6.mono hb5.size)).mono HB3.size))
          | true =>
            have hnm2 : nm = [68, 84, 83, 84, 65, 82, 84] := by simpa using hq
            have hd8 : 8 ≤ d.length := hd.out.2 (by rw [hLN, hnm2]; rfl)
            have hLT2 : lineT d = startT (d.drop 8) := by rw [hLT, hLN, hnm2]; rfl
            have h77' := h77.out
            have H114 := Lib.hid h114'
            have hex : (mkS d).extract 8 d.length = mkS (d.drop 8) := by rw [extract_mkS, mkS_data, List.take_of_length_le (by simp)]
            have zd := size_mkS d
            have hc1 := hzero.cell 1 (by omega)
            have hc2 := hzero.cell 2 (by omega)
            obtain ⟨⟨x1, hx1⟩, hf1⟩ := hc1
            obtain ⟨⟨x2, hx2⟩, hf2⟩ := hc2
            have hNo := hzero.lt
            subst hnm2
            have w8 : IntKind.i64.wrap 8 = 8 := by decide
            have hd8z : (8 : Int) ≤ (d.length : Int) := by omega
            have tl := toList_mkS [68, 84, 83, 84, 65, 82, 84]
            have zs : (mkS [68, 84, 83, 84, 65, 82, 84]).size = 7 := rfl
            clear hLT hLN hnm h114' hd0 hq
            cases hst : startT (d.drop 8) with
            | none =>
              have hRn : R = none := by rw [← hR.out]; unfold restT; rw [hLT2, hst]
              have HRn := Lib.hid hRn
              rw [hst] at h77'
              have H77 := Lib.hid h77'
              clear hRn hLT2 hst h77'
              go_wp2_with (first
                | (go_at_call 114; go_must (refine (H114.out _ hGo).mono ?_; rintro e w5 ⟨nm', ev, rfl, hb5, rfl, rfl⟩))
                | (go_at_call 108; go_must (refine (errNew_any _ _).mono ?_; rintro e w6 ⟨T6, p6, rfl, hb6⟩)))
              go_region_with (go_at_call 77; go_must (refine (H77.out _).mono ?_; rintro e w7 ⟨sx, sy, ev, rfl, hb7, rfl, rfl, T, p, rfl⟩; have ho7 := (hzero.below hb5).below (Below.trans ((Below.refl _ _).drew) hb7); obtain ⟨⟨y1, hy1⟩, hg1⟩ := ho7.cell 1 (by omega); obtain ⟨⟨y2, hy2⟩, hg2⟩ := ho7.cell 2 (by omega)))
              all_goals (
                have HB7 : Below w.heap.size w w7 := HB3.trans ((hb5.trans ((Below.trans ((Below.refl _ _).drew) hb7).mono hb5.size)).mono HB3.size)
                go_wp2_with (go_at_call 108; go_must (refine (errNew_any _ _).mono ?_; rintro e w6 ⟨T6, p6, rfl, hb6⟩))
                go_ret2
                exact opt_no HRn.out rfl (((HB7.setCell HN2 _).setCell HN2 _).trans (hb6.mono ((HB7.setCell HN2 _).setCell HN2 _).size)))
            | some s0 =>
              obtain ⟨p0, q0⟩ := s0
              have HLT := Lib.hid (hLT2.trans hst)
              rw [hst] at h77'
              have H77 := Lib.hid h77'
              clear hLT2 hst h77'
              go_wp2_with (first
                | (go_at_call 114; go_must (refine (H114.out _ hGo).mono ?_; rintro e w5 ⟨nm', ev, rfl, hb5, rfl, rfl⟩))
                | (go_at_call 108; go_must (refine (errNew_any _ _).mono ?_; rintro e w6 ⟨T6, p6, rfl, hb6⟩)))
              go_region_with (go_at_call 77; go_must (refine (H77.out _).mono ?_; rintro e w7 ⟨sx, sy, ev, rfl, hb7, rfl, rfl, rfl⟩; have ho7 := (hzero.below hb5).below (Below.trans ((Below.refl _ _).drew) hb7); obtain ⟨⟨y1, hy1⟩, hg1⟩ := ho7.cell 1 (by omega); obtain ⟨⟨y2, hy2⟩, hg2⟩ := ho7.cell 2 (by omega)))
              all_goals (
                have HB7 : Below w.heap.size w w7 := HB3.trans ((hb5.trans ((Below.trans ((Below.refl _ _).drew) hb7).mono hb5.size)).mono HB3.size)
                go_wp2
                go_meet
                exact ⟨_, HLT, (HB7.setCell HN2 _).setCell HN2 _, ho7.set_st sx sy⟩)
    case rest =>
      obtain ⟨s0, hL, HB4, hopt⟩ := hcut
      have hRR : partsR a' s0 = R := by rw [← hR.out]; unfold restT; rw [hL.out]
      have hT0 : partsR a' s0 = match partsL (splitL 59 a') ({ Opt.zero with st := s0 }, false) with
        | none => none
        | some (o, b) => if b then some o else none := rfl
      rw [hT0] at hRR
      have h59 := fun w => splitC_any a' 59 w (by have := hd.out.1; omega)
      have hpl : (splitL 59 a').length ≤ 1000001 ∧ ∀ p ∈ splitL 59 a', p.length ≤ 1000000 := ⟨by have := splitL_len 59 a'; have := hd.out.1; omega, fun p hp => Nat.le_trans (split_len hp) hd.out.1⟩
      generalize splitL 59 a' = ps at *
      generalize ({ Opt.zero with st := s0 } : Opt) = o0 at hopt hRR
      have HR := Lib.hid hRR
      have H59 := Lib.hid h59
      have HPL := Lib.hid hpl
      have H115 : Hid (∀ w, Calls Tryz.prog 115 #[.string (mkS a), .string ⟨#[82, 82, 85, 76, 69, 58]⟩] w fun e w' => e = .returned (.string (mkS a')) ∧ w' = w) := by
        intro w
        have := prefix_any a [82, 82, 85, 76, 69, 58] w
        rw [ha.out] at this
        exact this
      clear hRR hT0 h59 hpl hzero hGo HB3
      go_wp2_with (first
        | (go_at_call 115; go_must (refine (H115.out _).mono ?_; rintro e w8 ⟨rfl, rfl⟩))
        | (go_at_call 107; go_must (refine (H59.out _).mono ?_; rintro e w9 ⟨g2, c2, rfl, hg2, hrow2, hb9⟩; rw [List.length_map])))
      have HB9 := HB4.trans (hb9.mono HB4.size)
      have hNg : N ≠ g2 := by have := hopt.lt; omega
      have hopt9 := hopt.below hb9
      clear hb9 HB4 hopt
      go_loopg [10, 72] ps.length (fun gk s10 s72 wr => ∃ k o b, k ≤ ps.length ∧ gk = ps.length - k ∧ s72 = .int .i64 (k : Nat) ∧ s10 = .bool b ∧ Hid (partsL ps (o0, false) = partsL (ps.drop k) (o, b)) ∧ OptIs wr N o ∧ StrRow wr g2 c2 (ps.map mkS) ∧ Below w.heap.size w wr)
      case atStart => exact ⟨0, o0, false, by omega, by omega, rfl, rfl, Lib.hid rfl, hopt9, hrow2, HB9⟩
      case round =>
        obtain ⟨k, o, b, hk, rfl, rfl, rfl, hT, ho, hs, hb⟩ := hrel
        have hGr := hG.below hb
        by_cases hlt : k < ps.length
        · have hcell := hs.cell k (mkS ps[k]) (by simp [hlt])
          have hT2 := hT.out
          rw [List.drop_eq_getElem_cons hlt] at hT2
          simp only [partsL] at hT2
          have hp6 := HPL.out.2 _ (List.getElem_mem hlt)
          have h61 := fun w => splitC_any ps[k] 61 w (by omega)
          have hkv : ∀ v ∈ splitL 61 ps[k], v.length ≤ 1000000 := fun v hv => Nat.le_trans (split_len hv) hp6
          have hPT : partT ps[k] (o, b) = match splitL 61 ps[k] with
            | [x, v] => if v = [] then none else (partI (keyI x) v o).map fun y => (y, b || keyI x == 0)
            | _ => none := rfl
          rw [hPT] at hT2
          clear hPT
          generalize ps[k] = p at *
          generalize splitL 61 p = kv at *
          clear hp6
          have HKV := Lib.hid hkv
          clear hkv hT
          by_cases hsh : ∃ x v, kv = [x, v]
          · obtain ⟨x, v, rfl⟩ := hsh
            have hvl : v.length ≤ 1000000 := HKV.out v (by simp)
            have hxl : x.length ≤ 1000000 := HKV.out x (by simp)
            have zx := size_mkS x
            simp only at hT2
            by_cases hv : v = []
            · subst hv
              simp only [if_pos] at hT2
              have HT2 := Lib.hid (HR.out.symm.trans (by rw [hT2]))
              clear hT2
              have H61 := Lib.hid h61
              clear h61 HKV
              have zv := size_mkS []
              have hq2 : (([x, []].length : Int) != 2) = false := rfl
              generalize hn5 : [x, []].length = n5 at hq2
              have HN5 := Lib.hid hn5
              clear hn5
              have hp0 : 0 < n5 := by rw [← HN5.out]; simp
              have hp1 : 1 < n5 := by rw [← HN5.out]; simp
              go_wp2_with (first
                | (go_at_call 107; go_must (refine (H61.out _).mono ?_; rintro e w5 ⟨g5, c5, rfl, hg5, hrow5, hb5⟩; rw [List.length_map, HN5.out]; have e0 := hrow5.cell 0 (mkS x) rfl; have e1 := hrow5.cell 1 (mkS []) rfl))
                | (go_at_call 108; go_must (refine (errNew_any _ _).mono ?_; rintro e w6 ⟨T6, p6, rfl, hb6⟩)))
              go_quiet (fail)
              go_wp2_with (go_at_call 108; go_must (refine (errNew_any _ _).mono ?_; rintro e w6 ⟨T6, p6, rfl, hb6⟩))
              go_ret2
              have HB5 := hb.trans (hb5.mono hb.size)
              exact opt_no HT2.out rfl ((HB5.trans ((below_drewN _ _).mono HB5.size)).trans (hb6.mono (HB5.trans ((below_drewN _ _).mono HB5.size)).size))
            · simp only [if_neg hv] at hT2
              have hv0 : ((v.length : Int) == 0) = false := by have := List.length_pos_iff.2 hv; rw [beq_eq_false_iff_ne]; omega
              have zv := size_mkS v
              have hq2 : (([x, v].length : Int) != 2) = false := rfl
              generalize hn5 : [x, v].length = n5 at hq2
              have HN5 := Lib.hid hn5
              clear hn5
              have hp0 : 0 < n5 := by rw [← HN5.out]; simp
              have hp1 : 1 < n5 := by rw [← HN5.out]; simp
              generalize hR2 : ((partI (keyI x) v o).map fun y => (y, b || keyI x == 0)) = R2 at hT2
              have HR2 := Lib.hid hR2
              have HT2 := Lib.hid hT2
              have H61 := Lib.hid h61
              clear hR2 hT2 h61 HKV hv
              go_upto_block 3 with (first
                | (go_at_call 107; go_must (refine (H61.out _).mono ?_; rintro e w5 ⟨g5, c5, rfl, hg5, hrow5, hb5⟩; rw [List.length_map, HN5.out]; have e0 := hrow5.cell 0 (mkS x) rfl; have e1 := hrow5.cell 1 (mkS v) rfl))
                | (go_at_call 108; go_must (refine (errNew_any _ _).mono ?_; rintro e w6 ⟨T6, p6, rfl, hb6⟩)))
              go_quiet (fail)
              go_upto_block 3 with fail
              have HB4 := hb.trans (hb5.mono hb.size)
              have HB5 : Below w.heap.size w (w5.drewN nq) := HB4.trans ((below_drewN _ _).mono HB4.size)
              have ho5 : OptIs (w5.drewN nq) N o := (ho.below hb5).below (below_drewN _ _)
              have hs5 : StrRow (w5.drewN nq) g2 c2 (ps.map mkS) := (hs.below hb5).below (below_drewN _ _)
              generalize w5.drewN nq = wq at *
              have hG5 := hG.below HB5
              clear hb5 hrow5 e0 e1 HB4 ho hs hcell hGr
              go_cut [10, 18] from 95 to 226 (fun s10 s18 wx => SwRel w N R2 s10 s18 wx ∧ StrRow wx g2 c2 (ps.map mkS))
              case first =>
                rcases keyI_cases x with ⟨j, hj, hxj, hki⟩ | ⟨hno, hki⟩
                · clear zx hxl
                  subst hxj
                  rcases (show j = 0 ∨ j = 1 ∨ j = 2 ∨ j = 3 ∨ j = 4 ∨ j = 5 ∨ j = 6 ∨ j = 7 ∨ j = 8 ∨ j = 9 ∨ j = 10 ∨ j = 11 ∨ j = 12 ∨ j = 13 ∨ j = 14 ∨ j = 15 by omega) with rfl | rfl | rfl | rfl | rfl | rfl | rfl | rfl | rfl | rfl | rfl | rfl | rfl | rfl | rfl | rfl
                  all_goals clear hj
                  · as_aux_lemma => -- FREQ
                    have hR2 := HR2.out
                    rw [hki] at hR2
                    have tl : (mkS (keyNm 0)).toList = [70, 82, 69, 81] := toList_mkS _
                    have hc := fun w => freq_any v w (by omega)
                    simp only [partI] at hR2
                    cases hA : freqT v with
                    | none =>
                      rw [hA] at hR2 hc
                      have HR3 := Lib.hid hR2
                      have HC := Lib.hid hc
                      clear hA hR2 hc hki
                      go_wp2_with (go_at_call 80; go_must (refine (HC.out _).mono ?_; rintro e w6 ⟨_, ev, rfl, hb6, rfl, T6, p6, rfl⟩; have ho6 := ho5.below hb6; obtain ⟨⟨y1, hy1⟩, hf1⟩ := ho6.cell 0 (by omega)))
                      go_meet
                      exact ⟨sw_no (HR3.out.symm.trans (by simp)) ((HB5.trans (hb6.mono HB5.size)).setCell HN2 _), ((hs5.below hb6).setCell hNg _)⟩
                    | some y =>
                      rw [hA] at hR2 hc
                      have HR3 := Lib.hid hR2
                      have HC := Lib.hid hc
                      clear hA hR2 hc hki
                      go_wp2_with (go_at_call 80; go_must (refine (HC.out _).mono ?_; rintro e w6 ⟨x1, ev, rfl, hb6, rfl, rfl⟩; have ho6 := ho5.below hb6; obtain ⟨⟨y1, hy1⟩, hf1⟩ := ho6.cell 0 (by omega)))
                      go_meet
                      exact ⟨sw_ok (HR3.out.symm.trans (by simp)) ((HB5.trans (hb6.mono HB5.size)).setCell HN2 _) (ho6.set_fq x1), ((hs5.below hb6).setCell hNg _)⟩
                  · as_aux_lemma => -- DTSTART
                    have hR2 := HR2.out
                    rw [hki] at hR2
                    have tl : (mkS (keyNm 1)).toList = [68, 84, 83, 84, 65, 82, 84] := toList_mkS _
                    have hc := fun w => strToTime_any v w (by omega)
                    simp only [partI] at hR2
                    cases hA : timeT v with
                    | none =>
                      rw [hA] at hR2 hc
                      have HR3 := Lib.hid hR2
                      have HC := Lib.hid hc
                      clear hA hR2 hc hki
                      go_wp2_with (go_at_call 110; go_must (refine (HC.out _).mono ?_; rintro e w6 ⟨_, _, ev, rfl, hb6, rfl, rfl, T6, p6, rfl⟩; have ho6 := ho5.below hb6; obtain ⟨⟨y1, hy1⟩, hf1⟩ := ho6.cell 1 (by omega); obtain ⟨⟨y2, hy2⟩, hf2⟩ := ho6.cell 2 (by omega)))
                      go_meet
                      exact ⟨sw_no (HR3.out.symm.trans (by simp)) (((HB5.trans (hb6.mono HB5.size)).setCell HN2 _).setCell HN2 _), (((hs5.below hb6).setCell hNg _).setCell hNg _)⟩
                    | some yy =>
                      obtain ⟨z1, z2⟩ := yy
                      rw [hA] at hR2 hc
                      have HR3 := Lib.hid hR2
                      have HC := Lib.hid hc
                      clear hA hR2 hc hki
                      go_wp2_with (go_at_call 110; go_must (refine (HC.out _).mono ?_; rintro e w6 ⟨x1, x2, ev, rfl, hb6, rfl, rfl, rfl⟩; have ho6 := ho5.below hb6; obtain ⟨⟨y1, hy1⟩, hf1⟩ := ho6.cell 1 (by omega); obtain ⟨⟨y2, hy2⟩, hf2⟩ := ho6.cell 2 (by omega)))
                      go_meet
                      exact ⟨sw_ok (HR3.out.symm.trans (by simp)) (((HB5.trans (hb6.mono HB5.size)).setCell HN2 _).setCell HN2 _) (ho6.set_st x1 x2), (((hs5.below hb6).setCell hNg _).setCell hNg _)⟩
                  · as_aux_lemma => -- INTERVAL
                    have hR2 := HR2.out
                    rw [hki] at hR2
                    have tl : (mkS (keyNm 2)).toList = [73, 78, 84, 69, 82, 86, 65, 76] := toList_mkS _
                    have hc := fun w hG => atoi_any v w (by omega) hG
                    simp only [partI] at hR2
                    cases hA : atoiO v with
                    | none =>
                      rw [hA] at hR2 hc
                      have HR3 := Lib.hid hR2
                      have HC := Lib.hid hc
                      clear hA hR2 hc hki
                      go_wp2_with (go_at_call 116; go_must (refine (HC.out _ hG5).mono ?_; rintro e w6 ⟨y, ev, rfl, hb6, T6, p6, rfl⟩; have ho6 := ho5.below hb6; obtain ⟨⟨y1, hy1⟩, hf1⟩ := ho6.cell 3 (by omega)))
                      go_meet
                      exact ⟨sw_no (HR3.out.symm.trans (by simp)) ((HB5.trans (hb6.mono HB5.size)).setCell HN2 _), ((hs5.below hb6).setCell hNg _)⟩
                    | some y =>
                      rw [hA] at hR2 hc
                      have HR3 := Lib.hid hR2
                      have HC := Lib.hid hc
                      clear hA hR2 hc hki
                      go_wp2_with (go_at_call 116; go_must (refine (HC.out _ hG5).mono ?_; rintro e w6 ⟨x1, ev, rfl, hb6, rfl, rfl⟩; have ho6 := ho5.below hb6; obtain ⟨⟨y1, hy1⟩, hf1⟩ := ho6.cell 3 (by omega)))
                      go_meet
                      exact ⟨sw_ok (HR3.out.symm.trans (by simp)) ((HB5.trans (hb6.mono HB5.size)).setCell HN2 _) (ho6.set_iv x1), ((hs5.below hb6).setCell hNg _)⟩
                  · as_aux_lemma => -- WKST
                    have hR2 := HR2.out
                    rw [hki] at hR2
                    have tl : (mkS (keyNm 3)).toList = [87, 75, 83, 84] := toList_mkS _
                    have hc := fun w hG => day_any v w hG (by omega)
                    simp only [partI] at hR2
                    cases hA : dayT v with
                    | none =>
                      rw [hA] at hR2 hc
                      have HR3 := Lib.hid hR2
                      have HC := Lib.hid hc
                      clear hA hR2 hc hki
                      go_wp2_with (go_at_call 117; go_must (refine (HC.out _ hG5).mono ?_; rintro e w6 ⟨_, _, ev, rfl, hb6, rfl, rfl, T6, p6, rfl⟩; have ho6 := ho5.below hb6; obtain ⟨⟨y1, hy1⟩, hf1⟩ := ho6.cell 4 (by omega); obtain ⟨⟨y2, hy2⟩, hf2⟩ := ho6.cell 5 (by omega)))
                      go_meet
                      exact ⟨sw_no (HR3.out.symm.trans (by simp)) (((HB5.trans (hb6.mono HB5.size)).setCell HN2 _).setCell HN2 _), (((hs5.below hb6).setCell hNg _).setCell hNg _)⟩
                    | some yy =>
                      obtain ⟨z1, z2⟩ := yy
                      rw [hA] at hR2 hc
                      have HR3 := Lib.hid hR2
                      have HC := Lib.hid hc
                      clear hA hR2 hc hki
                      go_wp2_with (go_at_call 117; go_must (refine (HC.out _ hG5).mono ?_; rintro e w6 ⟨x1, x2, ev, rfl, hb6, rfl, rfl, rfl⟩; have ho6 := ho5.below hb6; obtain ⟨⟨y1, hy1⟩, hf1⟩ := ho6.cell 4 (by omega); obtain ⟨⟨y2, hy2⟩, hf2⟩ := ho6.cell 5 (by omega)))
                      go_meet
                      exact ⟨sw_ok (HR3.out.symm.trans (by simp)) (((HB5.trans (hb6.mono HB5.size)).setCell HN2 _).setCell HN2 _) (ho6.set_wk x1 x2), (((hs5.below hb6).setCell hNg _).setCell hNg _)⟩
                  · as_aux_lemma => -- COUNT
                    have hR2 := HR2.out
                    rw [hki] at hR2
                    have tl : (mkS (keyNm 4)).toList = [67, 79, 85, 78, 84] := toList_mkS _
                    have hc := fun w hG => atoi_any v w (by omega) hG
                    simp only [partI] at hR2
                    cases hA : atoiO v with
                    | none =>
                      rw [hA] at hR2 hc
                      have HR3 := Lib.hid hR2
                      have HC := Lib.hid hc
                      clear hA hR2 hc hki
                      go_wp2_with (go_at_call 116; go_must (refine (HC.out _ hG5).mono ?_; rintro e w6 ⟨y, ev, rfl, hb6, T6, p6, rfl⟩; have ho6 := ho5.below hb6; obtain ⟨⟨y1, hy1⟩, hf1⟩ := ho6.cell 6 (by omega)))
                      go_meet
                      exact ⟨sw_no (HR3.out.symm.trans (by simp)) ((HB5.trans (hb6.mono HB5.size)).setCell HN2 _), ((hs5.below hb6).setCell hNg _)⟩
                    | some y =>
                      rw [hA] at hR2 hc
                      have HR3 := Lib.hid hR2
                      have HC := Lib.hid hc
                      clear hA hR2 hc hki
                      go_wp2_with (go_at_call 116; go_must (refine (HC.out _ hG5).mono ?_; rintro e w6 ⟨x1, ev, rfl, hb6, rfl, rfl⟩; have ho6 := ho5.below hb6; obtain ⟨⟨y1, hy1⟩, hf1⟩ := ho6.cell 6 (by omega)))
                      go_meet
                      exact ⟨sw_ok (HR3.out.symm.trans (by simp)) ((HB5.trans (hb6.mono HB5.size)).setCell HN2 _) (ho6.set_ct x1), ((hs5.below hb6).setCell hNg _)⟩
                  · as_aux_lemma => -- UNTIL
                    have hR2 := HR2.out
                    rw [hki] at hR2
                    have tl : (mkS (keyNm 5)).toList = [85, 78, 84, 73, 76] := toList_mkS _
                    have hc := fun w => strToTime_any v w (by omega)
                    simp only [partI] at hR2
                    cases hA : timeT v with
                    | none =>
                      rw [hA] at hR2 hc
                      have HR3 := Lib.hid hR2
                      have HC := Lib.hid hc
                      clear hA hR2 hc hki
                      go_wp2_with (go_at_call 110; go_must (refine (HC.out _).mono ?_; rintro e w6 ⟨_, _, ev, rfl, hb6, rfl, rfl, T6, p6, rfl⟩; have ho6 := ho5.below hb6; obtain ⟨⟨y1, hy1⟩, hf1⟩ := ho6.cell 7 (by omega); obtain ⟨⟨y2, hy2⟩, hf2⟩ := ho6.cell 8 (by omega)))
                      go_meet
                      exact ⟨sw_no (HR3.out.symm.trans (by simp)) (((HB5.trans (hb6.mono HB5.size)).setCell HN2 _).setCell HN2 _), (((hs5.below hb6).setCell hNg _).setCell hNg _)⟩
                    | some yy =>
                      obtain ⟨z1, z2⟩ := yy
                      rw [hA] at hR2 hc
                      have HR3 := Lib.hid hR2
                      have HC := Lib.hid hc
                      clear hA hR2 hc hki
                      go_wp2_with (go_at_call 110; go_must (refine (HC.out _).mono ?_; rintro e w6 ⟨x1, x2, ev, rfl, hb6, rfl, rfl, rfl⟩; have ho6 := ho5.below hb6; obtain ⟨⟨y1, hy1⟩, hf1⟩ := ho6.cell 7 (by omega); obtain ⟨⟨y2, hy2⟩, hf2⟩ := ho6.cell 8 (by omega)))
                      go_meet
                      exact ⟨sw_ok (HR3.out.symm.trans (by simp)) (((HB5.trans (hb6.mono HB5.size)).setCell HN2 _).setCell HN2 _) (ho6.set_un x1 x2), (((hs5.below hb6).setCell hNg _).setCell hNg _)⟩
                  · as_aux_lemma => -- BYSETPOS
                    have hR2 := HR2.out
                    rw [hki] at hR2
                    have tl : (mkS (keyNm 6)).toList = [66, 89, 83, 69, 84, 80, 79, 83] := toList_mkS _
                    have hc := fun w hG => ints_any v w hG (by omega)
                    simp only [partI] at hR2
                    cases hA : intsT v with
                    | none =>
                      rw [hA] at hR2 hc
                      have HR3 := Lib.hid hR2
                      have HC := Lib.hid hc
                      clear hA hR2 hc hki
                      go_wp2_with (go_at_call 118; go_must (refine (HC.out _ hG5).mono ?_; rintro e w6 ⟨hb6, T6, p6, rfl⟩; have ho6 := ho5.below hb6; obtain ⟨⟨y1, hy1⟩, hf1⟩ := ho6.cell 9 (by omega)))
                      go_meet
                      exact ⟨sw_no (HR3.out.symm.trans (by simp)) ((HB5.trans (hb6.mono HB5.size)).setCell HN2 _), ((hs5.below hb6).setCell hNg _)⟩
                    | some xs =>
                      rw [hA] at hR2 hc
                      have HR3 := Lib.hid hR2
                      have HC := Lib.hid hc
                      clear hA hR2 hc hki
                      go_wp2_with (go_at_call 118; go_must (refine (HC.out _ hG5).mono ?_; rintro e w6 ⟨hb6, g6, rfl, hr6, hg6⟩; have ho6 := ho5.below hb6; obtain ⟨⟨y1, hy1⟩, hf1⟩ := ho6.cell 9 (by omega)))
                      go_meet
                      exact ⟨sw_ok (HR3.out.symm.trans (by simp)) ((HB5.trans (hb6.mono HB5.size)).setCell HN2 _) (ho6.set_sp (IntsN.of hr6 (by have := ho5.lt; omega))), ((hs5.below hb6).setCell hNg _)⟩
                  · as_aux_lemma => -- BYMONTH
                    have hR2 := HR2.out
                    rw [hki] at hR2
                    have tl : (mkS (keyNm 7)).toList = [66, 89, 77, 79, 78, 84, 72] := toList_mkS _
                    have hc := fun w hG => ints_any v w hG (by omega)
                    simp only [partI] at hR2
                    cases hA : intsT v with
                    | none =>
                      rw [hA] at hR2 hc
                      have HR3 := Lib.hid hR2
                      have HC := Lib.hid hc
                      clear hA hR2 hc hki
                      go_wp2_with (go_at_call 118; go_must (refine (HC.out _ hG5).mono ?_; rintro e w6 ⟨hb6, T6, p6, rfl⟩; have ho6 := ho5.below hb6; obtain ⟨⟨y1, hy1⟩, hf1⟩ := ho6.cell 10 (by omega)))
                      go_meet
                      exact ⟨sw_no (HR3.out.symm.trans (by simp)) ((HB5.trans (hb6.mono HB5.size)).setCell HN2 _), ((hs5.below hb6).setCell hNg _)⟩
                    | some xs =>
                      rw [hA] at hR2 hc
                      have HR3 := Lib.hid hR2
                      have HC := Lib.hid hc
                      clear hA hR2 hc hki
                      go_wp2_with (go_at_call 118; go_must (refine (HC.out _ hG5).mono ?_; rintro e w6 ⟨hb6, g6, rfl, hr6, hg6⟩; have ho6 := ho5.below hb6; obtain ⟨⟨y1, hy1⟩, hf1⟩ := ho6.cell 10 (by omega)))
                      go_meet
                      exact ⟨sw_ok (HR3.out.symm.trans (by simp)) ((HB5.trans (hb6.mono HB5.size)).setCell HN2 _) (ho6.set_mo (IntsN.of hr6 (by have := ho5.lt; omega))), ((hs5.below hb6).setCell hNg _)⟩
                  · as_aux_lemma => -- BYMONTHDAY
                    have hR2 := HR2.out
                    rw [hki] at hR2
                    have tl : (mkS (keyNm 8)).toList = [66, 89, 77, 79, 78, 84, 72, 68, 65, 89] := toList_mkS _
                    have hc := fun w hG => ints_any v w hG (by omega)
                    simp only [partI] at hR2
                    cases hA : intsT v with
                    | none =>
                      rw [hA] at hR2 hc
                      have HR3 := Lib.hid hR2
                      have HC := Lib.hid hc
                      clear hA hR2 hc hki
                      go_wp2_with (go_at_call 118; go_must (refine (HC.out _ hG5).mono ?_; rintro e w6 ⟨hb6, T6, p6, rfl⟩; have ho6 := ho5.below hb6; obtain ⟨⟨y1, hy1⟩, hf1⟩ := ho6.cell 11 (by omega)))
                      go_meet
                      exact ⟨sw_no (HR3.out.symm.trans (by simp)) ((HB5.trans (hb6.mono HB5.size)).setCell HN2 _), ((hs5.below hb6).setCell hNg _)⟩
                    | some xs =>
                      rw [hA] at hR2 hc
                      have HR3 := Lib.hid hR2
                      have HC := Lib.hid hc
                      clear hA hR2 hc hki
                      go_wp2_with (go_at_call 118; go_must (refine (HC.out _ hG5).mono ?_; rintro e w6 ⟨hb6, g6, rfl, hr6, hg6⟩; have ho6 := ho5.below hb6; obtain ⟨⟨y1, hy1⟩, hf1⟩ := ho6.cell 11 (by omega)))
                      go_meet
                      exact ⟨sw_ok (HR3.out.symm.trans (by simp)) ((HB5.trans (hb6.mono HB5.size)).setCell HN2 _) (ho6.set_md (IntsN.of hr6 (by have := ho5.lt; omega))), ((hs5.below hb6).setCell hNg _)⟩
                  · as_aux_lemma => -- BYYEARDAY
                    have hR2 := HR2.out
                    rw [hki] at hR2
                    have tl : (mkS (keyNm 9)).toList = [66, 89, 89, 69, 65, 82, 68, 65, 89] := toList_mkS _
                    have hc := fun w hG => ints_any v w hG (by omega)
                    simp only [partI] at hR2
                    cases hA : intsT v with
                    | none =>
                      rw [hA] at hR2 hc
                      have HR3 := Lib.hid hR2
                      have HC := Lib.hid hc
                      clear hA hR2 hc hki
                      go_wp2_with (go_at_call 118; go_must (refine (HC.out _ hG5).mono ?_; rintro e w6 ⟨hb6, T6, p6, rfl⟩; have ho6 := ho5.below hb6; obtain ⟨⟨y1, hy1⟩, hf1⟩ := ho6.cell 12 (by omega)))
                      go_meet
                      exact ⟨sw_no (HR3.out.symm.trans (by simp)) ((HB5.trans (hb6.mono HB5.size)).setCell HN2 _), ((hs5.below hb6).setCell hNg _)⟩
                    | some xs =>
                      rw [hA] at hR2 hc
                      have HR3 := Lib.hid hR2
                      have HC := Lib.hid hc
                      clear hA hR2 hc hki
                      go_wp2_with (go_at_call 118; go_must (refine (HC.out _ hG5).mono ?_; rintro e w6 ⟨hb6, g6, rfl, hr6, hg6⟩; have ho6 := ho5.below hb6; obtain ⟨⟨y1, hy1⟩, hf1⟩ := ho6.cell 12 (by omega)))
                      go_meet
                      exact ⟨sw_ok (HR3.out.symm.trans (by simp)) ((HB5.trans (hb6.mono HB5.size)).setCell HN2 _) (ho6.set_yd (IntsN.of hr6 (by have := ho5.lt; omega))), ((hs5.below hb6).setCell hNg _)⟩
                  · as_aux_lemma => -- BYWEEKNO
                    have hR2 := HR2.out
                    rw [hki] at hR2
                    have tl : (mkS (keyNm 10)).toList = [66, 89, 87, 69, 69, 75, 78, 79] := toList_mkS _
                    have hc := fun w hG => ints_any v w hG (by omega)
                    simp only [partI] at hR2
                    cases hA : intsT v with
                    | none =>
                      rw [hA] at hR2 hc
                      have HR3 := Lib.hid hR2
                      have HC := Lib.hid hc
                      clear hA hR2 hc hki
                      go_wp2_with (go_at_call 118; go_must (refine (HC.out _ hG5).mono ?_; rintro e w6 ⟨hb6, T6, p6, rfl⟩; have ho6 := ho5.below hb6; obtain ⟨⟨y1, hy1⟩, hf1⟩ := ho6.cell 13 (by omega)))
                      go_meet
                      exact ⟨sw_no (HR3.out.symm.trans (by simp)) ((HB5.trans (hb6.mono HB5.size)).setCell HN2 _), ((hs5.below hb6).setCell hNg _)⟩
                    | some xs =>
                      rw [hA] at hR2 hc
                      have HR3 := Lib.hid hR2
                      have HC := Lib.hid hc
                      clear hA hR2 hc hki
                      go_wp2_with (go_at_call 118; go_must (refine (HC.out _ hG5).mono ?_; rintro e w6 ⟨hb6, g6, rfl, hr6, hg6⟩; have ho6 := ho5.below hb6; obtain ⟨⟨y1, hy1⟩, hf1⟩ := ho6.cell 13 (by omega)))
                      go_meet
                      exact ⟨sw_ok (HR3.out.symm.trans (by simp)) ((HB5.trans (hb6.mono HB5.size)).setCell HN2 _) (ho6.set_wn (IntsN.of hr6 (by have := ho5.lt; omega))), ((hs5.below hb6).setCell hNg _)⟩
                  · as_aux_lemma => -- BYDAY
                    have hR2 := HR2.out
                    rw [hki] at hR2
                    have tl : (mkS (keyNm 11)).toList = [66, 89, 68, 65, 89] := toList_mkS _
                    have hc := fun w hG => days_any v w hG (by omega)
                    simp only [partI] at hR2
                    cases hA : daysT v with
                    | none =>
                      rw [hA] at hR2 hc
                      have HR3 := Lib.hid hR2
                      have HC := Lib.hid hc
                      clear hA hR2 hc hki
                      go_wp2_with (go_at_call 119; go_must (refine (HC.out _ hG5).mono ?_; rintro e w6 ⟨hb6, T6, p6, rfl⟩; have ho6 := ho5.below hb6; obtain ⟨⟨y1, hy1⟩, hf1⟩ := ho6.cell 14 (by omega)))
                      go_meet
                      exact ⟨sw_no (HR3.out.symm.trans (by simp)) ((HB5.trans (hb6.mono HB5.size)).setCell HN2 _), ((hs5.below hb6).setCell hNg _)⟩
                    | some xs =>
                      rw [hA] at hR2 hc
                      have HR3 := Lib.hid hR2
                      have HC := Lib.hid hc
                      clear hA hR2 hc hki
                      go_wp2_with (go_at_call 119; go_must (refine (HC.out _ hG5).mono ?_; rintro e w6 ⟨hb6, g6, rfl, hr6, hg6⟩; have ho6 := ho5.below hb6; obtain ⟨⟨y1, hy1⟩, hf1⟩ := ho6.cell 14 (by omega)))
                      go_meet
                      exact ⟨sw_ok (HR3.out.symm.trans (by simp)) ((HB5.trans (hb6.mono HB5.size)).setCell HN2 _) (ho6.set_dy (DaysN.of hr6 (by have := ho5.lt; omega))), ((hs5.below hb6).setCell hNg _)⟩
                  · as_aux_lemma => -- BYHOUR
                    have hR2 := HR2.out
                    rw [hki] at hR2
                    have tl : (mkS (keyNm 12)).toList = [66, 89, 72, 79, 85, 82] := toList_mkS _
                    have hc := fun w hG => ints_any v w hG (by omega)
                    simp only [partI] at hR2
                    cases hA : intsT v with
                    | none =>
                      rw [hA] at hR2 hc
                      have HR3 := Lib.hid hR2
                      have HC := Lib.hid hc
                      clear hA hR2 hc hki
                      go_wp2_with (go_at_call 118; go_must (refine (HC.out _ hG5).mono ?_; rintro e w6 ⟨hb6, T6, p6, rfl⟩; have ho6 := ho5.below hb6; obtain ⟨⟨y1, hy1⟩, hf1⟩ := ho6.cell 15 (by omega)))
                      go_meet
                      exact ⟨sw_no (HR3.out.symm.trans (by simp)) ((HB5.trans (hb6.mono HB5.size)).setCell HN2 _), ((hs5.below hb6).setCell hNg _)⟩
                    | some xs =>
                      rw [hA] at hR2 hc
                      have HR3 := Lib.hid hR2
                      have HC := Lib.hid hc
                      clear hA hR2 hc hki
                      go_wp2_with (go_at_call 118; go_must (refine (HC.out _ hG5).mono ?_; rintro e w6 ⟨hb6, g6, rfl, hr6, hg6⟩; have ho6 := ho5.below hb6; obtain ⟨⟨y1, hy1⟩, hf1⟩ := ho6.cell 15 (by omega)))
                      go_meet
                      exact ⟨sw_ok (HR3.out.symm.trans (by simp)) ((HB5.trans (hb6.mono HB5.size)).setCell HN2 _) (ho6.set_ho (IntsN.of hr6 (by have := ho5.lt; omega))), ((hs5.below hb6).setCell hNg _)⟩
                  · as_aux_lemma => -- BYMINUTE
                    have hR2 := HR2.out
                    rw [hki] at hR2
                    have tl : (mkS (keyNm 13)).toList = [66, 89, 77, 73, 78, 85, 84, 69] := toList_mkS _
                    have hc := fun w hG => ints_any v w hG (by omega)
                    simp only [partI] at hR2
                    cases hA : intsT v with
                    | none =>
                      rw [hA] at hR2 hc
                      have HR3 := Lib.hid hR2
                      have HC := Lib.hid hc
                      clear hA hR2 hc hki
                      go_wp2_with (go_at_call 118; go_must (refine (HC.out _ hG5).mono ?_; rintro e w6 ⟨hb6, T6, p6, rfl⟩; have ho6 := ho5.below hb6; obtain ⟨⟨y1, hy1⟩, hf1⟩ := ho6.cell 16 (by omega)))
                      go_meet
                      exact ⟨sw_no (HR3.out.symm.trans (by simp)) ((HB5.trans (hb6.mono HB5.size)).setCell HN2 _), ((hs5.below hb6).setCell hNg _)⟩
                    | some xs =>
                      rw [hA] at hR2 hc
                      have HR3 := Lib.hid hR2
                      have HC := Lib.hid hc
                      clear hA hR2 hc hki
                      go_wp2_with (go_at_call 118; go_must (refine (HC.out _ hG5).mono ?_; rintro e w6 ⟨hb6, g6, rfl, hr6, hg6⟩; have ho6 := ho5.below hb6; obtain ⟨⟨y1, hy1⟩, hf1⟩ := ho6.cell 16 (by omega)))
                      go_meet
                      exact ⟨sw_ok (HR3.out.symm.trans (by simp)) ((HB5.trans (hb6.mono HB5.size)).setCell HN2 _) (ho6.set_mi (IntsN.of hr6 (by have := ho5.lt; omega))), ((hs5.below hb6).setCell hNg _)⟩
                  · as_aux_lemma => -- BYSECOND
                    have hR2 := HR2.out
                    rw [hki] at hR2
                    have tl : (mkS (keyNm 14)).toList = [66, 89, 83, 69, 67, 79, 78, 68] := toList_mkS _
                    have hc := fun w hG => ints_any v w hG (by omega)
                    simp only [partI] at hR2
                    cases hA : intsT v with
                    | none =>
                      rw [hA] at hR2 hc
                      have HR3 := Lib.hid hR2
                      have HC := Lib.hid hc
                      clear hA hR2 hc hki
                      go_wp2_with (go_at_call 118; go_must (refine (HC.out _ hG5).mono ?_; rintro e w6 ⟨hb6, T6, p6, rfl⟩; have ho6 := ho5.below hb6; obtain ⟨⟨y1, hy1⟩, hf1⟩ := ho6.cell 17 (by omega)))
                      go_meet
                      exact ⟨sw_no (HR3.out.symm.trans (by simp)) ((HB5.trans (hb6.mono HB5.size)).setCell HN2 _), ((hs5.below hb6).setCell hNg _)⟩
                    | some xs =>
                      rw [hA] at hR2 hc
                      have HR3 := Lib.hid hR2
                      have HC := Lib.hid hc
                      clear hA hR2 hc hki
                      go_wp2_with (go_at_call 118; go_must (refine (HC.out _ hG5).mono ?_; rintro e w6 ⟨hb6, g6, rfl, hr6, hg6⟩; have ho6 := ho5.below hb6; obtain ⟨⟨y1, hy1⟩, hf1⟩ := ho6.cell 17 (by omega)))
                      go_meet
                      exact ⟨sw_ok (HR3.out.symm.trans (by simp)) ((HB5.trans (hb6.mono HB5.size)).setCell HN2 _) (ho6.set_se (IntsN.of hr6 (by have := ho5.lt; omega))), ((hs5.below hb6).setCell hNg _)⟩
                  · as_aux_lemma => -- BYEASTER
                    have hR2 := HR2.out
                    rw [hki] at hR2
                    have tl : (mkS (keyNm 15)).toList = [66, 89, 69, 65, 83, 84, 69, 82] := toList_mkS _
                    have hc := fun w hG => ints_any v w hG (by omega)
                    simp only [partI] at hR2
                    cases hA : intsT v with
                    | none =>
                      rw [hA] at hR2 hc
                      have HR3 := Lib.hid hR2
                      have HC := Lib.hid hc
                      clear hA hR2 hc hki
                      go_wp2_with (go_at_call 118; go_must (refine (HC.out _ hG5).mono ?_; rintro e w6 ⟨hb6, T6, p6, rfl⟩; have ho6 := ho5.below hb6; obtain ⟨⟨y1, hy1⟩, hf1⟩ := ho6.cell 18 (by omega)))
                      go_meet
                      exact ⟨sw_no (HR3.out.symm.trans (by simp)) ((HB5.trans (hb6.mono HB5.size)).setCell HN2 _), ((hs5.below hb6).setCell hNg _)⟩
                    | some xs =>
                      rw [hA] at hR2 hc
                      have HR3 := Lib.hid hR2
                      have HC := Lib.hid hc
                      clear hA hR2 hc hki
                      go_wp2_with (go_at_call 118; go_must (refine (HC.out _ hG5).mono ?_; rintro e w6 ⟨hb6, g6, rfl, hr6, hg6⟩; have ho6 := ho5.below hb6; obtain ⟨⟨y1, hy1⟩, hf1⟩ := ho6.cell 18 (by omega)))
                      go_meet
                      exact ⟨sw_ok (HR3.out.symm.trans (by simp)) ((HB5.trans (hb6.mono HB5.size)).setCell HN2 _) (ho6.set_ea (IntsN.of hr6 (by have := ho5.lt; omega))), ((hs5.below hb6).setCell hNg _)⟩
                · have tl := toList_mkS x
                  have f0 : (x == [70, 82, 69, 81]) = false := hno 0 (by omega)
                  have f1 : (x == [68, 84, 83, 84, 65, 82, 84]) = false := hno 1 (by omega)
                  have f2 : (x == [73, 78, 84, 69, 82, 86, 65, 76]) = false := hno 2 (by omega)
                  have f3 : (x == [87, 75, 83, 84]) = false := hno 3 (by omega)
                  have f4 : (x == [67, 79, 85, 78, 84]) = false := hno 4 (by omega)
                  have f5 : (x == [85, 78, 84, 73, 76]) = false := hno 5 (by omega)
                  have f6 : (x == [66, 89, 83, 69, 84, 80, 79, 83]) = false := hno 6 (by omega)
                  have f7 : (x == [66, 89, 77, 79, 78, 84, 72]) = false := hno 7 (by omega)
                  have f8 : (x == [66, 89, 77, 79, 78, 84, 72, 68, 65, 89]) = false := hno 8 (by omega)
                  have f9 : (x == [66, 89, 89, 69, 65, 82, 68, 65, 89]) = false := hno 9 (by omega)
                  have f10 : (x == [66, 89, 87, 69, 69, 75, 78, 79]) = false := hno 10 (by omega)
                  have f11 : (x == [66, 89, 68, 65, 89]) = false := hno 11 (by omega)
                  have f12 : (x == [66, 89, 72, 79, 85, 82]) = false := hno 12 (by omega)
                  have f13 : (x == [66, 89, 77, 73, 78, 85, 84, 69]) = false := hno 13 (by omega)
                  have f14 : (x == [66, 89, 83, 69, 67, 79, 78, 68]) = false := hno 14 (by omega)
                  have f15 : (x == [66, 89, 69, 65, 83, 84, 69, 82]) = false := hno 15 (by omega)
                  have hRn : R2 = none := by rw [← HR2.out, hki]; rfl
                  subst hRn
                  have HT3 := Lib.hid (HR.out.symm.trans (by rw [HT2.out]))
                  clear hno hki
                  go_wp2_with (go_at_call 108; go_must (refine (errNew_any _ _).mono ?_; rintro e w6 ⟨T6, p6, rfl, hb6⟩))
                  go_ret2
                  exact opt_no HT3.out rfl (HB5.trans (hb6.mono HB5.size))
              case rest =>
                obtain ⟨⟨hbw, hsw⟩, hsr⟩ := hcut
                cases R2 with
                | none =>
                  obtain ⟨T, q, rfl⟩ := hsw
                  have HT3 := Lib.hid (HR.out.symm.trans (by rw [HT2.out]))
                  go_wp2
                  go_ret2
                  exact opt_no HT3.out rfl hbw
                | some ob =>
                  obtain ⟨o', b'⟩ := ob
                  obtain ⟨rfl, rfl, ho'⟩ := hsw
                  go_wp2
                  go_roundg (ps.length - (k + 1))
                  have hps := HPL.out.1
                  case rel => exact ⟨k + 1, o', b', by omega, rfl, by rw [IntWalk.wrap64_in _ (by omega)]; go_num, rfl, Lib.hid (HT2.out.trans rfl), ho', hsr, hbw⟩
                  case measure => omega
          · have hnone : (match kv with
              | [x, v] => if v = [] then none else (partI (keyI x) v o).map fun y => (y, b || keyI x == 0)
              | _ => none) = none := by
              split
              · exact absurd ⟨_, _, rfl⟩ hsh
              · rfl
            rw [hnone] at hT2
            simp only at hT2
            have HT2 := Lib.hid (HR.out.symm.trans (by rw [hT2]))
            have hn2 : kv.length ≠ 2 := by
              intro h
              match kv, h with
              | [x, v], _ => exact hsh ⟨_, _, rfl⟩
            have H61 := Lib.hid h61
            clear hT2 hnone hsh h61 HKV
            have hq2 : ((kv.length : Int) != 2) = true := by simp; omega
            clear hn2
            go_wp2_with (first
              | (go_at_call 107; go_must (refine (H61.out _).mono ?_; rintro e w5 ⟨g5, c5, rfl, hg5, hrow5, hb5⟩; rw [List.length_map]))
              | (go_at_call 108; go_must (refine (errNew_any _ _).mono ?_; rintro e w6 ⟨T6, p6, rfl, hb6⟩)))
            go_ret2
            exact opt_no HT2.out rfl (hb.trans ((hb5.trans (hb6.mono hb5.size)).mono hb.size))
        · obtain rfl : k = ps.length := by omega
          have hT2 := hT.out
          rw [List.drop_length] at hT2
          simp only [partsL] at hT2
          have hRf := HR.out
          rw [hT2] at hRf
          simp only at hRf
          have HRf := Lib.hid hRf
          clear hT hT2 hRf
          cases b with
          | false =>
            go_wp2_with (go_at_call 108; go_must (refine (errNew_any _ _).mono ?_; rintro e w6 ⟨T6, p6, rfl, hb6⟩))
            go_ret2
            exact opt_no HRf.out.symm rfl (hb.trans (hb6.mono hb.size))
          | true =>
            go_wp2
            go_ret2
            exact opt_ok HRf.out.symm rfl hb ho
end Go.Proofs.YtcfbkkcamiephaaGreatDoor
