import Derived.Test.YtcfbkkcamiephaaGreatDoorY1
import Derived.Test.YtcfbkkcamiephaaGreatDoorV1
namespace Go.Proofs.YtcfbkkcamiephaaGreatDoor
open Go.RowKit

/-! ### FnTextDay -/
/-! ### FnTextDay: the plain law -/
def fyL : List UInt8 := [70, 82, 69, 81, 61, 89, 69, 65, 82, 76, 89, 59, 66, 89, 68, 65, 89, 61]
def oD (d : Nat) (n : Int) : Opt := { Opt.zero with dy := [((d : Int), n)] }
theorem days_one (t : List UInt8) (p : Int × Int) (ht : PL t) (h : dayT t = some p) : daysT t = some [p] := by
  unfold daysT
  rw [split_no 44 t (ht.no (by decide))]
  simp [daysL, h]
theorem day_read (t : List UInt8) (d : Nat) (n : Int) (hp : PL t) (h0 : t ≠ []) (ht : dayT t = some ((d : Int), n)) : optT (fyL ++ t) = some (oD d n) := by
  have hv := VOk.of hp h0
  have hf : VOk (freqL 0) := VOk.of (freqL_PL 0) (freqL_ne 0)
  have e : fyL ++ t = Lib.join [pTx (keyNm 0) (freqL 0), pTx (keyNm 11) t] [59] := by
    rw [join_cons2, join_one1]; rfl
  have hTX : TX (fyL ++ t) := by
    rw [e]
    refine TX.join fun x hx => ?_
    rcases List.mem_cons.1 hx with rfl | hx
    · exact (TX.pl (keyNm_PL 0)).tx (TX.of hf)
    · rw [List.mem_singleton] at hx; subst hx; exact (TX.pl (keyNm_PL 11)).tx (TX.of hv)
  rw [optT_one (asc_of hTX.asc) (trimS_id hTX.sp) (hTX.no (by decide))]
  unfold ruleT
  rw [noPrefix (hTX.no (by decide)), e]
  unfold partsR
  rw [split_join 59 _ (by simp) (fun x hx => by
    rcases List.mem_cons.1 hx with rfl | hx
    · exact pTx_no (keyNm_PL 0) hf
    · rw [List.mem_singleton] at hx; subst hx; exact pTx_no (keyNm_PL 11) hv)]
  have v0 : Val 0 (freqL 0) (oD d n) := fun x => by
    unfold partI setF; simp only; rw [freqT_L 0 (by omega)]; rfl
  have v1 : Val 11 t (oD d n) := fun x => by
    unfold partI setF; simp only; rw [days_one t _ hp ht]; rfl
  simp only [partsL]
  rw [part_back 0 _ (oD d n) _ _ (by omega) hf v0]
  simp only
  rw [part_back 11 _ (oD d n) _ _ (by omega) hv v1]
  rfl
theorem dayL_PL2 (d : Nat) : PL (dayL d) := dayL_PL d
/-- a day with its number: the sign, the digits -/
theorem name_split (d : Nat) (hd : d < 7) (n : Int) (hn : In64 n) (h0 : n ≠ 0) (k : Nat) : ∃ (s : UInt8) (g : List UInt8), dayStr d n = s :: g ∧ (s = 43 ∨ s = 45) ∧
    g.length ≤ 24 ∧ 1 ≤ g.length ∧
    optT (fyL ++ (s :: (List.replicate k 48 ++ g))) = some (oD d n) ∧ (0 < n → optT (fyL ++ (List.replicate k 48 ++ g)) = some (oD d n)) := by
  obtain ⟨a1, a2, a3⟩ := dec_spec n.natAbs
  have hlen := nDig_le n.natAbs (by have := hn.1; have := hn.2; omega)
  have hdl := dayL_len d
  have hall : (List.replicate k 48 ++ Lib.decDigits n.natAbs).all isD = true := by rw [List.all_append, all_zeros, a1]; rfl
  have hnum : numFrom 0 (List.replicate k 48 ++ Lib.decDigits n.natAbs) = n.natAbs := by rw [numFrom_app, numFrom_zeros, a2]
  have hne : (List.replicate k 48 ++ Lib.decDigits n.natAbs) ≠ [] := by simp [a3]
  have hPL : PL (List.replicate k 48 ++ Lib.decDigits n.natAbs) := PL.of_dig hall
  have hPd : PL (List.replicate k 48 ++ (Lib.decDigits n.natAbs ++ dayL d)) := by rw [← List.append_assoc]; exact hPL.app (dayL_PL d)
  rcases Int.lt_or_lt_of_ne h0 with hlt | hgt
  · refine ⟨45, Lib.decDigits n.natAbs ++ dayL d, ?_, .inr rfl, by rw [List.length_append]; omega, by rw [List.length_append]; omega, ?_, fun h => by omega⟩
    · unfold dayStr signed Lib.itoa
      rw [if_neg h0, if_pos hlt, if_pos hlt]
      first | rfl | (rw [show (-n).toNat = n.natAbs by omega]; rfl)
    · refine day_read _ d n (PL.cons (by decide) hPd) (by simp) ?_
      have := dayT_of (45 :: (List.replicate k 48 ++ Lib.decDigits n.natAbs)) d n (by omega) (by simp) (by
        rw [atoi_minus _ hall hne (by rw [hnum]; have := hn.1; omega), hnum]; congr 1; omega)
      rw [List.cons_append, List.append_assoc] at this
      exact this
  · refine ⟨43, Lib.decDigits n.natAbs ++ dayL d, ?_, .inl rfl, by rw [List.length_append]; omega, by rw [List.length_append]; omega, ?_, fun _ => ?_⟩
    · unfold dayStr signed Lib.itoa
      rw [if_neg h0, if_neg (by omega), if_neg (by omega)]
      first | rfl | (rw [show n.toNat = n.natAbs by omega]; rfl)
    · refine day_read _ d n (PL.cons (by decide) hPd) (by simp) ?_
      have := dayT_of (43 :: (List.replicate k 48 ++ Lib.decDigits n.natAbs)) d n (by omega) (by simp) (by
        rw [atoi_plus _ hall hne (by rw [hnum]; have := hn.2; omega), hnum]; congr 1; omega)
      rw [List.cons_append, List.append_assoc] at this
      exact this
    · refine day_read _ d n hPd (by simp [a3]) ?_
      have := dayT_of (List.replicate k 48 ++ Lib.decDigits n.natAbs) d n (by omega) hne (by
        rw [atoi_dig _ hall hne (by rw [hnum]; have := hn.2; omega), hnum]; congr 1; omega)
      rw [List.append_assoc] at this
      exact this
theorem name_read (d : Nat) (hd : d < 7) (n : Int) (hn : In64 n) : optT (fyL ++ dayStr d n) = some (oD d n) := by
  have := day_back d n (by omega) (by omega) hn
  rw [Int.toNat_natCast] at this
  exact day_read _ d n (dayStr_PL d n) (dayStr_ne d n) this
theorem Tryz.blt26d (a : Option Addr) (n c : Nat) : Tryz.prog.built 26 [(0, .int .u8 0), (13, .slice a n c)] = some #[.int .u8 0, .bool false, .int .i64 0, .int .i64 0, .int .i64 0, .int .i64 0, .bool false, .int .i64 0, .slice none 0 0, .slice none 0 0, .slice none 0 0, .slice none 0 0, .slice none 0 0, .slice a n c, .slice none 0 0, .slice none 0 0, .slice none 0 0, .slice none 0 0] := by kernel_rfl
theorem run_bld26d (a : Option Addr) (n c : Nat) (ρ : Operand → Value) (o : Oper) (ho : o.op = .build 26 #[(0, .const (.int .u8 0)), (13, .tmp 24)])
    (h0 : ρ (.const (.int .u8 0)) = .int .u8 0) (h1 : ρ (.tmp 24) = .slice a n c) (w : World) :
    (execOp ρ o).run Tryz.prog w = .ok (.value (.agg #[.int .u8 0, .bool false, .int .i64 0, .int .i64 0, .int .i64 0, .int .i64 0, .bool false, .int .i64 0, .slice none 0 0, .slice none 0 0, .slice none 0 0, .slice none 0 0, .slice none 0 0, .slice a n c, .slice none 0 0, .slice none 0 0, .slice none 0 0, .slice none 0 0])) w := by
  unfold execOp
  simp only [ho]
  have hm : ((#[(0, .const (.int .u8 0)), (13, .tmp 24)] : Array (Nat × Operand)).map fun (i, x) => (i, ρ x)) = #[(0, .int .u8 0), (13, .slice a n c)] := by
    simp [h0, h1]
  rw [hm]
  simp [run_build w 26 _ _ (Tryz.blt26d a n c)]
/-- the rule of FnTextDay -/
def dayRow (g : Nat) : Array Value := #[.int .u8 0, .bool false, .int .i64 0, .int .i64 0, .int .i64 0, .int .i64 0, .bool false, .int .i64 0, .slice none 0 0, .slice none 0 0, .slice none 0 0, .slice none 0 0, .slice none 0 0, .slice (some ⟨g, 0, none⟩) 1 1, .slice none 0 0, .slice none 0 0, .slice none 0 0, .slice none 0 0]
theorem isD26 (d : Nat) (n : Int) (g : Nat) (W : World) (h0 : W.cell? ⟨g, 0, none⟩ = some (.int .i64 d)) (h1 : W.cell? ⟨g, 1, none⟩ = some (.int .i64 n)) : RuleIs W (.agg (dayRow g)) (ruleOf (oD d n)) := by
  have hr : ruleOf (oD d n) = ⟨0, false, 0, 0, 0, 0, false, 0, [], [], [], [], [], [((d : Int), n)], [], [], [], []⟩ := rfl
  rw [hr]
  refine ⟨_, _, _, _, _, _, _, _, _, _, rfl, .inl ⟨rfl, rfl⟩, .inl ⟨rfl, rfl⟩, .inl ⟨rfl, rfl⟩, .inl ⟨rfl, rfl⟩, .inl ⟨rfl, rfl⟩, .inr ⟨g, 0, 1, rfl, by simp, ⟨World.block_lt_of_cell? W _ h0, ?_⟩⟩, .inl ⟨rfl, rfl⟩, .inl ⟨rfl, rfl⟩, .inl ⟨rfl, rfl⟩, .inl ⟨rfl, rfl⟩⟩
  intro i x hx
  match i with
  | 0 => simp only [List.getElem?_cons_zero, Option.some.injEq] at hx; subst hx; exact ⟨h0, h1⟩
  | (j + 1) => simp at hx
theorem ruleLenD (d : Nat) (n : Int) : RuleLen (ruleOf (oD d n)) := by
  have hr : ruleOf (oD d n) = ⟨0, false, 0, 0, 0, 0, false, 0, [], [], [], [], [], [((d : Int), n)], [], [], [], []⟩ := rfl
  rw [hr]
  exact ⟨by simp⟩
attribute [local go_sem ↓] lockL_eq
set_option maxRecDepth 100000 in
set_option maxHeartbeats 25600000 in
theorem law_day (hrule : RuleAny) (wd : Nat) (_hwd : wd < 256) (n : Int) (hn : In64 n) (z : Nat) (hz : z < 256) (w : World) (hG : Good w) (hD : DayNms w) :
    Calls Tryz.prog 11 #[.int .u8 wd, .int .i64 n, .int .u8 z] w fun e w' => e = .returned (.bool true) ∧ Below w.heap.size w w' := by
  obtain ⟨d, hd⟩ : ∃ d, d = wd % 7 := ⟨_, rfl⟩
  have hd7 : d < 7 := by omega
  have hdc : (wd : Int) % 7 = (d : Int) := by omega
  clear hd _hwd
  have hal : Below w.heap.size w (w.alloc (.cells #[.int .i64 d, .int .i64 n] 59)) := (Below.refl _ _).alloc (Nat.le_refl _) _
  have H36 : Hid (∀ w, Good w → Calls Tryz.prog 36 #[.agg #[.int .i64 d, .int .i64 n]] w fun e w' => e = .returned (.string (mkS (dayStr d n))) ∧ Below w.heap.size w w') := Lib.hid (fun w hG => dayName_any d hd7 n hn.1 hn.2 w hG)
  have H37 : Hid (∀ w, DayNms w → Calls Tryz.prog 37 #[.agg #[.int .i64 d, .int .i64 n]] w fun e w' => e = .returned (.string (mkS (dayStr d n))) ∧ Below w.heap.size w w') := Lib.hid (fun w hG => dayNameS_any d hd7 n hn.1 hn.2 w hG)
  have hcv : IntKind.i64.wrap (d : Int) = (d : Int) := IntWalk.i64_in _ (by omega)
  have hr0 : RowAt (w.alloc (.cells #[.int .i64 d, .int .i64 n] 59)) w.heap.size 59 [.int .i64 d, .int .i64 n] := ⟨heap_alloc_new w _⟩
  have HL2 : Hid (∀ W, RowAt W w.heap.size 59 [.int .i64 d, .int .i64 n] → (lockLoad ⟨w.heap.size, 0, none⟩ 2).run Tryz.prog W = .ok #[.int .i64 d, .int .i64 n] W) := Lib.hid (fun W h => lockLoad_arr #[.int .i64 d, .int .i64 n] 2 rfl (fun i => by rw [h.cells]; simp))
  have hl0 := HL2.out _ hr0
  go_enter Tryz.func11, Tryz.ntmps11
  go_upto_region 6 with (first
    | (go_at_call 36; go_must (refine (H36.out _ (hG.below hal)).mono ?_; rintro e w1 ⟨rfl, hb1⟩; have r1 := hr0.below hb1; have hl1 := HL2.out _ r1; have p0 : w1.cell? ⟨w.heap.size, 0, none⟩ = some (.int .i64 d) := cell_below hb1 (by simp); have p1 : w1.cell? ⟨w.heap.size, 1, none⟩ = some (.int .i64 n) := cell_below hb1 (by simp)))
    | (go_at_call 37; go_must (refine (H37.out _ ((hD.below hal).below hb1)).mono ?_; rintro e w2 ⟨rfl, hb2⟩; have hl2 := HL2.out _ (r1.below hb2); have q0 := cell_below hb2 p0; have q1 := cell_below hb2 p1))
    | (refine Great.wpList_runTo rfl (some 25) rfl _ _ (run_bld26d _ _ _ _ _ rfl rfl rfl _) ?_)
    | (refine Great.wpList_runTo rfl (some 9) rfl _ _ (run_al26 _ _ rfl _) ?_)
    | (refine wpList_store_fresh rfl 26 _ _ rfl ruleZ0 (dayRow _) rfl rfl (by as_aux_lemma => kernel_rfl) rfl (by simp [dayRow, Value.oneCell']) ?_)
    | (fail))
  clear hl0 hl1 hl2 r1 hr0 HL2
  have hB2 : Below w.heap.size w w2 := (hal.trans (hb1.mono hal.size)).trans (hb2.mono (hal.trans (hb1.mono hal.size)).size)
  have hal3 : Below w2.heap.size w2 (w2.alloc (.cells #[.int .i64 d, .int .i64 n] 59)) := (Below.refl _ _).alloc (Nat.le_refl _) _
  have hal4 : Below (w2.alloc (.cells #[.int .i64 d, .int .i64 n] 59)).heap.size (w2.alloc (.cells #[.int .i64 d, .int .i64 n] 59)) ((w2.alloc (.cells #[.int .i64 d, .int .i64 n] 59)).alloc (.cells (dayRow w2.heap.size) 26)) := (Below.refl _ _).alloc (Nat.le_refl _) _
  have hW : Below w.heap.size w ((w2.alloc (.cells #[.int .i64 d, .int .i64 n] 59)).alloc (.cells (dayRow w2.heap.size) 26)) := (hB2.trans (hal3.mono hB2.size)).trans (hal4.mono (hB2.trans (hal3.mono hB2.size)).size)
  have hrow : RowAt ((w2.alloc (.cells #[.int .i64 d, .int .i64 n] 59)).alloc (.cells (dayRow w2.heap.size) 26)) (w2.alloc (.cells #[.int .i64 d, .int .i64 n] 59)).heap.size 26 (dayRow w2.heap.size).toList := ⟨by rw [heap_alloc_new]⟩
  have hV := isD26 d n w2.heap.size ((w2.alloc (.cells #[.int .i64 d, .int .i64 n] 59)).alloc (.cells (dayRow w2.heap.size) 26)) (cell_below hal4 (by simp)) (cell_below hal4 (by simp))
  change Code.wp _ _ _ _ ((w2.alloc (.cells #[.int .i64 d, .int .i64 n] 59)).alloc (.cells (dayRow w2.heap.size) 26))
  generalize (w2.alloc (.cells #[.int .i64 d, .int .i64 n] 59)).alloc (.cells (dayRow w2.heap.size) 26) = W5 at *
  generalize (w2.alloc (.cells #[.int .i64 d, .int .i64 n] 59)).heap.size = B2 at *
  generalize w2.heap.size = B1 at *
  have HW := Lib.hid hW
  have HR := Lib.hid hrow
  have HV := Lib.hid hV
  have HG := Lib.hid hG
  have H27 := Lib.hid (fun t W (hg : Good W) hv (ht : optT (fyL ++ t) = some (oD d n)) (hl : (fyL ++ t).length ≤ 1000000) => parsed_yes hrule (fyL ++ t) (oD d n) (.agg (dayRow B1)) W hg hl ht hv (ruleLenD d n))
  have H19 := Lib.hid (fun w hG => awake_any hrule option_any w hG)
  have hN1 := Lib.hid (name_read d hd7 n hn)
  have hlen : (dayStr d n).length ≤ 30 := by
    unfold dayStr signed
    have := itoa_len n hn.1 hn.2
    have := dayL_len d
    split
    · omega
    · split <;> simp <;> omega
  have HSP := Lib.hid (fun h0 k => name_split d hd7 n hn h0 k)
  obtain ⟨k, hk, hk20⟩ : ∃ k : Nat, (z : Int) % 20 = (k : Int) ∧ k < 20 := ⟨z % 20, by omega, by omega⟩
  clear hW hrow hV hG H36 H37 hal hal3 hal4 hB2 hb1 hb2 p0 p1 q0 q1 hrule hD hcv hdc
  generalize oD d n = O at *
  generalize dayStr d n = nm at *
  have zn := size_mkS nm
  have hcat : ({ data := #[70, 82, 69, 81, 61, 89, 69, 65, 82, 76, 89, 59, 66, 89, 68, 65, 89, 61] } : ByteArray) ++ mkS nm = mkS (fyL ++ nm) := str_app fyL nm
  have hfl : (fyL ++ nm).length ≤ 100 := by rw [List.length_append]; have : fyL.length = 18 := rfl; omega
  go_upto_region 8 with (first
    | (refine wpList_load_row rfl 26 _ rfl B2 rfl 26 (dayRow B1) (0, 0) _ HR.out.blk Tryz.underlying26 rfl (by as_aux_lemma => kernel_rfl) ?_)
    | (go_at_call 27; go_must (refine (H27.out nm _ (HG.out.below HW.out) HV.out hN1.out (by omega)).mono ?_; rintro e w6 ⟨rfl, hb6⟩))
    | (fail))
  have H6 := HW.out.trans (hb6.mono HW.out.size)
  have HB6 := Lib.hid hb6
  have HH6 := Lib.hid H6
  clear hb6 H6
  by_cases h0 : n = 0
  · have q : (n == 0) = true := by simp [h0]
    clear hk hk20 HSP hcat
    go_wp2_with (first
      | (go_at_call 19; go_must (refine (H19.out _ (HG.out.below HH6.out)).mono ?_; rintro e w7 ⟨rfl, hb7⟩))
      | (fail))
    go_ret
    exact ⟨rfl, HH6.out.trans (hb7.mono HH6.out.size)⟩
  · have q : (n == 0) = false := by simp [h0]
    obtain ⟨sg, g, hnm, hsg, hgl, hg1, ho1, ho2⟩ := HSP.out h0 k
    have HO1 := Lib.hid ho1
    have HO2 := Lib.hid ho2
    clear HSP ho1 ho2 hsg hN1 hcat hfl hlen
    subst hnm
    go_wp2_with (fail)
    go_loop [10, 36] (fun p i => ∃ j : Nat, j ≤ k ∧ p = .string (mkS (List.replicate j 48)) ∧ i = .int .u8 j) (fun _ i => 20 - (intOf i).toNat)
    case atStart => exact ⟨0, by omega, rfl, rfl⟩
    case round =>
      obtain ⟨j, hj, rfl, rfl⟩ := hrel
      by_cases hlt : j < k
      · have e1 : mkS (List.replicate j 48) ++ ({ data := #[48] } : ByteArray) = mkS (List.replicate (j + 1) 48) := by
          rw [List.replicate_succ']; exact str_app _ [48]
        have zr := size_mkS (List.replicate j (48 : UInt8))
        rw [List.length_replicate] at zr
        have t1 : decide ((j : Int) < (k : Int)) = true := by simp; omega
        go_wp2
        go_round
        case rel => exact ⟨j + 1, by omega, rfl, by go_num⟩
        case measure => simp [intOf]; omega
      · obtain rfl : j = k := by omega
        have t1 : decide ((j : Int) < (j : Int)) = false := by simp
        clear hlt
        have hR : (List.replicate j (48 : UInt8)).length = j := List.length_replicate ..
        generalize List.replicate j (48 : UInt8) = R at *
        have zs : (mkS (sg :: g)).size = g.length + 1 := size_mkS _
        have x1 : (mkS (sg :: g)).extract 0 1 = mkS [sg] := extract_head2 (sg :: g) 1
        have x2 : (mkS (sg :: g)).extract 1 (g.length + 1) = mkS g := by
          rw [extract_mkS, mkS_data, List.take_of_length_le (by simp)]; rfl
        have zg := size_mkS g
        have zr := size_mkS R
        rw [hR] at zr
        have c1 : mkS [sg] ++ mkS R = mkS (sg :: R) := str_app [sg] R
        have zc : (mkS (sg :: R)).size = j + 1 := by rw [size_mkS, List.length_cons, hR]
        have c2 : mkS (sg :: R) ++ mkS g = mkS (sg :: (R ++ g)) := str_app (sg :: R) g
        have c3 : mkS R ++ mkS g = mkS (R ++ g) := str_app R g
        have zg1 : (mkS [sg]).size = 1 := rfl
        have hl1 : (fyL ++ (sg :: (R ++ g))).length ≤ 100 := by simp [hR]; have : fyL.length = 18 := rfl; omega
        have hl2 : (fyL ++ (R ++ g)).length ≤ 100 := by simp [hR]; have : fyL.length = 18 := rfl; omega
        have zf1 : (mkS (sg :: (R ++ g))).size = j + g.length + 1 := by rw [size_mkS]; simp [hR]
        have zf2 : (mkS (R ++ g)).size = j + g.length := by rw [size_mkS]; simp [hR]
        have c4 : ({ data := #[70, 82, 69, 81, 61, 89, 69, 65, 82, 76, 89, 59, 66, 89, 68, 65, 89, 61] } : ByteArray) ++ mkS (sg :: (R ++ g)) = mkS (fyL ++ (sg :: (R ++ g))) := str_app fyL _
        have c5 : ({ data := #[70, 82, 69, 81, 61, 89, 69, 65, 82, 76, 89, 59, 66, 89, 68, 65, 89, 61] } : ByteArray) ++ mkS (R ++ g) = mkS (fyL ++ (R ++ g)) := str_app fyL _
        have hn0 : (0 : Int) ≤ (g.length : Int) + 1 := by omega
        have HL1 := Lib.hid hl1
        have HL2 := Lib.hid hl2
        clear hl1 hl2
        go_wp2_with (fail)
        go_quiet (fail)
        have HBd := Lib.hid (bdrewN HB6.out nq)
        have HHd := Lib.hid (bdrewN HH6.out nq)
        generalize w6.drewN nq = wd6 at *
        by_cases hp : 0 < n
        · have t2 : decide (0 < n) = true := by simp; omega
          by_cases he : (z : Int) % 2 = 0
          · have t3 : ((z : Int) % 2 == 0) = true := by simp [he]
            have HO := Lib.hid (HO2.out hp)
            clear he hp
            go_wp2_with (first
              | (refine wpList_load_row rfl 26 _ rfl B2 rfl 26 (dayRow B1) (0, 0) _ ((HR.out.below HBd.out).below hb7).blk Tryz.underlying26 rfl (by as_aux_lemma => kernel_rfl) ?_)
              | (go_at_call 19; go_must (refine (H19.out _ (HG.out.below HHd.out)).mono ?_; rintro e w7 ⟨rfl, hb7⟩; have hh7 := HHd.out.trans (hb7.mono HHd.out.size); have hL7 := lockLoad_arr (W := w7) (B := B2) (dayRow B1) 18 rfl (fun i => by rw [((HR.out.below HBd.out).below hb7).cells]; simp)))
              | (go_at_call 27; go_must (refine (H27.out (R ++ g) _ (HG.out.below hh7) ((HV.out.below HBd.out).below hb7) HO.out (Nat.le_trans HL2.out (by omega))).mono ?_; rintro e w8 ⟨rfl, hb8⟩))
              | (fail))
            go_ret
            exact ⟨rfl, hh7.trans (hb8.mono hh7.size)⟩
          · have t3 : ((z : Int) % 2 == 0) = false := by simp [he]
            clear he hp
            go_wp2_with (first
              | (refine wpList_load_row rfl 26 _ rfl B2 rfl 26 (dayRow B1) (0, 0) _ ((HR.out.below HBd.out).below hb7).blk Tryz.underlying26 rfl (by as_aux_lemma => kernel_rfl) ?_)
              | (go_at_call 19; go_must (refine (H19.out _ (HG.out.below HHd.out)).mono ?_; rintro e w7 ⟨rfl, hb7⟩; have hh7 := HHd.out.trans (hb7.mono HHd.out.size); have hL7 := lockLoad_arr (W := w7) (B := B2) (dayRow B1) 18 rfl (fun i => by rw [((HR.out.below HBd.out).below hb7).cells]; simp)))
              | (go_at_call 27; go_must (refine (H27.out (sg :: (R ++ g)) _ (HG.out.below hh7) ((HV.out.below HBd.out).below hb7) HO1.out (Nat.le_trans HL1.out (by omega))).mono ?_; rintro e w8 ⟨rfl, hb8⟩))
              | (fail))
            go_ret
            exact ⟨rfl, hh7.trans (hb8.mono hh7.size)⟩
        · have t2 : decide (0 < n) = false := by simp; omega
          clear hp
          go_wp2_with (first
            | (refine wpList_load_row rfl 26 _ rfl B2 rfl 26 (dayRow B1) (0, 0) _ ((HR.out.below HBd.out).below hb7).blk Tryz.underlying26 rfl (by as_aux_lemma => kernel_rfl) ?_)
            | (go_at_call 19; go_must (refine (H19.out _ (HG.out.below HHd.out)).mono ?_; rintro e w7 ⟨rfl, hb7⟩; have hh7 := HHd.out.trans (hb7.mono HHd.out.size); have hL7 := lockLoad_arr (W := w7) (B := B2) (dayRow B1) 18 rfl (fun i => by rw [((HR.out.below HBd.out).below hb7).cells]; simp)))
            | (go_at_call 27; go_must (refine (H27.out (sg :: (R ++ g)) _ (HG.out.below hh7) ((HV.out.below HBd.out).below hb7) HO1.out (Nat.le_trans HL1.out (by omega))).mono ?_; rintro e w8 ⟨rfl, hb8⟩))
            | (fail))
          go_ret
          exact ⟨rfl, hh7.trans (hb8.mono hh7.size)⟩
end Go.Proofs.YtcfbkkcamiephaaGreatDoor
