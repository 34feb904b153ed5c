import Derived.Test.YtcfbkkcamiephaaGreatDoorQ4
import Derived.Test.YtcfbkkcamiephaaGreatDoorK1
namespace Go.Proofs.YtcfbkkcamiephaaGreatDoor
open Go.RowKit

attribute [local go_sem ↓] Go.wp_at_zero Go.wp_at_succ lockL_eq

/-! ### FnTextStart -/
/-- a region that makes one block -/
def K6 (W0 : World) (o : Obj) (i0 : Nat) (b : Nat) (listed : Array Bool) (W : World) : Prop := (listed[i0]? ≠ some true → W = W0) ∧ (listed[i0]? = some true → b = W0.heap.size ∧ W = W0.alloc o)
theorem K6.other {W0 W : World} {o : Obj} {i0 b i : Nat} {listed : Array Bool} (h : K6 W0 o i0 b listed W) (hi : i ≠ i0) : K6 W0 o i0 b (listed.setIfInBounds i true) W := by
  unfold K6
  rw [Array.getElem?_setIfInBounds_ne hi]
  exact h
theorem K6.made {W0 W : World} {o : Obj} {i0 b : Nat} {listed : Array Bool} (h : K6 W0 o i0 b listed W) (hf : listed[i0]? = some false) : K6 W0 o i0 W.heap.size (listed.setIfInBounds i0 true) (W.alloc o) := by
  have e := h.1 (by rw [hf]; simp)
  subst e
  exact ⟨fun h => absurd (set_self2 hf) h, fun _ => ⟨rfl, rfl⟩⟩
theorem K6.start (W0 : World) (o : Obj) (i0 n b : Nat) : K6 W0 o i0 b (Array.replicate n false) W0 := ⟨fun _ => rfl, fun h => absurd h (none_listed n i0)⟩
set_option maxRecDepth 100000 in
set_option maxHeartbeats 51200000 in
theorem law_start (hrule : RuleAny) (r : RuleD) (v : Value) (w : World) (hG : Good w) (hD : DayNms w) (hF : Freqs w) (hv : RuleIs w v r) (hin : RuleIn r) :
    Calls Tryz.prog 9 #[v] w fun e w' => e = .returned (.bool true) ∧ Below w.heap.size w w' := by
  obtain ⟨cs, rfl, hcs, hc1⟩ := ruleVal_cells hv
  have hq : cs[1]? = some (.bool r.hs) ∧ cs[2]? = some (.int .i64 r.st) := by
    obtain ⟨v8, v9, v10, v11, v12, v13, v14, v15, v16, v17, he, hR⟩ := hv
    injection he with he
    subst he
    exact ⟨rfl, rfl⟩
  have Q1 := Lib.hid hq.1
  have Q2 := Lib.hid hq.2
  clear hq
  have hal : Below w.heap.size w (w.alloc (.cells cs 26)) := (Below.refl _ _).alloc (Nat.le_refl _) _
  have hbox : RowAt (w.alloc (.cells cs 26)) w.heap.size 26 cs.toList := ⟨by rw [heap_alloc_new]⟩
  have HBX := Lib.hid hbox
  have HCS := Lib.hid hcs
  have HV := Lib.hid (hv.below hal)
  have HAL := Lib.hid hal
  have HG := Lib.hid hG
  have HD := Lib.hid hD
  have HF := Lib.hid hF
  have H19 := Lib.hid (fun w hG => awake_any hrule option_any w hG)
  have H24 := Lib.hid (fun w hv => fits_any r (.agg cs) w hv)
  clear hbox hcs hv hal hG hD hF
  cases hfit : fitsB r with
  | false =>
    rw [hfit] at H24
    clear hfit H19 hrule hin HG HD HF
    go_enter Tryz.func9, Tryz.ntmps9
    go_wp2_with (first
      | (refine wpList_load_row rfl 26 _ rfl w.heap.size rfl 26 cs (0, 0) _ HBX.out.blk Tryz.underlying26 rfl (by rw [HCS.out]; as_aux_lemma => kernel_rfl) ?_)
      | (go_at_call 24; go_must (refine (H24.out _ HV.out).mono ?_; rintro e w1 ⟨rfl, hb1⟩))
      | (fail))
    go_ret
    exact ⟨rfl, HAL.out.trans (hb1.mono HAL.out.size)⟩
  | true =>
    have hdl : r.dy.length ≤ 2147483647 := by
      simp only [fitsB, Bool.and_eq_true, decide_eq_true_eq] at hfit
      exact hfit.1.1.1.1.2
    rw [hfit] at H24
    have H25 := Lib.hid (fun w hv => textRule_any r (.agg cs) w hv hin.fq hdl)
    clear hfit hdl
    have HIN := Lib.hid hin
    have HRL := Lib.hid hrule
    clear hin hrule
    go_enter Tryz.func9, Tryz.ntmps9
    go_upto_region 3 with (first
      | (refine wpList_load_row rfl 26 _ rfl w.heap.size rfl 26 cs (0, 0) _ HBX.out.blk Tryz.underlying26 rfl (by rw [HCS.out]; as_aux_lemma => kernel_rfl) ?_)
      | (go_at_call 24; go_must (refine (H24.out _ HV.out).mono ?_; rintro e w1 ⟨rfl, hb1⟩; have HB1 := Lib.hid hb1; clear hb1))
      | (fail))
    have hr1 := Lib.hid (HBX.out.below HB1.out)
    have hld1 : (lockLoad ⟨w.heap.size, 0, none⟩ 18).run Tryz.prog w1 = .ok cs w1 := lockLoad_arr cs 18 HCS.out (fun i => by rw [hr1.out.cells]; simp)
    have hcut3 : ∀ b : Bool, True := fun _ => trivial
    go_cut [17] from 10 to 17 (fun c wx => ∃ b c' : Bool, c = .bool c' ∧ Hid (c' = !(b && r.hs)) ∧ Hid (b = true → TextR r) ∧ Hid (Below w1.heap.size w1 wx))
    case first =>
      have hc0 : ∀ w2, Below w1.heap.size w1 w2 → w2.cell? ⟨w.heap.size, 1, none⟩ = some (.bool r.hs) := fun w2 hb2 => (hr1.out.below hb2).cell 1 (by simpa using Q1.out)
      have HC0 := Lib.hid hc0
      clear hc0
      go_wp2_with (first
        | (refine wpList_load_row rfl 26 _ rfl w.heap.size rfl 26 cs (0, 0) _ hr1.out.blk Tryz.underlying26 rfl (by rw [HCS.out]; as_aux_lemma => kernel_rfl) ?_)
        | (go_at_call 25; go_must (refine (H25.out _ (HV.out.below HB1.out)).mono ?_; rintro e w2 ⟨b, rfl, hT, hb2⟩; have hcx := HC0.out w2 hb2; have HTb := Lib.hid hT; have HBb := Lib.hid hb2; clear hT hb2; cases b))
        | (fail))
      all_goals
        go_meet
        first
          | exact ⟨false, _, rfl, Lib.hid rfl, Lib.hid (fun h => by cases h), HBb⟩
          | exact ⟨true, _, rfl, Lib.hid rfl, Lib.hid (fun _ => HTb.out (by simp)), HBb⟩
    case rest =>
    obtain ⟨b, c', rfl, HCC, HT, HB2⟩ := hcut
    clear hcut3 hld1
    have hB2 : Hid (Below w.heap.size w wc) := Lib.hid ((HAL.out.trans (HB1.out.mono HAL.out.size)).trans (HB2.out.mono (HAL.out.trans (HB1.out.mono HAL.out.size)).size))
    cases c' with
    | true =>
      go_wp2_with (first
        | (go_at_call 19; go_must (refine (H19.out _ (HG.out.below hB2.out)).mono ?_; rintro e w3 ⟨rfl, hb3⟩))
        | (fail))
      go_ret
      exact ⟨rfl, hB2.out.trans (hb3.mono hB2.out.size)⟩
    | false =>
      have hbs : (b && r.hs) = true := by simpa using HCC.out.symm
      clear HCC
      simp only [Bool.and_eq_true] at hbs
      obtain ⟨rfl, hhs⟩ := hbs
      have hT := HT.out rfl
      have hN := optN_of hT HIN.out
      have hRO := ruleOf_optOf hT
      have hLn := ruleLen hT
      have hz : r.st ≠ 0 := by have := hT.hs; rw [hhs] at this; simpa using this.symm
      have est : (optOf r).st = (r.st, 0) := by show ((if r.hs = true then r.st else 0), (0 : Int)) = _; rw [if_pos hhs]
      have hisz : isZ (optOf r).st = false := by rw [est]; simp [isZ, hz]
      have h35 : Hid (∀ W, CkS w w.heap.size cs r W → Calls Tryz.prog 35 #[.agg cs] W fun e w' => e = .returned (.string (mkS (rrL (optOf r)))) ∧ Below W.heap.size W w') := fun W h => ruleStringS_any r (.agg cs) W h.2.dn h.2.fr h.2.r1 hT HIN.out
      have h33 : Hid (∀ W, Calls Tryz.prog 33 #[.int .i64 r.st] W fun e w' => e = .returned (.string (mkS (stampS r.st))) ∧ Below W.heap.size W w') := fun W => textTime_any r.st W hT.st
      have hst := stampS_len r.st hT.st
      have hrl := rrL_len _ hN.ok
      have h27 : Hid (∀ (l : List UInt8), l.length ≤ 1000000 → optT l = some (optOf r) → ∀ W, CkS w w.heap.size cs r W → Calls Tryz.prog 27 #[.string (mkS l), .agg cs] W fun e w' => e = .returned (.bool true) ∧ Below W.heap.size W w') := fun l hl ho W h => parsed_yes HRL.out l (optOf r) (.agg cs) W h.2.good hl ho (by rw [hRO]; exact h.2.r1) (by rw [hRO]; exact hLn)
      have P1 := st_back1 _ hN
      have P2 := st_back2 _ hN
      have P3 := st_back3 _ hN
      have P4 := st_back4 _ hN
      have P5 := st_back5 _ hN hisz
      have P6 := st_back6 _ hN
      unfold stp1 at P1
      unfold stp2 at P2
      unfold stp3 at P3
      unfold stp4 at P4
      unfold stp5 at P5
      unfold stp6 at P6
      rw [est] at P1 P2 P3 P4 P5 P6
      simp only at P1 P2 P3 P4 P5 P6
      have hr2 := Lib.hid (hr1.out.below HB2.out)
      have hV2 := Lib.hid ((HV.out.below HB1.out).below HB2.out)
      clear hT hN hRO hLn hz est hisz HT HRL HIN H24 H25
      have hK0 : CkS w w.heap.size cs r wc :=
        ⟨fun i => by rw [hr2.out.cells]; simp, hr2.out.lt, hB2.out, HG.out.below hB2.out, HD.out.below hB2.out, HF.out.below hB2.out, hV2.out⟩
      have HL1 : Hid (∀ W : World, (∀ i, W.cell? ⟨w.heap.size, i, none⟩ = cs[i]?) → (lockLoad ⟨w.heap.size, 0, none⟩ 18).run Tryz.prog W = .ok cs W) := Lib.hid (fun W h => lockLoad_arr cs 18 HCS.out h)
      clear HBX HV HB1 HAL hr1 HB2 hr2 hV2 hB2 HG HD HF
      have HK0 := Lib.hid hK0
      clear hK0
      generalize rrL (optOf r) = T at *
      generalize hsn : stampS r.st = st at *
      clear hsn
      generalize hqq : st.take 15 = q at *
      have lq : q.length = 15 := by rw [← hqq, List.length_take, hst]; rfl
      have hex : (mkS st).extract 0 15 = mkS q := by rw [extract_mkS, mkS_data, ← hqq]; simp
      clear hqq
      have zst : (mkS st).size = 16 := by rw [size_mkS]; exact hst
      have zq : (mkS q).size = 15 := by rw [size_mkS]; exact lq
      have zT := size_mkS T
      obtain ⟨a1, ha1⟩ : ∃ x, x = [68, 84, 83, 84, 65, 82, 84, 58] ++ st := ⟨_, rfl⟩
      obtain ⟨a2, ha2⟩ : ∃ x, x = a1 ++ [10, 82, 82, 85, 76, 69, 58] := ⟨_, rfl⟩
      obtain ⟨a3, ha3⟩ : ∃ x, x = a2 ++ T := ⟨_, rfl⟩
      rw [← ha1, ← ha2, ← ha3] at P1
      have la1 : a1.length = 8 + st.length := by rw [ha1, List.length_append]; rfl
      have la2 : a2.length = a1.length + 7 := by rw [ha2, List.length_append]; rfl
      have la3 : a3.length = a2.length + T.length := by rw [ha3, List.length_append]
      have ka1 : ({ data := #[68, 84, 83, 84, 65, 82, 84, 58] } : ByteArray) ++ mkS st = mkS a1 := by rw [ha1]; exact str_app _ _
      have ka2 : mkS a1 ++ ({ data := #[10, 82, 82, 85, 76, 69, 58] } : ByteArray) = mkS a2 := by rw [ha2]; exact str_app _ [10, 82, 82, 85, 76, 69, 58]
      have ka3 : mkS a2 ++ mkS T = mkS a3 := by rw [ha3]; exact str_app _ _
      have za1 := size_mkS a1
      have za2 := size_mkS a2
      have La : Hid (a3.length ≤ 1000000) := Lib.hid (by omega)
      have P1' := Lib.hid P1
      clear ha1 ha2 ha3 P1
      obtain ⟨b1, hb1⟩ : ∃ x, x = [100, 116, 115, 116, 97, 114, 116, 58] ++ st := ⟨_, rfl⟩
      obtain ⟨b2, hb2⟩ : ∃ x, x = b1 ++ [10] := ⟨_, rfl⟩
      obtain ⟨b3, hb3⟩ : ∃ x, x = b2 ++ T := ⟨_, rfl⟩
      rw [← hb1, ← hb2, ← hb3] at P2
      have lb1 : b1.length = 8 + st.length := by rw [hb1, List.length_append]; rfl
      have lb2 : b2.length = b1.length + 1 := by rw [hb2, List.length_append]; rfl
      have lb3 : b3.length = b2.length + T.length := by rw [hb3, List.length_append]
      have kb1 : ({ data := #[100, 116, 115, 116, 97, 114, 116, 58] } : ByteArray) ++ mkS st = mkS b1 := by rw [hb1]; exact str_app _ _
      have kb2 : mkS b1 ++ ({ data := #[10] } : ByteArray) = mkS b2 := by rw [hb2]; exact str_app _ [10]
      have kb3 : mkS b2 ++ mkS T = mkS b3 := by rw [hb3]; exact str_app _ _
      have zb1 := size_mkS b1
      have zb2 := size_mkS b2
      have Lb : Hid (b3.length ≤ 1000000) := Lib.hid (by omega)
      have P2' := Lib.hid P2
      clear hb1 hb2 hb3 P2
      obtain ⟨c1, hc1⟩ : ∃ x, x = [68, 84, 83, 84, 65, 82, 84, 59, 84, 90, 73, 68, 61, 85, 84, 67, 58] ++ q := ⟨_, rfl⟩
      obtain ⟨c2, hc2⟩ : ∃ x, x = c1 ++ [10, 82, 82, 85, 76, 69, 58] := ⟨_, rfl⟩
      obtain ⟨c3, hc3⟩ : ∃ x, x = c2 ++ T := ⟨_, rfl⟩
      rw [← hc1, ← hc2, ← hc3] at P3
      have lc1 : c1.length = 17 + q.length := by rw [hc1, List.length_append]; rfl
      have lc2 : c2.length = c1.length + 7 := by rw [hc2, List.length_append]; rfl
      have lc3 : c3.length = c2.length + T.length := by rw [hc3, List.length_append]
      have kc1 : ({ data := #[68, 84, 83, 84, 65, 82, 84, 59, 84, 90, 73, 68, 61, 85, 84, 67, 58] } : ByteArray) ++ mkS q = mkS c1 := by rw [hc1]; exact str_app _ _
      have kc2 : mkS c1 ++ ({ data := #[10, 82, 82, 85, 76, 69, 58] } : ByteArray) = mkS c2 := by rw [hc2]; exact str_app _ [10, 82, 82, 85, 76, 69, 58]
      have kc3 : mkS c2 ++ mkS T = mkS c3 := by rw [hc3]; exact str_app _ _
      have zc1 := size_mkS c1
      have zc2 := size_mkS c2
      have Lc : Hid (c3.length ≤ 1000000) := Lib.hid (by omega)
      have P3' := Lib.hid P3
      clear hc1 hc2 hc3 P3
      obtain ⟨e1, he1⟩ : ∃ x, x = [68, 116, 115, 116, 97, 114, 116, 58] ++ q := ⟨_, rfl⟩
      obtain ⟨e2, he2⟩ : ∃ x, x = e1 ++ [10, 82, 82, 85, 76, 69, 58] := ⟨_, rfl⟩
      obtain ⟨e3, he3⟩ : ∃ x, x = e2 ++ T := ⟨_, rfl⟩
      rw [← he1, ← he2, ← he3] at P4
      have le1 : e1.length = 8 + q.length := by rw [he1, List.length_append]; rfl
      have le2 : e2.length = e1.length + 7 := by rw [he2, List.length_append]; rfl
      have le3 : e3.length = e2.length + T.length := by rw [he3, List.length_append]
      have ke1 : ({ data := #[68, 116, 115, 116, 97, 114, 116, 58] } : ByteArray) ++ mkS q = mkS e1 := by rw [he1]; exact str_app _ _
      have ke2 : mkS e1 ++ ({ data := #[10, 82, 82, 85, 76, 69, 58] } : ByteArray) = mkS e2 := by rw [he2]; exact str_app _ [10, 82, 82, 85, 76, 69, 58]
      have ke3 : mkS e2 ++ mkS T = mkS e3 := by rw [he3]; exact str_app _ _
      have ze1 := size_mkS e1
      have ze2 := size_mkS e2
      have Le : Hid (e3.length ≤ 1000000) := Lib.hid (by omega)
      have P4' := Lib.hid P4
      clear he1 he2 he3 P4
      obtain ⟨f1, hf1⟩ : ∃ x, x = [82, 82, 85, 76, 69, 58] ++ T := ⟨_, rfl⟩
      obtain ⟨f2, hf2⟩ : ∃ x, x = f1 ++ [59, 68, 84, 83, 84, 65, 82, 84, 61] := ⟨_, rfl⟩
      obtain ⟨f3, hf3⟩ : ∃ x, x = f2 ++ st := ⟨_, rfl⟩
      rw [← hf1, ← hf2, ← hf3] at P5
      have lf1 : f1.length = 6 + T.length := by rw [hf1, List.length_append]; rfl
      have lf2 : f2.length = f1.length + 9 := by rw [hf2, List.length_append]; rfl
      have lf3 : f3.length = f2.length + st.length := by rw [hf3, List.length_append]
      have kf1 : ({ data := #[82, 82, 85, 76, 69, 58] } : ByteArray) ++ mkS T = mkS f1 := by rw [hf1]; exact str_app _ _
      have kf2 : mkS f1 ++ ({ data := #[59, 68, 84, 83, 84, 65, 82, 84, 61] } : ByteArray) = mkS f2 := by rw [hf2]; exact str_app _ [59, 68, 84, 83, 84, 65, 82, 84, 61]
      have kf3 : mkS f2 ++ mkS st = mkS f3 := by rw [hf3]; exact str_app _ _
      have zf1 := size_mkS f1
      have zf2 := size_mkS f2
      have Lf : Hid (f3.length ≤ 1000000) := Lib.hid (by omega)
      have P5' := Lib.hid P5
      clear hf1 hf2 hf3 P5
      obtain ⟨g1, hg1⟩ : ∃ x, x = [68, 84, 83, 84, 65, 82, 84, 61] ++ q := ⟨_, rfl⟩
      obtain ⟨g2, hg2⟩ : ∃ x, x = g1 ++ [59] := ⟨_, rfl⟩
      obtain ⟨g3, hg3⟩ : ∃ x, x = g2 ++ T := ⟨_, rfl⟩
      rw [← hg1, ← hg2, ← hg3] at P6
      have lg1 : g1.length = 8 + q.length := by rw [hg1, List.length_append]; rfl
      have lg2 : g2.length = g1.length + 1 := by rw [hg2, List.length_append]; rfl
      have lg3 : g3.length = g2.length + T.length := by rw [hg3, List.length_append]
      have kg1 : ({ data := #[68, 84, 83, 84, 65, 82, 84, 61] } : ByteArray) ++ mkS q = mkS g1 := by rw [hg1]; exact str_app _ _
      have kg2 : mkS g1 ++ ({ data := #[59] } : ByteArray) = mkS g2 := by rw [hg2]; exact str_app _ [59]
      have kg3 : mkS g2 ++ mkS T = mkS g3 := by rw [hg3]; exact str_app _ _
      have zg1 := size_mkS g1
      have zg2 := size_mkS g2
      have Lg : Hid (g3.length ≤ 1000000) := Lib.hid (by omega)
      have P6' := Lib.hid P6
      clear hg1 hg2 hg3 P6
      go_upto_region 5 with fail
      refine wp_region_table (β := Unit) (fun _ => #[.agg cs, .pointer (some ⟨w.heap.size, 0, none⟩), .bool false, .string (mkS T), .string (mkS st), undef, undef, .agg cs, .bool true, .bool false, u10, u11, u12, u13, u14, u15, u16, .bool false, undef, .agg cs, .string (mkS T), .pointer (some ⟨w.heap.size, 2, none⟩), .int .i64 r.st, .string (mkS st), undef, undef, undef, undef, undef, undef, undef, undef, undef, undef, undef, undef, undef, undef, undef, undef, undef, undef, undef, undef, undef, undef, undef, undef, undef, undef, undef, undef, undef, undef, undef, undef, undef, undef, undef, undef, undef, undef, undef, undef, undef, undef, undef, undef, undef]) (fun _ _ W => CkS w w.heap.size cs r W) 69 (fun _ => rfl) rfl (by kernel_rfl) () rfl [3, 4, 19, 20, 21, 22, 23] (by kernel_rfl) (by kernel_rfl) (ck_drew HK0.out) ?hs ?hdone
      case hs =>
        refine ⟨StepF.of (fun b listed w1 hB hf hdep K' Q' hK' => ?_), ?_⟩
        · have hld := HL1.out _ hB.1
          clear hf hdep
          go_simp
          refine hK'.out _ _ ⟨rfl, b, fun _ _ => rfl, fun d e => (by cases e; rfl), hB⟩
        refine ⟨StepF.of (fun b listed w1 hB hf hdep K' Q' hK' => ?_), ?_⟩
        · clear hf hdep
          go_simp
          go_at_call 35
          refine (h35.out _ hB).mono ?_
          rintro e w2 ⟨rfl, hb2⟩
          try dsimp only
          refine hK'.out _ _ ⟨rfl, b, fun _ _ => rfl, fun d e => (by cases e; rfl), ck_call hB hb2⟩
        refine ⟨StepF.of (fun b listed w1 hB hf hdep K' Q' hK' => ?_), ?_⟩
        · clear hf hdep
          go_simp
          refine hK'.out _ _ ⟨rfl, b, fun _ _ => rfl, fun d e => (by cases e; rfl), hB⟩
        refine ⟨StepF.of (fun b listed w1 hB hf hdep K' Q' hK' => ?_), ?_⟩
        · clear hf hdep
          have hcx := (hB.1 2).trans Q2.out
          go_simp
          refine hK'.out _ _ ⟨rfl, b, fun _ _ => rfl, fun d e => (by cases e; rfl), hB⟩
        refine ⟨StepF.of (fun b listed w1 hB hf hdep K' Q' hK' => ?_), ?_⟩
        · clear hf hdep
          go_simp
          go_at_call 33
          refine (h33.out _).mono ?_
          rintro e w2 ⟨rfl, hb2⟩
          try dsimp only
          refine hK'.out _ _ ⟨rfl, b, fun _ _ => rfl, fun d e => (by cases e; rfl), ck_call hB hb2⟩
        refine ⟨StepF.of (fun b listed w1 hB hf hdep K' Q' hK' => ?_), ?_⟩
        · clear hf hdep
          go_simp
          refine hK'.out _ _ ⟨rfl, b, fun _ _ => rfl, fun d e => (by cases e; rfl), hB⟩
        refine ⟨StepF.of (fun b listed w1 hB hf hdep K' Q' hK' => ?_), ?_⟩
        · clear hf hdep
          go_simp
          refine hK'.out _ _ ⟨rfl, b, fun _ _ => rfl, fun d e => (by cases e; rfl), hB⟩
        trivial
      case hdone =>
        intro b listed w3 hK hall
        clear hall HK0 h35 h33 HL1
        have HK := Lib.hid hK
        clear hK
        go_upto_region 6 with fail
        refine wp_region_table (β := Nat) (fun b => #[.agg cs, .pointer (some ⟨w.heap.size, 0, none⟩), .bool false, .string (mkS T), .string (mkS st), undef, undef, .agg cs, .bool true, .bool false, u10, u11, u12, u13, u14, u15, u16, .bool false, undef, .agg cs, .string (mkS T), .pointer (some ⟨w.heap.size, 2, none⟩), .int .i64 r.st, .string (mkS st), .string (mkS st), .string (mkS a1), .string (mkS a2), .string (mkS T), .string (mkS a3), .string (mkS st), .string (mkS b1), .string (mkS b2), .string (mkS T), .string (mkS b3), .string (mkS st), .string (mkS q), .string (mkS c1), .string (mkS c2), .string (mkS T), .string (mkS c3), .string (mkS st), .string (mkS q), .string (mkS e1), .string (mkS e2), .string (mkS T), .string (mkS e3), .string (mkS T), .string (mkS f1), .string (mkS f2), .string (mkS st), .string (mkS f3), .string (mkS st), .string (mkS q), .string (mkS g1), .string (mkS g2), .string (mkS T), .string (mkS g3), .slice (some ⟨b, 0, none⟩) 6 6, .int .i64 6, .int .i64 0, undef, undef, undef, undef, undef, undef, undef, undef, undef]) (K6 w3.drew (.cells #[.string (mkS a3), .string (mkS b3), .string (mkS c3), .string (mkS e3), .string (mkS f3), .string (mkS g3)] 9) 33) 69 (fun _ => rfl) rfl (by kernel_rfl) 0 rfl [24, 25, 26, 27, 28, 29, 30, 31, 32, 33, 34, 35, 36, 37, 38, 39, 40, 41, 42, 43, 44, 45, 46, 47, 48, 49, 50, 51, 52, 53, 54, 55, 56, 57, 58, 59] (by kernel_rfl) (by kernel_rfl) (K6.start _ _ _ _ _) ?hs ?hdone
        case hs =>
          refine ⟨StepF.of (fun b listed w1 hB hf hdep K' Q' hK' => ?_), ?_⟩
          · clear hf hdep
            go_simp
            refine hK'.out _ _ ⟨rfl, b, fun _ _ => rfl, fun d e => (by cases e; rfl), hB.other (by decide)⟩
          refine ⟨StepF.of (fun b listed w1 hB hf hdep K' Q' hK' => ?_), ?_⟩
          · clear hf hdep
            go_simp
            (try rw [if_neg (by omega)])
            refine hK'.out _ _ ⟨rfl, b, fun _ _ => rfl, fun d e => (by cases e; rfl), hB.other (by decide)⟩
          refine ⟨StepF.of (fun b listed w1 hB hf hdep K' Q' hK' => ?_), ?_⟩
          · clear hf hdep
            go_simp
            (try rw [if_neg (by omega)])
            refine hK'.out _ _ ⟨rfl, b, fun _ _ => rfl, fun d e => (by cases e; rfl), hB.other (by decide)⟩
          refine ⟨StepF.of (fun b listed w1 hB hf hdep K' Q' hK' => ?_), ?_⟩
          · clear hf hdep
            go_simp
            refine hK'.out _ _ ⟨rfl, b, fun _ _ => rfl, fun d e => (by cases e; rfl), hB.other (by decide)⟩
          refine ⟨StepF.of (fun b listed w1 hB hf hdep K' Q' hK' => ?_), ?_⟩
          · clear hf hdep
            go_simp
            (try rw [if_neg (by omega)])
            refine hK'.out _ _ ⟨rfl, b, fun _ _ => rfl, fun d e => (by cases e; rfl), hB.other (by decide)⟩
          refine ⟨StepF.of (fun b listed w1 hB hf hdep K' Q' hK' => ?_), ?_⟩
          · clear hf hdep
            go_simp
            refine hK'.out _ _ ⟨rfl, b, fun _ _ => rfl, fun d e => (by cases e; rfl), hB.other (by decide)⟩
          refine ⟨StepF.of (fun b listed w1 hB hf hdep K' Q' hK' => ?_), ?_⟩
          · clear hf hdep
            go_simp
            (try rw [if_neg (by omega)])
            refine hK'.out _ _ ⟨rfl, b, fun _ _ => rfl, fun d e => (by cases e; rfl), hB.other (by decide)⟩
          refine ⟨StepF.of (fun b listed w1 hB hf hdep K' Q' hK' => ?_), ?_⟩
          · clear hf hdep
            go_simp
            (try rw [if_neg (by omega)])
            refine hK'.out _ _ ⟨rfl, b, fun _ _ => rfl, fun d e => (by cases e; rfl), hB.other (by decide)⟩
          refine ⟨StepF.of (fun b listed w1 hB hf hdep K' Q' hK' => ?_), ?_⟩
          · clear hf hdep
            go_simp
            refine hK'.out _ _ ⟨rfl, b, fun _ _ => rfl, fun d e => (by cases e; rfl), hB.other (by decide)⟩
          refine ⟨StepF.of (fun b listed w1 hB hf hdep K' Q' hK' => ?_), ?_⟩
          · clear hf hdep
            go_simp
            (try rw [if_neg (by omega)])
            refine hK'.out _ _ ⟨rfl, b, fun _ _ => rfl, fun d e => (by cases e; rfl), hB.other (by decide)⟩
          refine ⟨StepF.of (fun b listed w1 hB hf hdep K' Q' hK' => ?_), ?_⟩
          · clear hf hdep
            go_simp
            refine hK'.out _ _ ⟨rfl, b, fun _ _ => rfl, fun d e => (by cases e; rfl), hB.other (by decide)⟩
          refine ⟨StepF.of (fun b listed w1 hB hf hdep K' Q' hK' => ?_), ?_⟩
          · clear hf hdep
            go_simp
            refine hK'.out _ _ ⟨rfl, b, fun _ _ => rfl, fun d e => (by cases e; rfl), hB.other (by decide)⟩
          refine ⟨StepF.of (fun b listed w1 hB hf hdep K' Q' hK' => ?_), ?_⟩
          · clear hf hdep
            go_simp
            (try rw [if_neg (by omega)])
            refine hK'.out _ _ ⟨rfl, b, fun _ _ => rfl, fun d e => (by cases e; rfl), hB.other (by decide)⟩
          refine ⟨StepF.of (fun b listed w1 hB hf hdep K' Q' hK' => ?_), ?_⟩
          · clear hf hdep
            go_simp
            (try rw [if_neg (by omega)])
            refine hK'.out _ _ ⟨rfl, b, fun _ _ => rfl, fun d e => (by cases e; rfl), hB.other (by decide)⟩
          refine ⟨StepF.of (fun b listed w1 hB hf hdep K' Q' hK' => ?_), ?_⟩
          · clear hf hdep
            go_simp
            refine hK'.out _ _ ⟨rfl, b, fun _ _ => rfl, fun d e => (by cases e; rfl), hB.other (by decide)⟩
          refine ⟨StepF.of (fun b listed w1 hB hf hdep K' Q' hK' => ?_), ?_⟩
          · clear hf hdep
            go_simp
            (try rw [if_neg (by omega)])
            refine hK'.out _ _ ⟨rfl, b, fun _ _ => rfl, fun d e => (by cases e; rfl), hB.other (by decide)⟩
          refine ⟨StepF.of (fun b listed w1 hB hf hdep K' Q' hK' => ?_), ?_⟩
          · clear hf hdep
            go_simp
            refine hK'.out _ _ ⟨rfl, b, fun _ _ => rfl, fun d e => (by cases e; rfl), hB.other (by decide)⟩
          refine ⟨StepF.of (fun b listed w1 hB hf hdep K' Q' hK' => ?_), ?_⟩
          · clear hf hdep
            go_simp
            refine hK'.out _ _ ⟨rfl, b, fun _ _ => rfl, fun d e => (by cases e; rfl), hB.other (by decide)⟩
          refine ⟨StepF.of (fun b listed w1 hB hf hdep K' Q' hK' => ?_), ?_⟩
          · clear hf hdep
            go_simp
            (try rw [if_neg (by omega)])
            refine hK'.out _ _ ⟨rfl, b, fun _ _ => rfl, fun d e => (by cases e; rfl), hB.other (by decide)⟩
          refine ⟨StepF.of (fun b listed w1 hB hf hdep K' Q' hK' => ?_), ?_⟩
          · clear hf hdep
            go_simp
            (try rw [if_neg (by omega)])
            refine hK'.out _ _ ⟨rfl, b, fun _ _ => rfl, fun d e => (by cases e; rfl), hB.other (by decide)⟩
          refine ⟨StepF.of (fun b listed w1 hB hf hdep K' Q' hK' => ?_), ?_⟩
          · clear hf hdep
            go_simp
            refine hK'.out _ _ ⟨rfl, b, fun _ _ => rfl, fun d e => (by cases e; rfl), hB.other (by decide)⟩
          refine ⟨StepF.of (fun b listed w1 hB hf hdep K' Q' hK' => ?_), ?_⟩
          · clear hf hdep
            go_simp
            (try rw [if_neg (by omega)])
            refine hK'.out _ _ ⟨rfl, b, fun _ _ => rfl, fun d e => (by cases e; rfl), hB.other (by decide)⟩
          refine ⟨StepF.of (fun b listed w1 hB hf hdep K' Q' hK' => ?_), ?_⟩
          · clear hf hdep
            go_simp
            refine hK'.out _ _ ⟨rfl, b, fun _ _ => rfl, fun d e => (by cases e; rfl), hB.other (by decide)⟩
          refine ⟨StepF.of (fun b listed w1 hB hf hdep K' Q' hK' => ?_), ?_⟩
          · clear hf hdep
            go_simp
            (try rw [if_neg (by omega)])
            refine hK'.out _ _ ⟨rfl, b, fun _ _ => rfl, fun d e => (by cases e; rfl), hB.other (by decide)⟩
          refine ⟨StepF.of (fun b listed w1 hB hf hdep K' Q' hK' => ?_), ?_⟩
          · clear hf hdep
            go_simp
            (try rw [if_neg (by omega)])
            refine hK'.out _ _ ⟨rfl, b, fun _ _ => rfl, fun d e => (by cases e; rfl), hB.other (by decide)⟩
          refine ⟨StepF.of (fun b listed w1 hB hf hdep K' Q' hK' => ?_), ?_⟩
          · clear hf hdep
            go_simp
            refine hK'.out _ _ ⟨rfl, b, fun _ _ => rfl, fun d e => (by cases e; rfl), hB.other (by decide)⟩
          refine ⟨StepF.of (fun b listed w1 hB hf hdep K' Q' hK' => ?_), ?_⟩
          · clear hf hdep
            go_simp
            (try rw [if_neg (by omega)])
            refine hK'.out _ _ ⟨rfl, b, fun _ _ => rfl, fun d e => (by cases e; rfl), hB.other (by decide)⟩
          refine ⟨StepF.of (fun b listed w1 hB hf hdep K' Q' hK' => ?_), ?_⟩
          · clear hf hdep
            go_simp
            refine hK'.out _ _ ⟨rfl, b, fun _ _ => rfl, fun d e => (by cases e; rfl), hB.other (by decide)⟩
          refine ⟨StepF.of (fun b listed w1 hB hf hdep K' Q' hK' => ?_), ?_⟩
          · clear hf hdep
            go_simp
            refine hK'.out _ _ ⟨rfl, b, fun _ _ => rfl, fun d e => (by cases e; rfl), hB.other (by decide)⟩
          refine ⟨StepF.of (fun b listed w1 hB hf hdep K' Q' hK' => ?_), ?_⟩
          · clear hf hdep
            go_simp
            (try rw [if_neg (by omega)])
            refine hK'.out _ _ ⟨rfl, b, fun _ _ => rfl, fun d e => (by cases e; rfl), hB.other (by decide)⟩
          refine ⟨StepF.of (fun b listed w1 hB hf hdep K' Q' hK' => ?_), ?_⟩
          · clear hf hdep
            go_simp
            (try rw [if_neg (by omega)])
            refine hK'.out _ _ ⟨rfl, b, fun _ _ => rfl, fun d e => (by cases e; rfl), hB.other (by decide)⟩
          refine ⟨StepF.of (fun b listed w1 hB hf hdep K' Q' hK' => ?_), ?_⟩
          · clear hf hdep
            go_simp
            refine hK'.out _ _ ⟨rfl, b, fun _ _ => rfl, fun d e => (by cases e; rfl), hB.other (by decide)⟩
          refine ⟨StepF.of (fun b listed w1 hB hf hdep K' Q' hK' => ?_), ?_⟩
          · clear hf hdep
            go_simp
            (try rw [if_neg (by omega)])
            refine hK'.out _ _ ⟨rfl, b, fun _ _ => rfl, fun d e => (by cases e; rfl), hB.other (by decide)⟩
          refine ⟨StepF.of (fun b listed w1 hB hf hdep K' Q' hK' => ?_), ?_⟩
          · clear hdep
            go_simp
            refine hK'.out _ _ ⟨rfl, w1.heap.size, fun k e => getD_upd2 (d := 57) (v := .slice (some ⟨w1.heap.size, 0, none⟩) 6 6) rfl e, fun d e => (by cases e; rfl), hB.made hf⟩
          refine ⟨StepF.of (fun b listed w1 hB hf hdep K' Q' hK' => ?_), ?_⟩
          · clear hf hdep
            go_simp
            refine hK'.out _ _ ⟨rfl, b, fun _ _ => rfl, fun d e => (by cases e; rfl), hB.other (by decide)⟩
          refine ⟨StepF.of (fun b listed w1 hB hf hdep K' Q' hK' => ?_), ?_⟩
          · clear hf hdep
            go_simp
            refine hK'.out _ _ ⟨rfl, b, fun _ _ => rfl, fun d e => (by cases e; rfl), hB.other (by decide)⟩
          trivial
        case hdone =>
          intro b listed w4 hK hall
          obtain ⟨rfl, rfl⟩ := hK.2 (hall 33 (by decide))
          clear hK hall
          have hS : CkS w w.heap.size cs r w3.drew := ck_drew HK.out
          have hal4 : Below w3.drew.heap.size w3.drew (w3.drew.alloc (.cells #[.string (mkS a3), .string (mkS b3), .string (mkS c3), .string (mkS e3), .string (mkS f3), .string (mkS g3)] 9)) := (Below.refl _ _).alloc (Nat.le_refl _) _
          have hK4 : CkS w w.heap.size cs r (w3.drew.alloc (.cells #[.string (mkS a3), .string (mkS b3), .string (mkS c3), .string (mkS e3), .string (mkS f3), .string (mkS g3)] 9)) := ck_call hS hal4
          have hR4 : RowAt (w3.drew.alloc (.cells #[.string (mkS a3), .string (mkS b3), .string (mkS c3), .string (mkS e3), .string (mkS f3), .string (mkS g3)] 9)) w3.drew.heap.size 9 ([a3, b3, c3, e3, f3, g3].map strV) := ⟨heap_alloc_new _ _⟩
          generalize w3.drew.alloc (.cells #[.string (mkS a3), .string (mkS b3), .string (mkS c3), .string (mkS e3), .string (mkS f3), .string (mkS g3)] 9) = w4 at *
          generalize w3.drew.heap.size = bb at *
          have H27 : Hid (∀ (k : Nat) (hk : k < 6) W, CkS w w.heap.size cs r W → Calls Tryz.prog 27 #[.string (mkS ([a3, b3, c3, e3, f3, g3][k])), .agg cs] W fun e w' => e = .returned (.bool true) ∧ Below W.heap.size W w') := Lib.hid (fun k hk W h => by
            match k, hk with
            | 0, _ => exact h27.out a3 La.out P1'.out W h
            | 1, _ => exact h27.out b3 Lb.out P2'.out W h
            | 2, _ => exact h27.out c3 Lc.out P3'.out W h
            | 3, _ => exact h27.out e3 Le.out P4'.out W h
            | 4, _ => exact h27.out f3 Lf.out P5'.out W h
            | 5, _ => exact h27.out g3 Lg.out P6'.out W h)
          have HK4 := Lib.hid (And.intro hK4 hR4)
          clear hS hal4 hK4 hR4 h27 La Lb Lc Le Lf Lg P1' P2' P3' P4' P5' P6' HK
          have hSl : ([a3, b3, c3, e3, f3, g3] : List (List UInt8)).length = 6 := rfl
          clear ka1 ka2 ka3 kb1 kb2 kb3 kc1 kc2 kc3 ke1 ke2 ke3 kf1 kf2 kf3 kg1 kg2 kg3 za1 za2 zb1 zb2 zc1 zc2 ze1 ze2 zf1 zf2 zg1 zg2 hex zst zq zT hst lq hrl la1 la2 la3 lb1 lb2 lb3 lc1 lc2 lc3 le1 le2 le3 lf1 lf2 lf3 lg1 lg2 lg3
          obtain ⟨SL, hSL⟩ : ∃ SL : List (List UInt8), SL = [a3, b3, c3, e3, f3, g3] := ⟨_, rfl⟩
          go_wp2
          go_loopw [59] (fun i wr => ∃ k : Nat, k ≤ 6 ∧ i = .int .i64 k ∧ Hid (CkS w w.heap.size cs r wr ∧ RowAt wr bb 9 ([a3, b3, c3, e3, f3, g3].map strV))) (fun i _ => 6 - (intOf i).toNat)
          case atStart => exact ⟨0, by omega, rfl, HK4⟩
          case round =>
            obtain ⟨k, hk, rfl, HK⟩ := hrel
            by_cases hk6 : k < 6
            · have t0 : (0 : Int) ≤ (k : Int) := Int.natCast_nonneg _
              have t1 : decide ((k : Int) < 6) = true := by simp; omega
              have t2 : (k : Int) < 6 := by omega
              have hcx : wr.cell? ⟨bb, k, none⟩ = some (.string (mkS ([a3, b3, c3, e3, f3, g3][k]))) := HK.out.2.cell k (by rw [List.getElem?_map, List.getElem?_eq_getElem (by exact hk6)]; rfl)
              have hc27 := Lib.hid (H27.out k hk6)
              generalize [a3, b3, c3, e3, f3, g3][k] = x at hcx hc27
              have hld := lockLoad_arr (W := wr) (B := w.heap.size) cs 18 HCS.out HK.out.1.1
              go_wp2_with (first
                | (go_at_call 27; go_must (refine (hc27.out _ HK.out.1).mono ?_; rintro e w5 ⟨rfl, hb5⟩))
                | (fail))
              go_roundw
              case rel =>
                have hc5 : CkS w w.heap.size cs r w5 := ck_call HK.out.1 hb5
                exact ⟨k + 1, by omega, by go_num, Lib.hid (And.intro hc5 (HK.out.2.below hb5))⟩
              case measure => simp [intOf]; omega
            · obtain rfl : k = 6 := by omega
              go_wp2_with (first
                | (go_at_call 19; go_must (refine (H19.out _ HK.out.1.2.good).mono ?_; rintro e w7 ⟨rfl, hb7⟩))
                | (fail))
              go_ret
              exact ⟨rfl, HK.out.1.2.hb.trans (hb7.mono HK.out.1.2.hb.size)⟩
end Go.Proofs.YtcfbkkcamiephaaGreatDoor
