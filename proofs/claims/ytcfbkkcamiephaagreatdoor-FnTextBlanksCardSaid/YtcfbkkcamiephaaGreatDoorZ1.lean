import Derived.Test.YtcfbkkcamiephaaGreatDoorQ5
import Derived.Test.YtcfbkkcamiephaaGreatDoorIw
namespace Go.Proofs.YtcfbkkcamiephaaGreatDoor
open Go.RowKit

attribute [local go_sem ↓] Go.wp_at_zero Go.wp_at_succ

/-! ### FnTextBlanks -/
/-- a row of bytes that begins at a place of a block -/
structure ByteRowQ (w : World) (g gq : Nat) (xs : List Nat) : Prop where
  lt : g < w.heap.size
  cell : ∀ (i x : Nat), xs[i]? = some x → w.cell? ⟨g, gq + i, none⟩ = some (.int .u8 (x : Int))
theorem ByteRowQ.below {w w' : World} {g gq : Nat} {xs : List Nat} (h : ByteRowQ w g gq xs) (hb : Below w.heap.size w w') : ByteRowQ w' g gq xs :=
  ⟨Nat.lt_of_lt_of_le h.lt hb.size, fun i x hx => cell_below hb (h.cell i x hx)⟩
def BytesV (w : World) (v : Value) (xs : List Nat) : Prop := ∃ a c, v = .slice a xs.length c ∧ (xs = [] ∨ ∃ g gq, a = some ⟨g, gq, none⟩ ∧ ByteRowQ w g gq xs)
theorem BytesV.below {w w' : World} {v : Value} {xs : List Nat} (h : BytesV w v xs) (hb : Below w.heap.size w w') : BytesV w' v xs := by
  obtain ⟨a, c, h1, h2⟩ := h
  refine ⟨a, c, h1, ?_⟩
  rcases h2 with h2 | ⟨g, gq, h3, h4⟩
  · exact .inl h2
  · exact .inr ⟨g, gq, h3, h4.below hb⟩
def blOf (x : Nat) : UInt8 := match x % 4 with | 0 => 32 | 1 => 9 | 2 => 10 | _ => 13
def bl (xs : List Nat) : List UInt8 := xs.map blOf
theorem bl_sp (xs : List Nat) : ∀ c ∈ bl xs, Lib.isSp c = true ∧ c.toNat < 128 := fun c hc => by
  obtain ⟨x, _, rfl⟩ := List.mem_map.1 hc
  unfold blOf
  split <;> exact ⟨by decide, by decide⟩
theorem bl_snoc (xs : List Nat) (k x : Nat) (h : xs[k]? = some x) : bl (xs.take (k + 1)) = bl (xs.take k) ++ [blOf x] := by
  have : xs.take (k + 1) = xs.take k ++ [x] := by rw [List.take_add_one, h]; rfl
  rw [this]; simp [bl]
set_option maxRecDepth 100000 in
set_option maxHeartbeats 1600000 in
theorem blanks26 (xs : List Nat) (v : Value) (w : World) (hv : BytesV w v xs) (hl : xs.length ≤ 50) :
    Calls Tryz.prog 26 #[v] w fun e w' => e = .returned (.string (mkS (bl xs))) ∧ Below w.heap.size w w' := by
  obtain ⟨a, c, rfl, hr⟩ := hv
  have HR := Lib.hid hr
  clear hr
  have ex0 : ({ data := #[32, 9, 10, 13] } : ByteArray).extract 0 1 = mkS [32] := rfl
  have ex1 : ({ data := #[32, 9, 10, 13] } : ByteArray).extract 1 2 = mkS [9] := rfl
  have ex2 : ({ data := #[32, 9, 10, 13] } : ByteArray).extract 2 3 = mkS [10] := rfl
  have ex3 : ({ data := #[32, 9, 10, 13] } : ByteArray).extract 3 4 = mkS [13] := rfl
  have ze0 : (mkS [32]).size = 1 := rfl
  have ze1 : (mkS [9]).size = 1 := rfl
  have ze2 : (mkS [10]).size = 1 := rfl
  have ze3 : (mkS [13]).size = 1 := rfl
  go_enter Tryz.func26, Tryz.ntmps26
  go_wp2
  go_loopw [3, 8] (fun s i wr => ∃ k q : Nat, k ≤ xs.length ∧ s = .string (mkS (bl (xs.take k))) ∧ i = .int .i64 k ∧ wr = w.drewN q) (fun _ i _ => xs.length - (intOf i).toNat)
  case atStart => exact ⟨0, 0, by omega, rfl, rfl, rfl⟩
  case round =>
    obtain ⟨k, q, hk, rfl, rfl, rfl⟩ := hrel
    by_cases hlt : k < xs.length
    · obtain ⟨g, gq, rfl, hg⟩ : ∃ g gq, a = some ⟨g, gq, none⟩ ∧ ByteRowQ w g gq xs := by
        rcases HR.out with h | h
        · rw [h] at hlt; simp at hlt
        · exact h
      have hc := hg.cell k xs[k] (by simp [hlt])
      have hsn := Lib.hid (bl_snoc xs k xs[k] (by simp [hlt]))
      have zs : (mkS (bl (xs.take k))).size = (bl (xs.take k)).length := size_mkS _
      have zl : (bl (xs.take k)).length ≤ 50 := by simp [bl]; omega
      generalize xs[k] = x at hc hsn
      generalize bl (xs.take k) = T at *
      have hk0 : (0 : Int) ≤ (k : Int) := Int.natCast_nonneg _
      have hk1 : (k : Int) < (xs.length : Int) := by omega
      clear hg
      have hfour : (x % 4 = 0 ∧ blOf x = 32 ∧ Int.tmod (x : Int) 4 = 0) ∨ (x % 4 = 1 ∧ blOf x = 9 ∧ Int.tmod (x : Int) 4 = 1) ∨ (x % 4 = 2 ∧ blOf x = 10 ∧ Int.tmod (x : Int) 4 = 2) ∨ (x % 4 = 3 ∧ blOf x = 13 ∧ Int.tmod (x : Int) 4 = 3) := by
        have e : Int.tmod (x : Int) 4 = ((x % 4 : Nat) : Int) := rfl
        rw [e]
        unfold blOf
        have : x % 4 < 4 := Nat.mod_lt _ (by decide)
        generalize x % 4 = m at *
        match m, this with
        | 0, _ => simp
        | 1, _ => simp
        | 2, _ => simp
        | 3, _ => simp
      rcases hfour with ⟨_, hb, hm⟩ | ⟨_, hb, hm⟩ | ⟨_, hb, hm⟩ | ⟨_, hb, hm⟩
      all_goals
        rw [hb] at hsn
        clear hb
        go_wp2
        go_roundw
        case rel => exact ⟨k + 1, _, by omega, by rw [hsn.out, ← str_app], by go_num, rfl⟩
        case measure => simp [intOf]; omega
    · obtain rfl : k = xs.length := by omega
      go_wp2
      go_ret
      rw [List.take_length]
      exact ⟨rfl, bdrewN (Below.refl _ _) _⟩
theorem optL_len5 (o : Opt) (h : OptOk o) : (optL o).length ≤ 500000 := by
  have h1 := rrL_len o h
  have h2 := stampS_len _ h.st
  unfold optL
  split
  · omega
  · simp only [List.length_append, rfcL, List.length_cons, dtL, nlL, List.length_nil]; omega

attribute [local go_sem ↓] lockL_eq
set_option maxRecDepth 100000 in
set_option maxHeartbeats 51200000 in
theorem law_blanks (hrule : RuleAny) (r : RuleD) (v vx vy : Value) (xs ys : List Nat) (w : World) (hG : Good w) (hD : DayNms w) (hF : Freqs w) (hv : RuleIs w v r) (hin : RuleIn r) (hvx : BytesV w vx xs) (hvy : BytesV w vy ys) :
    Calls Tryz.prog 4 #[v, vx, vy] w fun e w' => e = .returned (.bool true) ∧ Below w.heap.size w w' := by
  obtain ⟨cs, rfl, hcs, hc1⟩ := ruleVal_cells hv
  have hal : Below w.heap.size w (w.alloc (.cells cs 26)) := (Below.refl _ _).alloc (Nat.le_refl _) _
  have hbox : RowAt (w.alloc (.cells cs 26)) w.heap.size 26 cs.toList := ⟨by rw [heap_alloc_new]⟩
  have HBX := Lib.hid hbox
  have HCS := Lib.hid hcs
  have HV := Lib.hid (hv.below hal)
  have HAL := Lib.hid hal
  have HG := Lib.hid hG
  have HD := Lib.hid hD
  have HF := Lib.hid hF
  have HVX := Lib.hid hvx
  have HVY := Lib.hid hvy
  obtain ⟨ax, cx, rfl, hx'⟩ := hvx
  obtain ⟨ay, cy, rfl, hy'⟩ := hvy
  have H19 := Lib.hid (fun w hG => awake_any hrule option_any w hG)
  have H24 := Lib.hid (fun w hv => fits_any r (.agg cs) w hv)
  clear hbox hcs hv hal hG hD hF hx' hy'
  cases hfit : fitsB r with
  | false =>
    rw [hfit] at H24
    clear hfit H19 hrule hin HG HD HF HVX HVY
    go_enter Tryz.func4, Tryz.ntmps4
    go_wp2_with (first
      | (refine wpList_load_row rfl 26 _ rfl w.heap.size rfl 26 cs (0, 0) _ HBX.out.blk Tryz.underlying26 rfl (by rw [HCS.out]; as_aux_lemma => kernel_rfl) ?_)
      | (go_at_call 24; go_must (refine (H24.out _ HV.out).mono ?_; rintro e w1 ⟨rfl, hb1⟩))
      | (fail))
    go_ret
    exact ⟨rfl, HAL.out.trans (hb1.mono HAL.out.size)⟩
  | true =>
    have hdl : r.dy.length ≤ 2147483647 := by
      simp only [fitsB, Bool.and_eq_true, decide_eq_true_eq] at hfit
      exact hfit.1.1.1.1.2
    rw [hfit] at H24
    have H25 := Lib.hid (fun w hv => textRule_any r (.agg cs) w hv hin.fq hdl)
    clear hfit hdl
    have HIN := Lib.hid hin
    have HRL := Lib.hid hrule
    clear hin hrule
    obtain ⟨p1, hp1⟩ : ∃ q, decide ((2147483647 : Int) < (xs.length : Int)) = q := ⟨_, rfl⟩
    obtain ⟨p2, hp2⟩ : ∃ q, decide ((2147483647 : Int) < (ys.length : Int)) = q := ⟨_, rfl⟩
    by_cases hpp : p1 = false ∧ p2 = false
    case neg =>
      have hp : p1 = true ∨ (p1 = false ∧ p2 = true) := by cases p1 <;> cases p2 <;> simp_all
      clear hpp
      rcases hp with rfl | ⟨rfl, rfl⟩
      all_goals
        go_enter Tryz.func4, Tryz.ntmps4
        go_wp2_with (first
          | (refine wpList_load_row rfl 26 _ rfl w.heap.size rfl 26 cs (0, 0) _ HBX.out.blk Tryz.underlying26 rfl (by rw [HCS.out]; as_aux_lemma => kernel_rfl) ?_)
          | (go_at_call 24; go_must (refine (H24.out _ HV.out).mono ?_; rintro e w1 ⟨rfl, hb1⟩))
          | (fail))
        go_ret
        exact ⟨rfl, HAL.out.trans (hb1.mono HAL.out.size)⟩
    obtain ⟨rfl, rfl⟩ := hpp
    go_enter Tryz.func4, Tryz.ntmps4
    go_upto_region 3 with (first
      | (refine wpList_load_row rfl 26 _ rfl w.heap.size rfl 26 cs (0, 0) _ HBX.out.blk Tryz.underlying26 rfl (by rw [HCS.out]; as_aux_lemma => kernel_rfl) ?_)
      | (go_at_call 24; go_must (refine (H24.out _ HV.out).mono ?_; rintro e w1 ⟨rfl, hb1⟩; have HB1 := Lib.hid hb1; clear hb1))
      | (fail))
    have hr1 := Lib.hid (HBX.out.below HB1.out)
    obtain ⟨q1, hq1⟩ : ∃ q, decide ((50 : Int) < (xs.length : Int)) = q := ⟨_, rfl⟩
    obtain ⟨q2, hq2⟩ : ∃ q, decide ((50 : Int) < (ys.length : Int)) = q := ⟨_, rfl⟩
    have hcut3 : ∀ b : Bool, True := fun _ => trivial
    go_cut [33] from 21 to 33 (fun c wx => ∃ b c' : Bool, c = .bool c' ∧ Hid (c' = (!b || q1 || q2)) ∧ Hid (b = true → TextR r) ∧ Hid (Below w1.heap.size w1 wx))
    case first =>
      cases q1 <;> cases q2
      all_goals
        go_wp2_with (first
          | (refine wpList_load_row rfl 26 _ rfl w.heap.size rfl 26 cs (0, 0) _ hr1.out.blk Tryz.underlying26 rfl (by rw [HCS.out]; as_aux_lemma => kernel_rfl) ?_)
          | (go_at_call 25; go_must (refine (H25.out _ (HV.out.below HB1.out)).mono ?_; rintro e w2 ⟨b, rfl, hT, hb2⟩; have HTb := Lib.hid hT; have HBb := Lib.hid hb2; clear hT hb2; cases b))
          | (fail))
        all_goals
          go_meet
          first
            | exact ⟨false, _, rfl, Lib.hid rfl, Lib.hid (fun h => by cases h), HBb⟩
            | exact ⟨true, _, rfl, Lib.hid rfl, Lib.hid (fun _ => HTb.out (by simp)), HBb⟩
    case rest =>
    obtain ⟨b, c', rfl, HCC, HT, HB2⟩ := hcut
    clear hcut3
    have hB2 : Hid (Below w.heap.size w wc) := Lib.hid ((HAL.out.trans (HB1.out.mono HAL.out.size)).trans (HB2.out.mono (HAL.out.trans (HB1.out.mono HAL.out.size)).size))
    cases c' with
    | true =>
      go_wp2_with (first
        | (go_at_call 19; go_must (refine (H19.out _ (HG.out.below hB2.out)).mono ?_; rintro e w3 ⟨rfl, hb3⟩))
        | (fail))
      go_ret
      exact ⟨rfl, hB2.out.trans (hb3.mono hB2.out.size)⟩
    | false =>
      have hbs : (!b || q1 || q2) = false := HCC.out.symm
      clear HCC
      have hbs : b = true ∧ q1 = false ∧ q2 = false := by cases b <;> cases q1 <;> cases q2 <;> simp_all
      obtain ⟨rfl, rfl, rfl⟩ := hbs
      have hlx : xs.length ≤ 50 := by have := of_decide_eq_false hq1; omega
      have hly : ys.length ≤ 50 := by have := of_decide_eq_false hq2; omega
      have hT := HT.out rfl
      have hN := optN_of hT HIN.out
      have hRO := ruleOf_optOf hT
      have hLn := ruleLen hT
      have hol := optL_len5 _ hN.ok
      have h28 : Hid (∀ W, CkS w w.heap.size cs r W → Calls Tryz.prog 28 #[.agg cs] W fun e w' => e = .returned (.string (mkS (optL (optOf r)))) ∧ Below W.heap.size W w') := fun W h => optionTextS_any r (.agg cs) W h.2.dn h.2.fr h.2.r1 hT HIN.out
      have h26x : Hid (∀ W, Below w.heap.size w W → Calls Tryz.prog 26 #[.slice ax xs.length cx] W fun e w' => e = .returned (.string (mkS (bl xs))) ∧ Below W.heap.size W w') := fun W h => blanks26 xs _ W (HVX.out.below h) hlx
      have h26y : Hid (∀ W, Below w.heap.size w W → Calls Tryz.prog 26 #[.slice ay ys.length cy] W fun e w' => e = .returned (.string (mkS (bl ys))) ∧ Below W.heap.size W w') := fun W h => blanks26 ys _ W (HVY.out.below h) hly
      have hback := blanks_back (optOf r) hN (bl xs) (bl ys) (bl_sp xs) (bl_sp ys)
      have hbx : (bl xs).length ≤ 50 := by simp [bl]; omega
      have hby : (bl ys).length ≤ 50 := by simp [bl]; omega
      have h27 : Hid (∀ W, CkS w w.heap.size cs r W → Calls Tryz.prog 27 #[.string (mkS (bl xs ++ optL (optOf r) ++ bl ys)), .agg cs] W fun e w' => e = .returned (.bool true) ∧ Below W.heap.size W w') := fun W h => parsed_yes HRL.out _ (optOf r) (.agg cs) W h.2.good (by simp only [List.length_append]; omega) hback (by rw [hRO]; exact h.2.r1) (by rw [hRO]; exact hLn)
      have hr2 := Lib.hid (hr1.out.below HB2.out)
      have hV2 := Lib.hid ((HV.out.below HB1.out).below HB2.out)
      clear hT hN hRO hLn HT HRL HIN H24 H25 hback hlx hly hq1 hq2 hp1 hp2
      have hK0 : CkS w w.heap.size cs r wc :=
        ⟨fun i => by rw [hr2.out.cells]; simp, hr2.out.lt, hB2.out, HG.out.below hB2.out, HD.out.below hB2.out, HF.out.below hB2.out, hV2.out⟩
      have HL1 : Hid (∀ W : World, (∀ i, W.cell? ⟨w.heap.size, i, none⟩ = cs[i]?) → (lockLoad ⟨w.heap.size, 0, none⟩ 18).run Tryz.prog W = .ok cs W) := Lib.hid (fun W h => lockLoad_arr cs 18 HCS.out h)
      clear HBX HV HB1 HAL hr1 HB2 hr2 hV2 hB2 HG HD HF HVX HVY
      have HK0 := Lib.hid hK0
      clear hK0
      generalize optL (optOf r) = T at *
      generalize bl xs = X at *
      generalize bl ys = Y at *
      have zX := size_mkS X
      have zT := size_mkS T
      have zY := size_mkS Y
      obtain ⟨a1, ha1⟩ : ∃ x, x = X ++ T := ⟨_, rfl⟩
      obtain ⟨a2, ha2⟩ : ∃ x, x = a1 ++ Y := ⟨_, rfl⟩
      rw [← ha1, ← ha2] at h27
      have la1 : a1.length = X.length + T.length := by rw [ha1, List.length_append]
      have ka1 : mkS X ++ mkS T = mkS a1 := by rw [ha1]; exact str_app _ _
      have ka2 : mkS a1 ++ mkS Y = mkS a2 := by rw [ha2]; exact str_app _ _
      have za1 := size_mkS a1
      clear ha1 ha2
      go_upto_region 6 with fail
      refine wp_region_tableG (β := Unit) (fun _ => #[.agg cs, .slice ax xs.length cx, .slice ay ys.length cy, .pointer (some ⟨w.heap.size, 0, none⟩), undef, undef, .bool true, .func (.func 26) #[] #[], .agg cs, .bool true, .bool false, .bool false, .slice ax xs.length cx, .int .i64 xs.length, .bool false, .bool false, .bool false, .slice ay ys.length cy, .int .i64 ys.length, .bool false, .bool false, u21, u22, u23, u24, u25, u26, u27, u28, u29, u30, u31, u32, .bool false, undef, .bool true, .bool true, .func (.func 26) #[] #[], .slice ax xs.length cx, .string (mkS X), .agg cs, .string (mkS T), .string (mkS a1), .func (.func 26) #[] #[], .slice ay ys.length cy, .string (mkS Y), .string (mkS a2), .agg cs, .bool true, .bool true]) (fun _ _ W => CkS w w.heap.size cs r W) 50 (fun _ => rfl) rfl (by kernel_rfl) () rfl [6, 35, 36, 37, 38, 39, 40, 41, 42, 43, 44, 45, 46, 47, 48, 49] (by kernel_rfl) (by kernel_rfl) (ck_drew HK0.out) ?hs ?hdone
      case hs =>
        refine ⟨.inl ⟨fun _ => rfl, StepF.of (fun b listed w1 hB hf hdep K' Q' hK' => ?_)⟩, ?_⟩
        · clear hf hdep
          go_simp
          go_at_call 19
          refine (H19.out _ hB.2.good).mono ?_
          rintro e w2 ⟨rfl, hb2⟩
          try dsimp only
          refine hK'.out _ _ ⟨rfl, b, fun _ _ => rfl, fun d e => (by cases e; rfl), ck_call hB hb2⟩
        refine ⟨.inl ⟨fun _ => rfl, StepF.of (fun b listed w1 hB hf hdep K' Q' hK' => ?_)⟩, ?_⟩
        · clear hf hdep
          go_simp
          refine hK'.out _ _ ⟨rfl, b, fun _ _ => rfl, fun d e => (by cases e; rfl), hB⟩
        refine ⟨.inl ⟨fun _ => rfl, StepF.of (fun b listed w1 hB hf hdep K' Q' hK' => ?_)⟩, ?_⟩
        · clear hf hdep
          go_simp
          refine hK'.out _ _ ⟨rfl, b, fun _ _ => rfl, fun d e => (by cases e; rfl), hB⟩
        refine ⟨.inl ⟨fun _ => rfl, StepF.of (fun b listed w1 hB hf hdep K' Q' hK' => ?_)⟩, ?_⟩
        · clear hf hdep
          go_simp
          refine hK'.out _ _ ⟨rfl, b, fun _ _ => rfl, fun d e => (by cases e; rfl), hB⟩
        refine ⟨.inl ⟨fun _ => rfl, StepF.of (fun b listed w1 hB hf hdep K' Q' hK' => ?_)⟩, ?_⟩
        · clear hf hdep
          go_simp
          go_at_call 26
          refine (h26x.out _ hB.2.hb).mono ?_
          rintro e w2 ⟨rfl, hb2⟩
          try dsimp only
          refine hK'.out _ _ ⟨rfl, b, fun _ _ => rfl, fun d e => (by cases e; rfl), ck_call hB hb2⟩
        refine ⟨.inl ⟨fun _ => rfl, StepF.of (fun b listed w1 hB hf hdep K' Q' hK' => ?_)⟩, ?_⟩
        · clear hf hdep
          have hl := HL1.out _ hB.1
          go_simp
          refine hK'.out _ _ ⟨rfl, b, fun _ _ => rfl, fun d e => (by cases e; rfl), hB⟩
        refine ⟨.inl ⟨fun _ => rfl, StepF.of (fun b listed w1 hB hf hdep K' Q' hK' => ?_)⟩, ?_⟩
        · clear hf hdep
          go_simp
          go_at_call 28
          refine (h28.out _ hB).mono ?_
          rintro e w2 ⟨rfl, hb2⟩
          try dsimp only
          refine hK'.out _ _ ⟨rfl, b, fun _ _ => rfl, fun d e => (by cases e; rfl), ck_call hB hb2⟩
        refine ⟨.inl ⟨fun _ => rfl, StepF.of (fun b listed w1 hB hf hdep K' Q' hK' => ?_)⟩, ?_⟩
        · clear hf hdep
          go_simp
          (try rw [if_neg (by omega)])
          refine hK'.out _ _ ⟨rfl, b, fun _ _ => rfl, fun d e => (by cases e; rfl), hB⟩
        refine ⟨.inl ⟨fun _ => rfl, StepF.of (fun b listed w1 hB hf hdep K' Q' hK' => ?_)⟩, ?_⟩
        · clear hf hdep
          go_simp
          refine hK'.out _ _ ⟨rfl, b, fun _ _ => rfl, fun d e => (by cases e; rfl), hB⟩
        refine ⟨.inl ⟨fun _ => rfl, StepF.of (fun b listed w1 hB hf hdep K' Q' hK' => ?_)⟩, ?_⟩
        · clear hf hdep
          go_simp
          refine hK'.out _ _ ⟨rfl, b, fun _ _ => rfl, fun d e => (by cases e; rfl), hB⟩
        refine ⟨.inl ⟨fun _ => rfl, StepF.of (fun b listed w1 hB hf hdep K' Q' hK' => ?_)⟩, ?_⟩
        · clear hf hdep
          go_simp
          go_at_call 26
          refine (h26y.out _ hB.2.hb).mono ?_
          rintro e w2 ⟨rfl, hb2⟩
          try dsimp only
          refine hK'.out _ _ ⟨rfl, b, fun _ _ => rfl, fun d e => (by cases e; rfl), ck_call hB hb2⟩
        refine ⟨.inl ⟨fun _ => rfl, StepF.of (fun b listed w1 hB hf hdep K' Q' hK' => ?_)⟩, ?_⟩
        · clear hf hdep
          go_simp
          (try rw [if_neg (by omega)])
          refine hK'.out _ _ ⟨rfl, b, fun _ _ => rfl, fun d e => (by cases e; rfl), hB⟩
        refine ⟨.inl ⟨fun _ => rfl, StepF.of (fun b listed w1 hB hf hdep K' Q' hK' => ?_)⟩, ?_⟩
        · clear hf hdep
          have hl := HL1.out _ hB.1
          go_simp
          refine hK'.out _ _ ⟨rfl, b, fun _ _ => rfl, fun d e => (by cases e; rfl), hB⟩
        refine ⟨.inl ⟨fun _ => rfl, StepF.of (fun b listed w1 hB hf hdep K' Q' hK' => ?_)⟩, ?_⟩
        · clear hf hdep
          go_simp
          go_at_call 27
          refine (h27.out _ hB).mono ?_
          rintro e w2 ⟨rfl, hb2⟩
          try dsimp only
          refine hK'.out _ _ ⟨rfl, b, fun _ _ => rfl, fun d e => (by cases e; rfl), ck_call hB hb2⟩
        refine ⟨.inl ⟨fun _ => rfl, StepF.of (fun b listed w1 hB hf hdep K' Q' hK' => ?_)⟩, ?_⟩
        · clear hf hdep
          go_simp
          refine hK'.out _ _ ⟨rfl, b, fun _ _ => rfl, fun d e => (by cases e; rfl), hB⟩
        refine ⟨.inl ⟨fun _ => rfl, StepF.of (fun b listed w1 hB hf hdep K' Q' hK' => ?_)⟩, ?_⟩
        · clear hf hdep
          go_simp
          refine hK'.out _ _ ⟨rfl, b, fun _ _ => rfl, fun d e => (by cases e; rfl), hB⟩
        trivial
      case hdone =>
        intro b listed w4 hK hall
        clear hall
        go_wp2
        go_ret
        exact ⟨rfl, hK.2.hb⟩
end Go.Proofs.YtcfbkkcamiephaaGreatDoor
