import Derived.Test.YtcfbkkcamiephaaGreatDoorQ1
import Derived.Test.YtcfbkkcamiephaaGreatDoorY1
import Derived.Test.YtcfbkkcamiephaaGreatDoorV1
namespace Go.Proofs.YtcfbkkcamiephaaGreatDoor
open Go.RowKit

theorem own_slice {W : World} {base n : Nat} {v : Value} {xs : List Value} (h : W.ownsRow base 46 2 v n xs) : ∃ a c, v = .slice a n c := by
  rcases h.2 with ⟨hv, h0⟩ | ⟨g, cap, cur, hv, _⟩
  · subst h0; exact ⟨_, _, hv⟩
  · exact ⟨_, _, hv⟩
/-! ### RuleParts: the plain side -/
def prP (o : Opt) (i : Nat) : List Part := if presB o i = true then [(keyNm i, valL o i)] else []
def pairsOf (o : Opt) : List Part := (idxs o).map fun i => (keyNm i, valL o i)
def chain (o : Opt) : Nat → List Part
  | 0 => prP o 0
  | k + 1 => chain o k ++ prP o (k + 2)
theorem chain_eq (o : Opt) : chain o 14 = pairsOf o := by
  unfold pairsOf idxs ord
  simp only [filt_cons, chain, prP, List.filter_nil, List.map_nil, List.append_nil, List.append_assoc]
theorem prP_one (o : Opt) (i : Nat) : (prP o i).length ≤ 1 := by unfold prP; split <;> simp
theorem chain_len (o : Opt) (k : Nat) : (chain o k).length ≤ k + 1 := by
  induction k with
  | zero => exact prP_one o 0
  | succ k ih => have := prP_one o (k + 2); show (chain o k ++ prP o (k + 2)).length ≤ _; rw [List.length_append]; omega
theorem chain_nil {o : Opt} (k : Nat) (h : presB o (k + 2) = false) : chain o (k + 1) = chain o k := by
  show chain o k ++ prP o (k + 2) = _
  unfold prP; rw [if_neg (by rw [h]; simp), List.append_nil]
theorem chain_cons {o : Opt} (k : Nat) (h : presB o (k + 2) = true) : chain o (k + 1) = chain o k ++ [(keyNm (k + 2), valL o (k + 2))] := by
  show chain o k ++ prP o (k + 2) = _
  unfold prP; rw [if_pos h]
theorem chain_ints {o : Opt} (k : Nat) (zs : List Int) (hp : presB o (k + 2) = !zs.isEmpty) (hv : valL o (k + 2) = intsJ zs) : chain o (k + 1) = chain o k ++ intsQ (keyNm (k + 2)) zs := by
  show chain o k ++ prP o (k + 2) = _
  unfold prP intsQ
  rw [hp, hv]
  cases zs <;> simp
theorem daysJ_snoc (ds : List (Int × Int)) (k : Nat) (h : k < ds.length) : daysJ (ds.take (k + 1)) = if k = 0 then dayStr ds[k].1.toNat ds[k].2 else daysJ (ds.take k) ++ 44 :: dayStr ds[k].1.toNat ds[k].2 := by
  unfold daysJ
  rw [List.take_succ_eq_append_getElem h, List.map_append, List.map_cons, List.map_nil, join_snoc]
  by_cases h0 : k = 0
  · subst h0; simp
  · rw [if_neg h0, if_neg (by
      intro e
      have := congrArg List.length e
      rw [List.length_map, List.length_take, List.length_nil] at this
      omega)]
/-- what the walk of RuleParts holds of the world -/
def RP (w : World) (L : Nat) (xs : List Value) (P : List Part) (W : World) : Prop := PS w L P W ∧ RowAt W w.heap.size 26 xs ∧ w.heap.size < L
theorem RP.next {w W w1 : World} {L : Nat} {xs : List Value} {P P' : List Part} (h : RP w L xs P W) (hk : KeptR L W w1) (hp : PS w L P' w1) : RP w L xs P' w1 := ⟨hp, hk.row h.2.1 (by decide) (by have := h.2.2; omega), h.2.2⟩
theorem PS.call {w W w1 : World} {L : Nat} {P : List Part} (h : PS w L P W) (hb : Below W.heap.size W w1) : PS w L P w1 := by
  obtain ⟨v, h⟩ := h; exact ⟨v, h.call hb⟩
theorem RP.call {w W w1 : World} {L : Nat} {xs : List Value} {P : List Part} (h : RP w L xs P W) (hb : Below W.heap.size W w1) : RP w L xs P w1 := ⟨h.1.call hb, h.2.1.below hb, h.2.2⟩
theorem RP.bl {w W : World} {L : Nat} {xs : List Value} {P : List Part} (h : RP w L xs P W) : Below w.heap.size w W := by
  obtain ⟨⟨v, h⟩, _⟩ := h; exact h.hb
theorem rp_start (w W : World) (xs : List Value) (x y : List UInt8) (hb : Below w.heap.size w W) (hr : RowAt W w.heap.size 26 xs) :
    RP w (W.heap.size + 1) xs [(x, y)] (((W.alloc (.cells #[strV x, strV y] 46)).alloc (.cells #[.slice (some ⟨W.heap.size, 0, none⟩) 1 1] 43))) := by
  have hl := hr.lt
  have b1 : Below W.heap.size W (W.alloc (.cells #[strV x, strV y] 46)) := (Below.refl _ _).alloc (Nat.le_refl _) _
  have b2 : Below (W.alloc (.cells #[strV x, strV y] 46)).heap.size (W.alloc (.cells #[strV x, strV y] 46)) ((W.alloc (.cells #[strV x, strV y] 46)).alloc (.cells #[.slice (some ⟨W.heap.size, 0, none⟩) 1 1] 43)) := (Below.refl _ _).alloc (Nat.le_refl _) _
  have own : (W.alloc (.cells #[strV x, strV y] 46)).ownsRow w.heap.size 46 2 (.slice (some ⟨W.heap.size, 0, none⟩) 1 1) 1 [strV x, strV y] := World.ownsRow_lit W #[strV x, strV y] 1 (Nat.le_of_lt hl) (by simp [maxLen]) rfl
  refine ⟨⟨_, by omega, ?_, own_call own b2, ?_⟩, (hr.below b1).below b2, by omega⟩
  · have := heap_alloc_new (W.alloc (.cells #[strV x, strV y] 46)) (.cells #[.slice (some ⟨W.heap.size, 0, none⟩) 1 1] 43)
    simpa using this
  · exact (hb.trans (b1.mono hb.size)).trans (b2.mono (Nat.le_trans hb.size b1.size))

set_option maxRecDepth 100000 in
set_option maxHeartbeats 51200000 in
/-- spec.RuleParts. -/
theorem ruleParts_any (r : RuleD) (v : Value) (w : World) (hD : DayNms w) (hF : Freqs w) (hv : RuleIs w v r) (hT : TextR r) (hI : RuleIn r) :
    Calls Tryz.prog 29 #[v] w fun e w' => ∃ v', e = .returned v' ∧ w'.ownsRow w.heap.size 46 2 v' (pairsOf (optOf r)).length (flatP (pairsOf (optOf r))) ∧ Below w.heap.size w w' := by
  obtain ⟨v8, v9, v10, v11, v12, v13, v14, v15, v16, v17, rfl, hR⟩ := hv
  obtain ⟨a13, c13, rfl, hdy⟩ := hR.l13.form
  rw [ruleVal_eq]
  have hbox : RowAt (w.alloc (.cells (ruleCells r v8 v9 v10 v11 v12 (.slice a13 r.dy.length c13) v14 v15 v16 v17).toArray 26)) w.heap.size 26 (ruleCells r v8 v9 v10 v11 v12 (.slice a13 r.dy.length c13) v14 v15 v16 v17) := ⟨heap_alloc_new w _⟩
  obtain ⟨j, hj, hfq⟩ : ∃ j : Nat, j < 7 ∧ r.fq = (j : Int) := ⟨r.fq.toNat, by have := hT.fq; have := hI.fq; omega, by have := hI.fq; omega⟩
  obtain ⟨kw, hkw, hwk⟩ : ∃ k : Nat, k < 7 ∧ r.wk = (k : Int) := ⟨r.wk.toNat, by have := hT.wk; omega, by have := hT.wk; omega⟩
  have k0 : (0 : Int) ≤ (kw : Int) := by omega
  have k7 : (kw : Int) < 7 := by omega
  obtain ⟨xs, hxs⟩ : ∃ xs, xs = ruleCells r v8 v9 v10 v11 v12 (.slice a13 r.dy.length c13) v14 v15 v16 v17 := ⟨_, rfl⟩
  have X0 : Hid (xs[0]? = some (.int .u8 j)) := Lib.hid (by rw [hxs]; show some (Value.int .u8 r.fq) = _; rw [hfq])
  have X3 : Hid (xs[3]? = some (.int .i64 r.iv)) := Lib.hid (by rw [hxs]; rfl)
  have X4 : Hid (xs[4]? = some (.int .i64 kw)) := Lib.hid (by rw [hxs]; show some (Value.int .i64 r.wk) = _; rw [hwk])
  have X5 : Hid (xs[5]? = some (.int .i64 r.ct)) := Lib.hid (by rw [hxs]; rfl)
  have X6 : Hid (xs[6]? = some (.bool r.hu)) := Lib.hid (by rw [hxs]; rfl)
  have X7 : Hid (xs[7]? = some (.int .i64 r.un)) := Lib.hid (by rw [hxs]; rfl)
  have X8 : Hid (xs[8]? = some v8) := Lib.hid (by rw [hxs]; rfl)
  have X9 : Hid (xs[9]? = some v9) := Lib.hid (by rw [hxs]; rfl)
  have X10 : Hid (xs[10]? = some v10) := Lib.hid (by rw [hxs]; rfl)
  have X11 : Hid (xs[11]? = some v11) := Lib.hid (by rw [hxs]; rfl)
  have X12 : Hid (xs[12]? = some v12) := Lib.hid (by rw [hxs]; rfl)
  have X14 : Hid (xs[14]? = some v14) := Lib.hid (by rw [hxs]; rfl)
  have X15 : Hid (xs[15]? = some v15) := Lib.hid (by rw [hxs]; rfl)
  have X16 : Hid (xs[16]? = some v16) := Lib.hid (by rw [hxs]; rfl)
  have X17 : Hid (xs[17]? = some v17) := Lib.hid (by rw [hxs]; rfl)
  have X13 : Hid (xs[13]? = some (.slice a13 r.dy.length c13)) := Lib.hid (by rw [hxs]; rfl)
  rw [← hxs] at hbox ⊢
  have hal : Below w.heap.size w (w.alloc (.cells xs.toArray 26)) := (Below.refl _ _).alloc (Nat.le_refl _) _
  have hstart := Lib.hid (rp_start w (w.alloc (.cells xs.toArray 26)) xs [70, 82, 69, 81] (freqL j) hal hbox)
  have hn := optN_of hT hI
  have H47 := Lib.hid (freqNameS_any j hj (w.alloc (.cells xs.toArray 26)) (hF.below hal))
  have HW : Hid (∀ w1, Below w.heap.size w w1 → w1.cell? ⟨0, kw, none⟩ = some (.string (mkS (dayL kw)))) := Lib.hid (fun w1 hb => ((hD.below hb).dn kw hkw).trans (by rw [dayL_nm]))
  have HD := Lib.hid hD
  have c0 : Hid (chain (optOf r) 0 = [([70, 82, 69, 81], freqL j)]) := Lib.hid (by have h : prP (optOf r) 0 = [(keyNm 0, valL (optOf r) 0)] := if_pos rfl; show prP (optOf r) 0 = _; rw [h]; show [(keyNm 0, freqL r.fq.toNat)] = _; rw [hfq]; rfl)
  have HV3 : Hid (valL (optOf r) 3 = dayL kw) := Lib.hid (by show dayStr r.wk.toNat 0 = _; rw [hwk, Int.toNat_natCast]; rfl)
  have HB5 : Hid (presB (optOf r) 5 = (r.hu && (r.un != 0))) := Lib.hid (by
    show (!isZ ((if r.hu = true then r.un else 0), 0)) = _
    rw [isZ_zero]
    cases r.hu <;> simp)
  have HV5 : Hid (r.hu = true → valL (optOf r) 5 = stampS r.un) := Lib.hid (fun h => by show stampS (if r.hu = true then r.un else 0) = _; rw [if_pos h])
  have HP3 : Hid (presB (optOf r) 3 = ((kw : Int) != 0)) := Lib.hid (by show (!(r.wk == 0 && (0 : Int) == 0)) = _; rw [hwk]; cases h : ((kw : Int) == 0) <;> simp [bne, h])
  have HP2 : Hid (presB (optOf r) 2 = (r.iv != 0)) := Lib.hid rfl
  have HP4 : Hid (presB (optOf r) 4 = (r.ct != 0)) := Lib.hid rfl
  have HP11 : Hid (presB (optOf r) 11 = decide (0 < r.dy.length)) := Lib.hid (by
    show (!r.dy.isEmpty) = _
    cases r.dy <;> simp)
  have HL := Lib.hid (fun k => chain_len (optOf r) k)
  have HDY := Lib.hid hdy
  have HR := Lib.hid hR
  have HI := Lib.hid hI
  have HT := Lib.hid hT
  have HN := Lib.hid hn
  clear hbox hal hdy hR hI hT hn hxs hfq hwk hD hF
  go_enter Tryz.func29, Tryz.ntmps29
  go_upto_region 1 with fail
  have hc := (Lib.hid (heap_alloc_new w (.cells xs.toArray 26)))
  have hc0 : (w.alloc (.cells xs.toArray 26)).cell? ⟨w.heap.size, 0, none⟩ = some (.int .u8 j) := by
    have : RowAt (w.alloc (.cells xs.toArray 26)) w.heap.size 26 xs := ⟨heap_alloc_new w _⟩
    exact this.cell 0 X0.out
  go_cut [3] from 8 to 12 (fun s3 wx => ∃ L, s3 = .pointer (some ⟨L, 0, none⟩) ∧ RP w L xs (chain (optOf r) 0) wx)
  case first =>
    go_wp2_with (go_at_call 47; go_must (refine H47.out.mono ?_; rintro e w1 ⟨rfl, rfl⟩))
    go_meet
    refine ⟨w.heap.size + 2, ?_, ?_⟩
    · rfl
    · rw [c0.out]
      have := hstart.out
      rw [show (w.alloc (.cells xs.toArray 26)).heap.size = w.heap.size + 1 by simp] at this
      exact this
  case rest =>
  obtain ⟨L, rfl, hrp⟩ := hcut
  clear hc hc0 hstart H47
  have hc3 := hrp.2.1.cell 3 X3.out
  go_upto_if 15 with fail
  clear hc3
  generalize hbb : (r.iv != 0) = b15
  have HBB : Hid (presB (optOf r) 2 = b15) := Lib.hid (HP2.out.trans hbb)
  clear hbb
  -- part 2
  go_cut [3] from 16 to 22 (fun s3 wx => s3 = .pointer (some ⟨L, 0, none⟩) ∧ RP w L xs (chain (optOf r) 1) wx)
  case first =>
    cases b15 with
    | false =>
      go_wp2
      go_meet
      exact ⟨rfl, by rw [chain_nil 0 HBB.out]; exact hrp⟩
    | true =>
      have HROW := Lib.hid hrp.2.1
      have hne : Hid (w.heap.size ≠ L) := Lib.hid (by have := hrp.2.2; omega)
      have HRP := Lib.hid hrp
      obtain ⟨v, hpv⟩ := hrp.1
      have HS := Lib.hid hpv
      have HP : Hid ((chain (optOf r) 0).length ≤ 1000) := Lib.hid (Nat.le_trans (HL.out 0) (by decide))
      clear hrp hpv
      have HC := Lib.hid (fun w1 => number_any r.iv w1 HI.out.iv)
      go_upto_region 3 with fail
      refine wp_region_table (β := Nat × Value) (fun b => #[.agg xs.toArray, .pointer (some ⟨w.heap.size, 0, none⟩), .slice none 0 0, .pointer (some ⟨L, 0, none⟩), undef, undef, undef, undef, u8, u9, u10, u11, u12, .pointer (some ⟨w.heap.size, 3, none⟩), .int .i64 r.iv, .bool true, v, .pointer (some ⟨w.heap.size, 3, none⟩), .int .i64 r.iv, .string (mkS (Lib.itoa r.iv)), .agg #[.string ⟨#[73, 78, 84, 69, 82, 86, 65, 76]⟩, .string (mkS (Lib.itoa r.iv))], .slice (some ⟨b.1, 0, none⟩) 1 1, b.2, undef, undef, undef, undef, undef, undef, undef, undef, undef, undef, undef, undef, undef, undef, undef, undef, undef, undef, undef, undef, undef, undef, undef, undef, undef, undef, undef, undef, undef, undef, undef, undef, undef, undef, undef, undef, undef, undef, undef, undef, undef, undef, undef, undef, undef, undef, undef, undef, undef, undef, undef, undef, undef, undef, undef, undef, undef, undef, undef, undef, undef, undef, undef, undef, undef, undef, undef, undef, undef, undef, undef, undef, undef, undef, undef, undef, undef, undef, undef, undef, undef, undef, undef, undef, undef, undef, undef, undef, undef, undef, undef, undef, undef, undef, undef, undef, undef, undef, undef]) (KR w wc L v (chain (optOf r) 0) (keyNm 2, Lib.itoa r.iv) 0 5 6 7) 122 (fun _ => rfl) rfl (by kernel_rfl) (0, .slice none 0 0) rfl [16, 17, 18, 19, 20, 21, 22] (by kernel_rfl) (by kernel_rfl) (KR.start (drew_PSt HS.out) (.of (Below.refl _ _).drew) (none_listed _)) ?hs ?hdone
      case hs =>
        refine ⟨StepF.of (fun b listed w1 hB hf hdep K' Q' hK' => ?_), ?_⟩
        · have hcx := cell_of_one (hB.cell0 (hB.notS hf))
          clear hf hdep
          go_simp
          refine hK'.out _ _ ⟨rfl, b, fun _ _ => rfl, fun d e => (by cases e; rfl), hB.other (by decide) (by decide) (by decide)⟩
        refine ⟨StepF.of (fun b listed w1 hB hf hdep K' Q' hK' => ?_), ?_⟩
        · clear hf hdep
          go_simp
          refine hK'.out _ _ ⟨rfl, b, fun _ _ => rfl, fun d e => (by cases e; rfl), hB.other (by decide) (by decide) (by decide)⟩
        refine ⟨StepF.of (fun b listed w1 hB hf hdep K' Q' hK' => ?_), ?_⟩
        · clear hf hdep
          have hcx := (hB.kept.row HROW.out (by decide) hne.out).cell 3 X3.out
          go_simp
          refine hK'.out _ _ ⟨rfl, b, fun _ _ => rfl, fun d e => (by cases e; rfl), hB.other (by decide) (by decide) (by decide)⟩
        refine ⟨StepF.of (fun b listed w1 hB hf hdep K' Q' hK' => ?_), ?_⟩
        · clear hf hdep
          go_simp
          go_at_call 63
          refine (HC.out _).mono ?_
          rintro e w2 ⟨rfl, hb2⟩
          try dsimp only
          refine hK'.out _ _ ⟨rfl, b, fun _ _ => rfl, fun d e => (by cases e; rfl), (hB.call hb2).other (by decide) (by decide) (by decide)⟩
        refine ⟨StepF.of (fun b listed w1 hB hf hdep K' Q' hK' => ?_), ?_⟩
        · clear hf hdep
          go_simp
          refine hK'.out _ _ ⟨rfl, b, fun _ _ => rfl, fun d e => (by cases e; rfl), hB.other (by decide) (by decide) (by decide)⟩
        refine ⟨StepF.of (fun b listed w1 hB hf hdep K' Q' hK' => ?_), ?_⟩
        · clear hdep
          go_simp
          refine hK'.out _ _ ⟨rfl, (w1.heap.size, b.2), fun k e => getD_upd2 (d := 21) (v := .slice (some ⟨w1.heap.size, 0, none⟩) 1 1) rfl e, fun d e => (by cases e; rfl), hB.made hf (by decide) (by decide)⟩
        refine ⟨StepF.of (fun b listed w1 hB hf hdep K' Q' hK' => ?_), ?_⟩
        · have hl := hdep ⟨0, .data⟩ (by simp) rfl
          have hbl := hdep ⟨5, .data⟩ (by simp) rfl
          refine step_part (.tmp 16) (.tmp 21) hB hf hbl HP.out rfl rfl rfl (fun v1 w2 h1 h2 => ?_)
          exact hK'.out _ _ ⟨rfl, (b.1, v1), fun k e => getD_upd2 (d := 22) (v := v1) rfl e, fun d e => (by cases e; rfl), hB.appended hl hbl hf (by decide) (by decide) (by decide) h1 h2⟩
        refine ⟨StepF.of (fun b listed w1 hB hf hdep K' Q' hK' => ?_), ?_⟩
        · have hA := hdep ⟨6, .data⟩ (by simp) rfl
          obtain ⟨b1, b2⟩ := b
          obtain ⟨g, cc, hbv⟩ := hB.form hA
          have hbv : b2 = _ := hbv
          subst hbv
          have hc0 := hB.cell0 (by rw [hf]; simp)
          have hcx := cell_of_one hc0
          have hfx := free_of_one hc0
          have hst := hB.stored hA hf (by decide)
          clear hdep
          go_simp
          refine hK'.out _ _ ⟨rfl, (b1, .slice (some ⟨g, 0, none⟩) ((chain (optOf r) 0).length + 1) cc), fun _ _ => rfl, fun d e => (by cases e), hst⟩
        trivial
      case hdone =>
        intro b listed w1 hK hall
        have hd := hK.done (hall 7 (by decide))
        have hrp2 := HRP.out.next hd.2 ⟨_, hd.1⟩
        clear hK hall hd
        go_wp2
        go_meet
        exact ⟨rfl, by rw [chain_cons 0 HBB.out]; exact hrp2⟩
  case rest =>
  obtain ⟨rfl, hrp⟩ := hcut
  clear HBB
  have hc4 := hrp.2.1.cell 4 X4.out
  go_upto_if 25 with fail
  clear hc4
  generalize hbb : ((kw : Int) != 0) = b25
  have HBB : Hid (presB (optOf r) 3 = b25) := Lib.hid (HP3.out.trans hbb)
  clear hbb
  -- part 3
  go_cut [3] from 26 to 33 (fun s3 wx => s3 = .pointer (some ⟨L, 0, none⟩) ∧ RP w L xs (chain (optOf r) 2) wx)
  case first =>
    cases b25 with
    | false =>
      go_wp2
      go_meet
      exact ⟨rfl, by rw [chain_nil 1 HBB.out]; exact hrp⟩
    | true =>
      have HROW := Lib.hid hrp.2.1
      have hne : Hid (w.heap.size ≠ L) := Lib.hid (by have := hrp.2.2; omega)
      have HRP := Lib.hid hrp
      obtain ⟨v, hpv⟩ := hrp.1
      have HS := Lib.hid hpv
      have HP : Hid ((chain (optOf r) 1).length ≤ 1000) := Lib.hid (Nat.le_trans (HL.out 1) (by decide))
      clear hrp hpv
      go_upto_region 5 with fail
      refine wp_region_table (β := Nat × Value) (fun b => #[.agg xs.toArray, .pointer (some ⟨w.heap.size, 0, none⟩), .slice none 0 0, .pointer (some ⟨L, 0, none⟩), undef, undef, undef, undef, u8, u9, u10, u11, u12, .pointer (some ⟨w.heap.size, 3, none⟩), .int .i64 r.iv, .bool b15, u16, u17, u18, u19, u20, u21, u22, .pointer (some ⟨w.heap.size, 4, none⟩), .int .i64 kw, .bool true, v, .pointer (some ⟨w.heap.size, 4, none⟩), .int .i64 kw, .pointer (some ⟨0, kw, none⟩), .string (mkS (dayL kw)), .agg #[.string ⟨#[87, 75, 83, 84]⟩, .string (mkS (dayL kw))], .slice (some ⟨b.1, 0, none⟩) 1 1, b.2, undef, undef, undef, undef, undef, undef, undef, undef, undef, undef, undef, undef, undef, undef, undef, undef, undef, undef, undef, undef, undef, undef, undef, undef, undef, undef, undef, undef, undef, undef, undef, undef, undef, undef, undef, undef, undef, undef, undef, undef, undef, undef, undef, undef, undef, undef, undef, undef, undef, undef, undef, undef, undef, undef, undef, undef, undef, undef, undef, undef, undef, undef, undef, undef, undef, undef, undef, undef, undef, undef, undef, undef, undef, undef, undef, undef, undef, undef, undef, undef, undef, undef, undef, undef, undef, undef, undef, undef]) (KR w wc L v (chain (optOf r) 1) (keyNm 3, dayL kw) 0 6 7 8) 122 (fun _ => rfl) rfl (by kernel_rfl) (0, .slice none 0 0) rfl [26, 27, 28, 29, 30, 31, 32, 33] (by kernel_rfl) (by kernel_rfl) (KR.start (drew_PSt HS.out) (.of (Below.refl _ _).drew) (none_listed _)) ?hs ?hdone
      case hs =>
        refine ⟨StepF.of (fun b listed w1 hB hf hdep K' Q' hK' => ?_), ?_⟩
        · have hcx := cell_of_one (hB.cell0 (hB.notS hf))
          clear hf hdep
          go_simp
          refine hK'.out _ _ ⟨rfl, b, fun _ _ => rfl, fun d e => (by cases e; rfl), hB.other (by decide) (by decide) (by decide)⟩
        refine ⟨StepF.of (fun b listed w1 hB hf hdep K' Q' hK' => ?_), ?_⟩
        · clear hf hdep
          go_simp
          refine hK'.out _ _ ⟨rfl, b, fun _ _ => rfl, fun d e => (by cases e; rfl), hB.other (by decide) (by decide) (by decide)⟩
        refine ⟨StepF.of (fun b listed w1 hB hf hdep K' Q' hK' => ?_), ?_⟩
        · clear hf hdep
          have hcx := (hB.kept.row HROW.out (by decide) hne.out).cell 4 X4.out
          go_simp
          refine hK'.out _ _ ⟨rfl, b, fun _ _ => rfl, fun d e => (by cases e; rfl), hB.other (by decide) (by decide) (by decide)⟩
        refine ⟨StepF.of (fun b listed w1 hB hf hdep K' Q' hK' => ?_), ?_⟩
        · clear hf hdep
          go_simp
          refine hK'.out _ _ ⟨rfl, b, fun _ _ => rfl, fun d e => (by cases e; rfl), hB.other (by decide) (by decide) (by decide)⟩
        refine ⟨StepF.of (fun b listed w1 hB hf hdep K' Q' hK' => ?_), ?_⟩
        · clear hf hdep
          have hcx := HW.out _ hB.hb
          go_simp
          refine hK'.out _ _ ⟨rfl, b, fun _ _ => rfl, fun d e => (by cases e; rfl), hB.other (by decide) (by decide) (by decide)⟩
        refine ⟨StepF.of (fun b listed w1 hB hf hdep K' Q' hK' => ?_), ?_⟩
        · clear hf hdep
          go_simp
          refine hK'.out _ _ ⟨rfl, b, fun _ _ => rfl, fun d e => (by cases e; rfl), hB.other (by decide) (by decide) (by decide)⟩
        refine ⟨StepF.of (fun b listed w1 hB hf hdep K' Q' hK' => ?_), ?_⟩
        · clear hdep
          go_simp
          refine hK'.out _ _ ⟨rfl, (w1.heap.size, b.2), fun k e => getD_upd2 (d := 32) (v := .slice (some ⟨w1.heap.size, 0, none⟩) 1 1) rfl e, fun d e => (by cases e; rfl), hB.made hf (by decide) (by decide)⟩
        refine ⟨StepF.of (fun b listed w1 hB hf hdep K' Q' hK' => ?_), ?_⟩
        · have hl := hdep ⟨0, .data⟩ (by simp) rfl
          have hbl := hdep ⟨6, .data⟩ (by simp) rfl
          refine step_part (.tmp 26) (.tmp 32) hB hf hbl HP.out rfl rfl rfl (fun v1 w2 h1 h2 => ?_)
          exact hK'.out _ _ ⟨rfl, (b.1, v1), fun k e => getD_upd2 (d := 33) (v := v1) rfl e, fun d e => (by cases e; rfl), hB.appended hl hbl hf (by decide) (by decide) (by decide) h1 h2⟩
        refine ⟨StepF.of (fun b listed w1 hB hf hdep K' Q' hK' => ?_), ?_⟩
        · have hA := hdep ⟨7, .data⟩ (by simp) rfl
          obtain ⟨b1, b2⟩ := b
          obtain ⟨g, cc, hbv⟩ := hB.form hA
          have hbv : b2 = _ := hbv
          subst hbv
          have hc0 := hB.cell0 (by rw [hf]; simp)
          have hcx := cell_of_one hc0
          have hfx := free_of_one hc0
          have hst := hB.stored hA hf (by decide)
          clear hdep
          go_simp
          refine hK'.out _ _ ⟨rfl, (b1, .slice (some ⟨g, 0, none⟩) ((chain (optOf r) 1).length + 1) cc), fun _ _ => rfl, fun d e => (by cases e), hst⟩
        trivial
      case hdone =>
        intro b listed w1 hK hall
        have hd := hK.done (hall 8 (by decide))
        have hrp2 := HRP.out.next hd.2 ⟨_, hd.1⟩
        clear hK hall hd
        go_wp2
        go_meet
        exact ⟨rfl, by rw [chain_cons 1 HBB.out, HV3.out]; exact hrp2⟩
  case rest =>
  obtain ⟨rfl, hrp⟩ := hcut
  clear HBB
  have hc5 := hrp.2.1.cell 5 X5.out
  go_upto_if 36 with fail
  clear hc5
  generalize hbb : (r.ct != 0) = b36
  have HBB : Hid (presB (optOf r) 4 = b36) := Lib.hid (HP4.out.trans hbb)
  clear hbb
  -- part 4
  go_cut [3] from 37 to 43 (fun s3 wx => s3 = .pointer (some ⟨L, 0, none⟩) ∧ RP w L xs (chain (optOf r) 3) wx)
  case first =>
    cases b36 with
    | false =>
      go_wp2
      go_meet
      exact ⟨rfl, by rw [chain_nil 2 HBB.out]; exact hrp⟩
    | true =>
      have HROW := Lib.hid hrp.2.1
      have hne : Hid (w.heap.size ≠ L) := Lib.hid (by have := hrp.2.2; omega)
      have HRP := Lib.hid hrp
      obtain ⟨v, hpv⟩ := hrp.1
      have HS := Lib.hid hpv
      have HP : Hid ((chain (optOf r) 2).length ≤ 1000) := Lib.hid (Nat.le_trans (HL.out 2) (by decide))
      clear hrp hpv
      have HC := Lib.hid (fun w1 => number_any r.ct w1 HI.out.ct)
      go_upto_region 7 with fail
      refine wp_region_table (β := Nat × Value) (fun b => #[.agg xs.toArray, .pointer (some ⟨w.heap.size, 0, none⟩), .slice none 0 0, .pointer (some ⟨L, 0, none⟩), undef, undef, undef, undef, u8, u9, u10, u11, u12, .pointer (some ⟨w.heap.size, 3, none⟩), .int .i64 r.iv, .bool b15, u16, u17, u18, u19, u20, u21, u22, .pointer (some ⟨w.heap.size, 4, none⟩), .int .i64 kw, .bool b25, u26, u27, u28, u29, u30, u31, u32, u33, .pointer (some ⟨w.heap.size, 5, none⟩), .int .i64 r.ct, .bool true, v, .pointer (some ⟨w.heap.size, 5, none⟩), .int .i64 r.ct, .string (mkS (Lib.itoa r.ct)), .agg #[.string ⟨#[67, 79, 85, 78, 84]⟩, .string (mkS (Lib.itoa r.ct))], .slice (some ⟨b.1, 0, none⟩) 1 1, b.2, undef, undef, undef, undef, undef, undef, undef, undef, undef, undef, undef, undef, undef, undef, undef, undef, undef, undef, undef, undef, undef, undef, undef, undef, undef, undef, undef, undef, undef, undef, undef, undef, undef, undef, undef, undef, undef, undef, undef, undef, undef, undef, undef, undef, undef, undef, undef, undef, undef, undef, undef, undef, undef, undef, undef, undef, undef, undef, undef, undef, undef, undef, undef, undef, undef, undef, undef, undef, undef, undef, undef, undef, undef, undef, undef, undef, undef, undef]) (KR w wc L v (chain (optOf r) 2) (keyNm 4, Lib.itoa r.ct) 0 5 6 7) 122 (fun _ => rfl) rfl (by kernel_rfl) (0, .slice none 0 0) rfl [37, 38, 39, 40, 41, 42, 43] (by kernel_rfl) (by kernel_rfl) (KR.start (drew_PSt HS.out) (.of (Below.refl _ _).drew) (none_listed _)) ?hs ?hdone
      case hs =>
        refine ⟨StepF.of (fun b listed w1 hB hf hdep K' Q' hK' => ?_), ?_⟩
        · have hcx := cell_of_one (hB.cell0 (hB.notS hf))
          clear hf hdep
          go_simp
          refine hK'.out _ _ ⟨rfl, b, fun _ _ => rfl, fun d e => (by cases e; rfl), hB.other (by decide) (by decide) (by decide)⟩
        refine ⟨StepF.of (fun b listed w1 hB hf hdep K' Q' hK' => ?_), ?_⟩
        · clear hf hdep
          go_simp
          refine hK'.out _ _ ⟨rfl, b, fun _ _ => rfl, fun d e => (by cases e; rfl), hB.other (by decide) (by decide) (by decide)⟩
        refine ⟨StepF.of (fun b listed w1 hB hf hdep K' Q' hK' => ?_), ?_⟩
        · clear hf hdep
          have hcx := (hB.kept.row HROW.out (by decide) hne.out).cell 5 X5.out
          go_simp
          refine hK'.out _ _ ⟨rfl, b, fun _ _ => rfl, fun d e => (by cases e; rfl), hB.other (by decide) (by decide) (by decide)⟩
        refine ⟨StepF.of (fun b listed w1 hB hf hdep K' Q' hK' => ?_), ?_⟩
        · clear hf hdep
          go_simp
          go_at_call 63
          refine (HC.out _).mono ?_
          rintro e w2 ⟨rfl, hb2⟩
          try dsimp only
          refine hK'.out _ _ ⟨rfl, b, fun _ _ => rfl, fun d e => (by cases e; rfl), (hB.call hb2).other (by decide) (by decide) (by decide)⟩
        refine ⟨StepF.of (fun b listed w1 hB hf hdep K' Q' hK' => ?_), ?_⟩
        · clear hf hdep
          go_simp
          refine hK'.out _ _ ⟨rfl, b, fun _ _ => rfl, fun d e => (by cases e; rfl), hB.other (by decide) (by decide) (by decide)⟩
        refine ⟨StepF.of (fun b listed w1 hB hf hdep K' Q' hK' => ?_), ?_⟩
        · clear hdep
          go_simp
          refine hK'.out _ _ ⟨rfl, (w1.heap.size, b.2), fun k e => getD_upd2 (d := 42) (v := .slice (some ⟨w1.heap.size, 0, none⟩) 1 1) rfl e, fun d e => (by cases e; rfl), hB.made hf (by decide) (by decide)⟩
        refine ⟨StepF.of (fun b listed w1 hB hf hdep K' Q' hK' => ?_), ?_⟩
        · have hl := hdep ⟨0, .data⟩ (by simp) rfl
          have hbl := hdep ⟨5, .data⟩ (by simp) rfl
          refine step_part (.tmp 37) (.tmp 42) hB hf hbl HP.out rfl rfl rfl (fun v1 w2 h1 h2 => ?_)
          exact hK'.out _ _ ⟨rfl, (b.1, v1), fun k e => getD_upd2 (d := 43) (v := v1) rfl e, fun d e => (by cases e; rfl), hB.appended hl hbl hf (by decide) (by decide) (by decide) h1 h2⟩
        refine ⟨StepF.of (fun b listed w1 hB hf hdep K' Q' hK' => ?_), ?_⟩
        · have hA := hdep ⟨6, .data⟩ (by simp) rfl
          obtain ⟨b1, b2⟩ := b
          obtain ⟨g, cc, hbv⟩ := hB.form hA
          have hbv : b2 = _ := hbv
          subst hbv
          have hc0 := hB.cell0 (by rw [hf]; simp)
          have hcx := cell_of_one hc0
          have hfx := free_of_one hc0
          have hst := hB.stored hA hf (by decide)
          clear hdep
          go_simp
          refine hK'.out _ _ ⟨rfl, (b1, .slice (some ⟨g, 0, none⟩) ((chain (optOf r) 2).length + 1) cc), fun _ _ => rfl, fun d e => (by cases e), hst⟩
        trivial
      case hdone =>
        intro b listed w1 hK hall
        have hd := hK.done (hall 7 (by decide))
        have hrp2 := HRP.out.next hd.2 ⟨_, hd.1⟩
        clear hK hall hd
        go_wp2
        go_meet
        exact ⟨rfl, by rw [chain_cons 2 HBB.out]; exact hrp2⟩
  case rest =>
  obtain ⟨rfl, hrp⟩ := hcut
  clear HBB
  have hc6 := hrp.2.1.cell 6 X6.out
  have hc7 := hrp.2.1.cell 7 X7.out
  go_upto_region 8 with fail
  generalize hbb : presB (optOf r) 5 = b50
  rw [hbb] at HB5
  have HBB := Lib.hid hbb
  clear hbb
  go_cut [50] from 44 to 50 (fun s wx => s = .bool b50 ∧ wx = wc)
  case first =>
    cases hhu : r.hu with
    | false =>
      rw [hhu] at hc6 HB5
      go_wp2
      go_meet
      exact ⟨by rw [HB5.out]; rfl, rfl⟩
    | true =>
      rw [hhu] at hc6 HB5
      go_wp2
      go_meet
      exact ⟨by rw [HB5.out]; rfl, rfl⟩
  case rest =>
  obtain ⟨rfl, rfl⟩ := hcut
  clear hc6 hc7
  have HHU : Hid (b50 = true → r.hu = true) := Lib.hid (fun h => by have := HB5.out; rw [h] at this; cases hh : r.hu <;> simp [hh] at this ⊢)
  go_upto_if 50 with fail
  -- part 5
  go_cut [3] from 51 to 57 (fun s3 wx => s3 = .pointer (some ⟨L, 0, none⟩) ∧ RP w L xs (chain (optOf r) 4) wx)
  case first =>
    cases b50 with
    | false =>
      go_wp2
      go_meet
      exact ⟨rfl, by rw [chain_nil 3 HBB.out]; exact hrp⟩
    | true =>
      have HROW := Lib.hid hrp.2.1
      have hne : Hid (w.heap.size ≠ L) := Lib.hid (by have := hrp.2.2; omega)
      have HRP := Lib.hid hrp
      obtain ⟨v, hpv⟩ := hrp.1
      have HS := Lib.hid hpv
      have HP : Hid ((chain (optOf r) 3).length ≤ 1000) := Lib.hid (Nat.le_trans (HL.out 3) (by decide))
      clear hrp hpv
      have HC := Lib.hid (fun w1 => textTime_any r.un w1 HT.out.un)
      go_upto_region 9 with fail
      refine wp_region_table (β := Nat × Value) (fun b => #[.agg xs.toArray, .pointer (some ⟨w.heap.size, 0, none⟩), .slice none 0 0, .pointer (some ⟨L, 0, none⟩), undef, undef, undef, undef, u8, u9, u10, u11, u12, .pointer (some ⟨w.heap.size, 3, none⟩), .int .i64 r.iv, .bool b15, u16, u17, u18, u19, u20, u21, u22, .pointer (some ⟨w.heap.size, 4, none⟩), .int .i64 kw, .bool b25, u26, u27, u28, u29, u30, u31, u32, u33, .pointer (some ⟨w.heap.size, 5, none⟩), .int .i64 r.ct, .bool b36, u37, u38, u39, u40, u41, u42, u43, u44, u45, u46, u47, u48, u49, .bool true, v, .pointer (some ⟨w.heap.size, 7, none⟩), .int .i64 r.un, .string (mkS (stampS r.un)), .agg #[.string ⟨#[85, 78, 84, 73, 76]⟩, .string (mkS (stampS r.un))], .slice (some ⟨b.1, 0, none⟩) 1 1, b.2, undef, undef, undef, undef, undef, undef, undef, undef, undef, undef, undef, undef, undef, undef, undef, undef, undef, undef, undef, undef, undef, undef, undef, undef, undef, undef, undef, undef, undef, undef, undef, undef, undef, undef, undef, undef, undef, undef, undef, undef, undef, undef, undef, undef, undef, undef, undef, undef, undef, undef, undef, undef, undef, undef, undef, undef, undef, undef, undef, undef, undef, undef, undef, undef]) (KR w wc L v (chain (optOf r) 3) (keyNm 5, stampS r.un) 0 5 6 7) 122 (fun _ => rfl) rfl (by kernel_rfl) (0, .slice none 0 0) rfl [51, 52, 53, 54, 55, 56, 57] (by kernel_rfl) (by kernel_rfl) (KR.start (drew_PSt HS.out) (.of (Below.refl _ _).drew) (none_listed _)) ?hs ?hdone
      case hs =>
        refine ⟨StepF.of (fun b listed w1 hB hf hdep K' Q' hK' => ?_), ?_⟩
        · have hcx := cell_of_one (hB.cell0 (hB.notS hf))
          clear hf hdep
          go_simp
          refine hK'.out _ _ ⟨rfl, b, fun _ _ => rfl, fun d e => (by cases e; rfl), hB.other (by decide) (by decide) (by decide)⟩
        refine ⟨StepF.of (fun b listed w1 hB hf hdep K' Q' hK' => ?_), ?_⟩
        · clear hf hdep
          go_simp
          refine hK'.out _ _ ⟨rfl, b, fun _ _ => rfl, fun d e => (by cases e; rfl), hB.other (by decide) (by decide) (by decide)⟩
        refine ⟨StepF.of (fun b listed w1 hB hf hdep K' Q' hK' => ?_), ?_⟩
        · clear hf hdep
          have hcx := (hB.kept.row HROW.out (by decide) hne.out).cell 7 X7.out
          go_simp
          refine hK'.out _ _ ⟨rfl, b, fun _ _ => rfl, fun d e => (by cases e; rfl), hB.other (by decide) (by decide) (by decide)⟩
        refine ⟨StepF.of (fun b listed w1 hB hf hdep K' Q' hK' => ?_), ?_⟩
        · clear hf hdep
          go_simp
          go_at_call 33
          refine (HC.out _).mono ?_
          rintro e w2 ⟨rfl, hb2⟩
          try dsimp only
          refine hK'.out _ _ ⟨rfl, b, fun _ _ => rfl, fun d e => (by cases e; rfl), (hB.call hb2).other (by decide) (by decide) (by decide)⟩
        refine ⟨StepF.of (fun b listed w1 hB hf hdep K' Q' hK' => ?_), ?_⟩
        · clear hf hdep
          go_simp
          refine hK'.out _ _ ⟨rfl, b, fun _ _ => rfl, fun d e => (by cases e; rfl), hB.other (by decide) (by decide) (by decide)⟩
        refine ⟨StepF.of (fun b listed w1 hB hf hdep K' Q' hK' => ?_), ?_⟩
        · clear hdep
          go_simp
          refine hK'.out _ _ ⟨rfl, (w1.heap.size, b.2), fun k e => getD_upd2 (d := 56) (v := .slice (some ⟨w1.heap.size, 0, none⟩) 1 1) rfl e, fun d e => (by cases e; rfl), hB.made hf (by decide) (by decide)⟩
        refine ⟨StepF.of (fun b listed w1 hB hf hdep K' Q' hK' => ?_), ?_⟩
        · have hl := hdep ⟨0, .data⟩ (by simp) rfl
          have hbl := hdep ⟨5, .data⟩ (by simp) rfl
          refine step_part (.tmp 51) (.tmp 56) hB hf hbl HP.out rfl rfl rfl (fun v1 w2 h1 h2 => ?_)
          exact hK'.out _ _ ⟨rfl, (b.1, v1), fun k e => getD_upd2 (d := 57) (v := v1) rfl e, fun d e => (by cases e; rfl), hB.appended hl hbl hf (by decide) (by decide) (by decide) h1 h2⟩
        refine ⟨StepF.of (fun b listed w1 hB hf hdep K' Q' hK' => ?_), ?_⟩
        · have hA := hdep ⟨6, .data⟩ (by simp) rfl
          obtain ⟨b1, b2⟩ := b
          obtain ⟨g, cc, hbv⟩ := hB.form hA
          have hbv : b2 = _ := hbv
          subst hbv
          have hc0 := hB.cell0 (by rw [hf]; simp)
          have hcx := cell_of_one hc0
          have hfx := free_of_one hc0
          have hst := hB.stored hA hf (by decide)
          clear hdep
          go_simp
          refine hK'.out _ _ ⟨rfl, (b1, .slice (some ⟨g, 0, none⟩) ((chain (optOf r) 3).length + 1) cc), fun _ _ => rfl, fun d e => (by cases e), hst⟩
        trivial
      case hdone =>
        intro b listed w1 hK hall
        have hd := hK.done (hall 7 (by decide))
        have hrp2 := HRP.out.next hd.2 ⟨_, hd.1⟩
        clear hK hall hd
        go_wp2
        go_meet
        exact ⟨rfl, by rw [chain_cons 3 HBB.out, HV5.out (HHU.out (by simp))]; exact hrp2⟩
  case rest =>
  obtain ⟨rfl, hrp⟩ := hcut
  clear HBB
  clear HHU HB5
  have hc := hrp.2.1.cell 8 X8.out
  have H : Hid (Calls Tryz.prog 64 #[.string ⟨#[66, 89, 83, 69, 84, 80, 79, 83]⟩, v8, .pointer (some ⟨L, 0, none⟩)] wc fun e w' => e = .returned (.tuple #[]) ∧ PS w L (chain (optOf r) 4 ++ intsQ (keyNm 6) r.sp) w' ∧ KeptR L wc w') := Lib.hid (app64_any w wc L (chain (optOf r) 4) (keyNm 6) r.sp v8 hrp.1 HR.out.l8 HI.out.sp (by have := HN.out.ok.sp.len; exact this) (Nat.le_trans (HL.out 4) (by decide)))
  go_upto_region 12 with (go_at_call 64; go_must (refine H.out.mono ?_; rintro e wn ⟨rfl, hps, hkr⟩))
  have hrp2 := hrp.next hkr hps
  rw [← chain_ints (o := optOf r) 4 r.sp rfl rfl] at hrp2
  clear hrp hps hkr hc H
  have hrp := hrp2
  clear hrp2
  obtain ⟨wd6, hwd⟩ : ∃ wd6 : World, wd6 = wn := ⟨_, rfl⟩
  subst hwd
  have hc := hrp.2.1.cell 9 X9.out
  have H : Hid (Calls Tryz.prog 64 #[.string ⟨#[66, 89, 77, 79, 78, 84, 72]⟩, v9, .pointer (some ⟨L, 0, none⟩)] wd6 fun e w' => e = .returned (.tuple #[]) ∧ PS w L (chain (optOf r) 5 ++ intsQ (keyNm 7) r.mo) w' ∧ KeptR L wd6 w') := Lib.hid (app64_any w wd6 L (chain (optOf r) 5) (keyNm 7) r.mo v9 hrp.1 HR.out.l9 HI.out.mo (by have := HN.out.ok.mo.len; exact this) (Nat.le_trans (HL.out 5) (by decide)))
  go_upto_region 13 with (go_at_call 64; go_must (refine H.out.mono ?_; rintro e wn ⟨rfl, hps, hkr⟩))
  have hrp2 := hrp.next hkr hps
  rw [← chain_ints (o := optOf r) 5 r.mo rfl rfl] at hrp2
  clear hrp hps hkr hc H
  have hrp := hrp2
  clear hrp2
  obtain ⟨wd7, hwd⟩ : ∃ wd7 : World, wd7 = wn := ⟨_, rfl⟩
  subst hwd
  have hc := hrp.2.1.cell 10 X10.out
  have H : Hid (Calls Tryz.prog 64 #[.string ⟨#[66, 89, 77, 79, 78, 84, 72, 68, 65, 89]⟩, v10, .pointer (some ⟨L, 0, none⟩)] wd7 fun e w' => e = .returned (.tuple #[]) ∧ PS w L (chain (optOf r) 6 ++ intsQ (keyNm 8) r.md) w' ∧ KeptR L wd7 w') := Lib.hid (app64_any w wd7 L (chain (optOf r) 6) (keyNm 8) r.md v10 hrp.1 HR.out.l10 HI.out.md (by have := HN.out.ok.md.len; exact this) (Nat.le_trans (HL.out 6) (by decide)))
  go_upto_region 14 with (go_at_call 64; go_must (refine H.out.mono ?_; rintro e wn ⟨rfl, hps, hkr⟩))
  have hrp2 := hrp.next hkr hps
  rw [← chain_ints (o := optOf r) 6 r.md rfl rfl] at hrp2
  clear hrp hps hkr hc H
  have hrp := hrp2
  clear hrp2
  obtain ⟨wd8, hwd⟩ : ∃ wd8 : World, wd8 = wn := ⟨_, rfl⟩
  subst hwd
  have hc := hrp.2.1.cell 11 X11.out
  have H : Hid (Calls Tryz.prog 64 #[.string ⟨#[66, 89, 89, 69, 65, 82, 68, 65, 89]⟩, v11, .pointer (some ⟨L, 0, none⟩)] wd8 fun e w' => e = .returned (.tuple #[]) ∧ PS w L (chain (optOf r) 7 ++ intsQ (keyNm 9) r.yd) w' ∧ KeptR L wd8 w') := Lib.hid (app64_any w wd8 L (chain (optOf r) 7) (keyNm 9) r.yd v11 hrp.1 HR.out.l11 HI.out.yd (by have := HN.out.ok.yd.len; exact this) (Nat.le_trans (HL.out 7) (by decide)))
  go_upto_region 15 with (go_at_call 64; go_must (refine H.out.mono ?_; rintro e wn ⟨rfl, hps, hkr⟩))
  have hrp2 := hrp.next hkr hps
  rw [← chain_ints (o := optOf r) 7 r.yd rfl rfl] at hrp2
  clear hrp hps hkr hc H
  have hrp := hrp2
  clear hrp2
  obtain ⟨wd9, hwd⟩ : ∃ wd9 : World, wd9 = wn := ⟨_, rfl⟩
  subst hwd
  have hc := hrp.2.1.cell 12 X12.out
  have H : Hid (Calls Tryz.prog 64 #[.string ⟨#[66, 89, 87, 69, 69, 75, 78, 79]⟩, v12, .pointer (some ⟨L, 0, none⟩)] wd9 fun e w' => e = .returned (.tuple #[]) ∧ PS w L (chain (optOf r) 8 ++ intsQ (keyNm 10) r.wn) w' ∧ KeptR L wd9 w') := Lib.hid (app64_any w wd9 L (chain (optOf r) 8) (keyNm 10) r.wn v12 hrp.1 HR.out.l12 HI.out.wn (by have := HN.out.ok.wn.len; exact this) (Nat.le_trans (HL.out 8) (by decide)))
  go_upto_region 16 with (go_at_call 64; go_must (refine H.out.mono ?_; rintro e wn ⟨rfl, hps, hkr⟩))
  have hrp2 := hrp.next hkr hps
  rw [← chain_ints (o := optOf r) 8 r.wn rfl rfl] at hrp2
  clear hrp hps hkr hc H
  have hrp := hrp2
  clear hrp2
  obtain ⟨wd10, hwd⟩ : ∃ wd10 : World, wd10 = wn := ⟨_, rfl⟩
  subst hwd
  have hc13 := hrp.2.1.cell 13 X13.out
  go_upto_if 82 with fail
  clear hc13
  generalize hbb : decide (0 < r.dy.length) = b82
  have HBB : Hid (presB (optOf r) 11 = b82) := Lib.hid (HP11.out.trans hbb)
  have HB8 := Lib.hid hbb
  clear hbb
  go_cut [3, 5, 6, 7] from 83 to 104 (fun s3 _ _ _ wx => s3 = .pointer (some ⟨L, 0, none⟩) ∧ RP w L xs (chain (optOf r) 10) wx)
  case first =>
    cases b82 with
    | false =>
      go_wp2
      go_meet
      exact ⟨rfl, by rw [chain_nil 9 HBB.out]; exact hrp⟩
    | true =>
      have hpos : 0 < r.dy.length := by simpa using HB8.out
      obtain ⟨g, gq, rfl, hdr⟩ : ∃ g gq, a13 = some ⟨g, gq, none⟩ ∧ DayRowQ w g gq r.dy := by
        rcases HDY.out with h | h
        · rw [h] at hpos; simp at hpos
        · exact h
      have HDR := Lib.hid hdr
      clear hdr HB8 hpos
      have hc13 := hrp.2.1.cell 13 X13.out
      have HRP := Lib.hid hrp
      have hrng := HT.out.dy
      have hin := HI.out.dy
      have hdl := HT.out.dl
      have hok : DaysOk r.dy := HN.out.ok.dy
      have HV11 : Hid (valL (optOf r) 11 = daysJ r.dy) := Lib.hid rfl
      generalize r.dy = ds at *
      have HRNG := Lib.hid hrng
      have HOK := Lib.hid hok
      have HIN := Lib.hid hin
      clear hrng hin hrp hok
      have HJL : Hid (∀ k, (daysJ (ds.take k)).length ≤ 24000) := Lib.hid (fun k => daysJ_len _ ⟨by have := HOK.out.len; rw [List.length_take]; omega, fun q hq => HOK.out.rng q (List.mem_of_mem_take hq)⟩)
      go_wp2
      go_loopw [5, 86] (fun s i wr => ∃ k : Nat, k ≤ ds.length ∧ s = .string (mkS (daysJ (ds.take k))) ∧ i = .int .i64 k ∧ Hid (Below wd10.heap.size wd10 wr)) (fun _ i _ => ds.length - (intOf i).toNat)
      case atStart => exact ⟨0, by omega, rfl, rfl, Lib.hid (Below.refl _ _)⟩
      case round =>
        obtain ⟨k, hk, rfl, rfl, HB⟩ := hrel
        have hbw : Hid (Below w.heap.size w wr) := Lib.hid (HRP.out.bl.trans (HB.out.mono HRP.out.bl.size))
        by_cases hlt : k < ds.length
        · obtain ⟨hcd, hcn⟩ := (HDR.out.below hbw.out).cell k ds[k] (by simp [hlt])
          have hr := HRNG.out _ (List.getElem_mem hlt)
          have hi := HIN.out _ (List.getElem_mem hlt)
          have hsn := daysJ_snoc ds k hlt
          have hxl := dayStr_len ds[k].1.toNat ds[k].2 hi
          generalize ds[k] = p at hcd hcn hr hi hsn hxl
          obtain ⟨d, n⟩ := p
          simp only at hcd hcn hr hi hsn hxl
          obtain ⟨m, hm, rfl⟩ : ∃ m : Nat, m < 7 ∧ d = (m : Int) := ⟨d.toNat, by omega, by omega⟩
          rw [Int.toNat_natCast] at hsn hxl
          have H37 := Lib.hid (fun w1 hb => dayNameS_any m hm n hi.1 hi.2 w1 (HD.out.below (w' := w1) hb))
          have HSN := Lib.hid hsn
          clear hsn hr hi
          have hal : Below wr.heap.size wr (wr.alloc (.cells #[.int .i64 m, .int .i64 n] 59)) := (Below.refl _ _).alloc (Nat.le_refl _) _
          have hbl2 : Hid (Below w.heap.size w (wr.alloc (.cells #[.int .i64 m, .int .i64 n] 59))) := Lib.hid (hbw.out.trans (hal.mono hbw.out.size))
          have HAL := Lib.hid hal
          clear hal
          have hjl := HJL.out k
          generalize hJ : daysJ (ds.take k) = J at hjl HSN ⊢
          have HJ := Lib.hid hJ
          clear hJ
          have hj0 : Hid (k = 0 → J = []) := Lib.hid (fun h => by rw [← HJ.out, h]; rfl)
          generalize dayStr m n = X at hxl HSN H37
          have z1 := size_mkS J
          have z2 := size_mkS X
          have z3 := size_mkS (J ++ [44])
          rw [List.length_append, List.length_singleton] at z3
          have i0 : (0 : Int) ≤ (k : Int) := Int.natCast_nonneg _
          have i1 : (k : Int) < (ds.length : Int) := by omega
          by_cases h0 : k = 0
          · have hJe := hj0.out h0
            subst hJe
            subst h0
            simp only [Nat.zero_mul, Nat.add_zero] at hcd hcn
            have c1 : mkS [] ++ mkS X = mkS X := str_app [] X
            clear hj0 HJ
            go_wp2_with (first
              | (go_at_call 37; go_must (refine (H37.out _ hbl2.out).mono ?_; rintro e w2 ⟨rfl, hb2⟩))
              | (fail))
            go_roundw
            case rel => exact ⟨1, by omega, by rw [HSN.out]; rfl, by go_num, Lib.hid (HB.out.trans ((HAL.out.trans (hb2.mono HAL.out.size)).mono HB.out.size))⟩
            case measure => simp [intOf]; omega
          · have t1 : decide ((0 : Int) < (k : Int)) = true := by simp; omega
            have c1 : mkS J ++ (⟨#[44]⟩ : ByteArray) = mkS (J ++ [44]) := str_app J [44]
            have c2 : mkS (J ++ [44]) ++ mkS X = mkS (J ++ [44] ++ X) := str_app _ _
            clear hj0 HJ
            go_wp2_with (first
              | (go_at_call 37; go_must (refine (H37.out _ hbl2.out).mono ?_; rintro e w2 ⟨rfl, hb2⟩))
              | (fail))
            go_roundw
            case rel => exact ⟨k + 1, by omega, by rw [HSN.out, if_neg h0], by go_num, Lib.hid (HB.out.trans ((HAL.out.trans (hb2.mono HAL.out.size)).mono HB.out.size))⟩
            case measure => simp [intOf]; omega
        · obtain rfl : k = ds.length := by omega
          have hrp := HRP.out.call HB.out
          rw [List.take_length]
          have HROW := Lib.hid hrp.2.1
          have hne : Hid (w.heap.size ≠ L) := Lib.hid (by have := hrp.2.2; omega)
          have HRP2 := Lib.hid hrp
          obtain ⟨v, hpv⟩ := hrp.1
          have HS := Lib.hid hpv
          have HP : Hid ((chain (optOf r) 9).length ≤ 1000) := Lib.hid (Nat.le_trans (HL.out 9) (by decide))
          clear hrp hpv
          go_upto_region 25 with fail
          have hcx := cell_of_one HS.out.cell
          have zj := size_mkS (daysJ ds)
          have zk := daysJ_len ds HOK.out
          go_wp2_with (at_builtin; go_must (refine wpList_part (keyNm 11, daysJ ds) (.tmp 100) (.tmp 103) HS.out HP.out rfl rfl rfl rfl ?_; intro g2 cc w2 hc2 hps2 hk2; have hcx2 := cell_of_one hc2; have hfx2 := free_of_one hc2))
          go_meet
          exact ⟨rfl, by rw [chain_cons 9 HBB.out, HV11.out]; exact HRP2.out.next hk2 ⟨_, hps2⟩⟩
  case rest =>
  obtain ⟨rfl, hrp⟩ := hcut
  clear HBB HB8
  have hc := hrp.2.1.cell 14 X14.out
  have H : Hid (Calls Tryz.prog 64 #[.string ⟨#[66, 89, 72, 79, 85, 82]⟩, v14, .pointer (some ⟨L, 0, none⟩)] wc fun e w' => e = .returned (.tuple #[]) ∧ PS w L (chain (optOf r) 10 ++ intsQ (keyNm 12) r.ho) w' ∧ KeptR L wc w') := Lib.hid (app64_any w wc L (chain (optOf r) 10) (keyNm 12) r.ho v14 hrp.1 HR.out.l14 HI.out.ho (by have := HN.out.ok.ho.len; exact this) (Nat.le_trans (HL.out 10) (by decide)))
  go_upto_region 27 with (go_at_call 64; go_must (refine H.out.mono ?_; rintro e wn ⟨rfl, hps, hkr⟩))
  have hrp2 := hrp.next hkr hps
  rw [← chain_ints (o := optOf r) 10 r.ho rfl rfl] at hrp2
  clear hrp hps hkr hc H
  have hrp := hrp2
  clear hrp2
  obtain ⟨we12, hwd⟩ : ∃ we12 : World, we12 = wn := ⟨_, rfl⟩
  subst hwd
  have hc := hrp.2.1.cell 15 X15.out
  have H : Hid (Calls Tryz.prog 64 #[.string ⟨#[66, 89, 77, 73, 78, 85, 84, 69]⟩, v15, .pointer (some ⟨L, 0, none⟩)] we12 fun e w' => e = .returned (.tuple #[]) ∧ PS w L (chain (optOf r) 11 ++ intsQ (keyNm 13) r.mi) w' ∧ KeptR L we12 w') := Lib.hid (app64_any w we12 L (chain (optOf r) 11) (keyNm 13) r.mi v15 hrp.1 HR.out.l15 HI.out.mi (by have := HN.out.ok.mi.len; exact this) (Nat.le_trans (HL.out 11) (by decide)))
  go_upto_region 28 with (go_at_call 64; go_must (refine H.out.mono ?_; rintro e wn ⟨rfl, hps, hkr⟩))
  have hrp2 := hrp.next hkr hps
  rw [← chain_ints (o := optOf r) 11 r.mi rfl rfl] at hrp2
  clear hrp hps hkr hc H
  have hrp := hrp2
  clear hrp2
  obtain ⟨we13, hwd⟩ : ∃ we13 : World, we13 = wn := ⟨_, rfl⟩
  subst hwd
  have hc := hrp.2.1.cell 16 X16.out
  have H : Hid (Calls Tryz.prog 64 #[.string ⟨#[66, 89, 83, 69, 67, 79, 78, 68]⟩, v16, .pointer (some ⟨L, 0, none⟩)] we13 fun e w' => e = .returned (.tuple #[]) ∧ PS w L (chain (optOf r) 12 ++ intsQ (keyNm 14) r.se) w' ∧ KeptR L we13 w') := Lib.hid (app64_any w we13 L (chain (optOf r) 12) (keyNm 14) r.se v16 hrp.1 HR.out.l16 HI.out.se (by have := HN.out.ok.se.len; exact this) (Nat.le_trans (HL.out 12) (by decide)))
  go_upto_region 29 with (go_at_call 64; go_must (refine H.out.mono ?_; rintro e wn ⟨rfl, hps, hkr⟩))
  have hrp2 := hrp.next hkr hps
  rw [← chain_ints (o := optOf r) 12 r.se rfl rfl] at hrp2
  clear hrp hps hkr hc H
  have hrp := hrp2
  clear hrp2
  obtain ⟨we14, hwd⟩ : ∃ we14 : World, we14 = wn := ⟨_, rfl⟩
  subst hwd
  have hc := hrp.2.1.cell 17 X17.out
  have H : Hid (Calls Tryz.prog 64 #[.string ⟨#[66, 89, 69, 65, 83, 84, 69, 82]⟩, v17, .pointer (some ⟨L, 0, none⟩)] we14 fun e w' => e = .returned (.tuple #[]) ∧ PS w L (chain (optOf r) 13 ++ intsQ (keyNm 15) r.ea) w' ∧ KeptR L we14 w') := Lib.hid (app64_any w we14 L (chain (optOf r) 13) (keyNm 15) r.ea v17 hrp.1 HR.out.l17 HI.out.ea (by have := HN.out.ok.ea.len; exact this) (Nat.le_trans (HL.out 13) (by decide)))
  go_upto_region 30 with (go_at_call 64; go_must (refine H.out.mono ?_; rintro e wn ⟨rfl, hps, hkr⟩))
  have hrp2 := hrp.next hkr hps
  rw [← chain_ints (o := optOf r) 13 r.ea rfl rfl] at hrp2
  clear hrp hps hkr hc H
  have hrp := hrp2
  clear hrp2
  obtain ⟨⟨v, hps⟩, _⟩ := hrp
  rw [chain_eq] at hps
  obtain ⟨g, cc, hv⟩ := own_slice hps.own
  subst hv
  have hcx := cell_of_one hps.cell
  have HS := Lib.hid hps
  clear hps
  go_wp2
  go_ret
  exact ⟨_, rfl, HS.out.own, HS.out.hb⟩
end Go.Proofs.YtcfbkkcamiephaaGreatDoor
