import Derived.Test.YtcfbkkcamiephaaGreatDoorQ1
import Derived.Test.YtcfbkkcamiephaaGreatDoorY1
import Derived.Test.YtcfbkkcamiephaaGreatDoorV1
namespace Go.Proofs.YtcfbkkcamiephaaGreatDoor
open Go.RowKit

theorem own_slice {W : World} {base n : Nat} {v : Value} {xs : List Value} (h : W.ownsRow base 46 2 v n xs) : ∃ a c, v = .slice a n c := by
  rcases h.2 with ⟨hv, h0⟩ | ⟨g, cap, cur, hv, _⟩
  · subst h0; exact ⟨_, _, hv⟩
  · exact ⟨_, _, hv⟩
/-! ### RuleParts: the plain side -/
def prP (o : Opt) (i : Nat) : List Part := if presB o i = true then [(keyNm i, valL o i)] else []
def pairsOf (o : Opt) : List Part := (idxs o).map fun i => (keyNm i, valL o i)
def chain (o : Opt) : Nat → List Part
  | 0 => prP o 0
  | k + 1 => chain o k ++ prP o (k + 2)
theorem chain_eq (o : Opt) : chain o 14 = pairsOf o := by
  unfold pairsOf idxs ord
  simp only [filt_cons, chain, prP, List.filter_nil, List.map_nil, List.append_nil, List.append_assoc]
theorem prP_one (o : Opt) (i : Nat) : (prP o i).length ≤ 1 := by unfold prP; split <;> simp
theorem chain_len (o : Opt) (k : Nat) : (chain o k).length ≤ k + 1 := by
  induction k with
  | zero => exact prP_one o 0
  | succ k ih => have := prP_one o (k + 2); show (chain o k ++ prP o (k + 2)).length ≤ _; rw [List.length_append]; omega
theorem chain_nil {o : Opt} (k : Nat) (h : presB o (k + 2) = false) : chain o (k + 1) = chain o k := by
  show chain o k ++ prP o (k + 2) = _
  unfold prP; rw [if_neg (by rw [h]; simp), List.append_nil]
theorem chain_cons {o : Opt} (k : Nat) (h : presB o (k + 2) = true) : chain o (k + 1) = chain o k ++ [(keyNm (k + 2), valL o (k + 2))] := by
  show chain o k ++ prP o (k + 2) = _
  unfold prP; rw [if_pos h]
theorem chain_ints {o : Opt} (k : Nat) (zs : List Int) (hp : presB o (k + 2) = !zs.isEmpty) (hv : valL o (k + 2) = intsJ zs) : chain o (k + 1) = chain o k ++ intsQ (keyNm (k + 2)) zs := by
  show chain o k ++ prP o (k + 2) = _
  unfold prP intsQ
  rw [hp, hv]
  cases zs <;> simp
theorem daysJ_snoc (ds : List (Int × Int)) (k : Nat) (h : k < ds.length) : daysJ (ds.take (k + 1)) = if k = 0 then dayStr ds[k].1.toNat ds[k].2 else daysJ (ds.take k) ++ 44 :: dayStr ds[k].1.toNat ds[k].2 := by
  unfold daysJ
  rw [List.take_succ_eq_append_getElem h, List.map_append, List.map_cons, List.map_nil, join_snoc]
  by_cases h0 : k = 0
  · subst h0; simp
  · rw [if_neg h0, if_neg (by
      intro e
      have := congrArg List.length e
      rw [List.length_map, List.length_take, List.length_nil] at this
      omega)]
/-- what the walk of RuleParts holds of the world -/
def RP (w : World) (L : Nat) (xs : List Value) (P : List Part) (W : World) : Prop := PS w L P W ∧ RowAt W w.heap.size 26 xs ∧ w.heap.size < L
theorem RP.next {w W w1 : World} {L : Nat} {xs : List Value} {P P' : List Part} (h : RP w L xs P W) (hk : KeptR L W w1) (hp : PS w L P' w1) : RP w L xs P' w1 := ⟨hp, hk.row h.2.1 (by decide) (by have := h.2.2; omega), h.2.2⟩
theorem PS.call {w W w1 : World} {L : Nat} {P : List Part} (h : PS w L P W) (hb : Below W.heap.size W w1) : PS w L P w1 := by
  obtain ⟨v, h⟩ := h; exact ⟨v, h.call hb⟩
theorem RP.call {w W w1 : World} {L : Nat} {xs : List Value} {P : List Part} (h : RP w L xs P W) (hb : Below W.heap.size W w1) : RP w L xs P w1 := ⟨h.1.call hb, h.2.1.below hb, h.2.2⟩
theorem RP.bl {w W : World} {L : Nat} {xs : List Value} {P : List Part} (h : RP w L xs P W) : Below w.heap.size w W := by
  obtain ⟨⟨v, h⟩, _⟩ := h; exact h.hb
theorem rp_start (w W : World) (xs : List Value) (x y : List UInt8) (hb : Below w.heap.size w W) (hr : RowAt W w.heap.size 26 xs) :
    RP w (W.heap.size + 1) xs [(x, y)] (((W.alloc (.cells #[strV x, strV y] 46)).alloc (.cells #[.slice (some ⟨W.heap.size, 0, none⟩) 1 1] 43))) := by
  have hl := hr.lt
  have b1 : Below W.heap.size W (W.alloc (.cells #[strV x, strV y] 46)) := (Below.refl _ _).alloc (Nat.le_refl _) _
  have b2 : Below (W.alloc (.cells #[strV x, strV y] 46)).heap.size (W.alloc (.cells #[strV x, strV y] 46)) ((W.alloc (.cells #[strV x, strV y] 46)).alloc (.cells #[.slice (some ⟨W.heap.size, 0, none⟩) 1 1] 43)) := (Below.refl _ _).alloc (Nat.le_refl _) _
  have own : (W.alloc (.cells #[strV x, strV y] 46)).ownsRow w.heap.size 46 2 (.slice (some ⟨W.heap.size, 0, none⟩) 1 1) 1 [strV x, strV y] := World.ownsRow_lit W #[strV x, strV y] 1 (Nat.le_of_lt hl) (by simp [maxLen]) rfl
  refine ⟨⟨_, by omega, ?_, own_call own b2, ?_⟩, (hr.below b1).below b2, by omega⟩
  · have := heap_alloc_new (W.alloc (.cells #[strV x, strV y] 46)) (.cells #[.slice (some ⟨W.heap.size, 0, none⟩) 1 1] 43)
    simpa using this
  · exact (hb.trans (b1.mono hb.size)).trans (b2.mono (Nat.le_trans hb.size b1.size))

set_option maxRecDepth 100000 in
set_option maxHeartbeats 51200000 in
/-- spec.RuleParts. -/
theorem ruleParts_any (r : RuleD) (v : Value) (w : World) (hD : DayNms w) (hF : Freqs w) (hv : RuleIs w v r) (hT : TextR r) (hI : RuleIn r) :
    Calls Tryz.prog 29 #[v] w fun e w' => ∃ v', e = .returned v' ∧ w'.ownsRow w.heap.size 46 2 v' (pairsOf (optOf r)).length (flatP (pairsOf (optOf r))) ∧ Below w.heap.size w w' := by
  obtain ⟨v8, v9, v10, v11, v12, v13, v14, v15, v16, v17, rfl, hR⟩ := hv
  obtain ⟨a13, c13, rfl, hdy⟩ := hR.l13.form
  rw [ruleVal_eq]
  have hbox : RowAt (w.alloc (.cells (ruleCells r v8 v9 v10 v11 v12 (.slice a13 r.dy.length c13) v14 v15 v16 v17).toArray 26)) w.heap.size 26 (ruleCells r v8 v9 v10 v11 v12 (.slice a13 r.dy.length c13) v14 v15 v16 v17) := ⟨heap_alloc_new w _⟩
  obtain ⟨j, hj, hfq⟩ : ∃ j : Nat, j < 7 ∧ r.fq = (j : Int) := ⟨r.fq.toNat, by have := hT.fq; have := hI.fq; omega, by have := hI.fq; omega⟩
  obtain ⟨kw, hkw, hwk⟩ : ∃ k : Nat, k < 7 ∧ r.wk = (k : Int) := ⟨r.wk.toNat, by have := hT.wk; omega, by have := hT.wk; omega⟩
  have k0 : (0 : Int) ≤ (kw : Int) := by omega
  have k7 : (kw : Int) < 7 := by omega
  obtain ⟨xs, hxs⟩ : ∃ xs, xs = ruleCells r v8 v9 v10 v11 v12 (.slice a13 r.dy.length c13) v14 v15 v16 v17 := ⟨_, rfl⟩
  have X0 : Hid (xs[0]? = some (.int .u8 j)) := Lib.hid (by rw [hxs]; show some (Value.int .u8 r.fq) = _; rw [hfq])
  have X3 : Hid (xs[3]? = some (.int .i64 r.iv)) := Lib.hid (by rw [hxs]; rfl)
  have X4 : Hid (xs[4]? = some (.int .i64 kw)) := Lib.hid (by rw [hxs]; show some (Value.int .i64 r.wk) = _; rw [hwk])
  have X5 : Hid (xs[5]? = some (.int .i64 r.ct)) := Lib.hid (by rw [hxs]; rfl)
  have X6 : Hid (xs[6]? = some (.bool r.hu)) := Lib.hid (by rw [hxs]; rfl)
  have X7 : Hid (xs[7]? = some (.int .i64 r.un)) := Lib.hid (by rw [hxs]; rfl)
  have X8 : Hid (xs[8]? = some v8) := Lib.hid (by rw [hxs]; rfl)
  have X9 : Hid (xs[9]? = some v9) := Lib.hid (by rw [hxs]; rfl)
  have X10 : Hid (xs[10]? = some v10) := Lib.hid (by rw [hxs]; rfl)
  have X11 : Hid (xs[11]? = some v11) := Lib.hid (by rw [hxs]; rfl)
  have X12 : Hid (xs[12]? = some v12) := Lib.hid (by rw [hxs]; rfl)
  have X14 : Hid (xs[14]? = some v14) := Lib.hid (by rw [hxs]; rfl)
  have X15 : Hid (xs[15]? = some v15) := Lib.hid (by rw [hxs]; rfl)
  have X16 : Hid (xs[16]? = some v16) := Lib.hid (by rw [hxs]; rfl)
  have X17 : Hid (xs[17]? = some v17) := Lib.hid (by rw [hxs]; rfl)
  have X13 : Hid (xs[13]? = some (.slice a13 r.dy.length c13)) := Lib.hid (by rw [hxs]; rfl)
  rw [← hxs] at hbox ⊢
  have hal : Below w.heap.size w (w.alloc (.cells xs.toArray 26)) := (Below.refl _ _).alloc (Nat.le_refl _) _
  have hstart := Lib.hid (rp_start w (w.alloc (.cells xs.toArray 26)) xs [70, 82, 69, 81] (freqL j) hal hbox)
  have hn := optN_of hT hI
  have H47 := Lib.hid (freqNameS_any j hj (w.alloc (.cells xs.toArray 26)) (hF.below hal))
  have HW : Hid (∀ w1, Below w.heap.size w w1 → w1.cell? ⟨0, kw, none⟩ = some (.string (mkS (dayL kw)))) := Lib.hid (fun w1 hb => ((hD.below hb).dn kw hkw).trans (by rw [dayL_nm]))
  have HD := Lib.hid hD
  have c0 : Hid (chain (optOf r) 0 = [([70, 82, 69, 81], freqL j)]) := Lib.hid (by have h : prP (optOf r) 0 = [(keyNm 0, valL (optOf r) 0)] := if_pos rfl; show prP (optOf r) 0 = _; rw [h]; show [(keyNm 0, freqL r.fq.toNat)] = _; rw [hfq]; rfl)
  have HV3 : Hid (valL (optOf r) 3 = dayL kw) := Lib.hid (by show dayStr r.wk.toNat 0 = _; rw [hwk, Int.toNat_natCast]; rfl)
  have HB5 : Hid (presB (optOf r) 5 = (r.hu && (r.un != 0))) := Lib.hid (by
    show (!isZ ((if r.hu = true then r.un else 0), 0)) = _
    rw [isZ_zero]
    cases r.hu <;> simp)
  have HV5 : Hid (r.hu = true → valL (optOf r) 5 = stampS r.un) := Lib.hid (fun h => by show stampS (if r.hu = true then r.un else 0) = _; rw [if_pos h])
  have HP3 : Hid (presB (optOf r) 3 = ((kw : Int) != 0)) := Lib.hid (by show (!(r.wk == 0 && (0 : Int) == 0)) = _; rw [hwk]; cases h : ((kw : Int) == 0) <;> simp [bne, h])
  have HP2 : Hid (presB (optOf r) 2 = (r.iv != 0)) := Lib.hid rfl
  have HP4 : Hid (presB (optOf r) 4 = (r.ct != 0)) := Lib.hid rfl
  have HP11 : Hid (presB (optOf r) 11 = decide (0 < r.dy.length)) := Lib.hid (by
    show (!r.dy.isEmpty) = _
    cases r.dy <;> simp)
  have HL := Lib.hid (fun k => chain_len (optOf r) k)
  have HDY := Lib.hid hdy
  have HR := Lib.hid hR
  have HI := Lib.hid hI
  have HT := Lib.hid hT
  have HN := Lib.hid hn
  clear hbox hal hdy hR hI hT hn hxs hfq hwk hD hF
  go_enter Tryz.func29, Tryz.ntmps29
  go_upto_region 1 with fail
  have hc := (Lib.hid (heap_alloc_new w (.cells xs.toArray 26)))
  have hc0 : (w.alloc (.cells xs.toArray 26)).cell? ⟨w.heap.size, 0, none⟩ = some (.int .u8 j) := by
    have : RowAt (w.alloc (.cells xs.toArray 26)) w.heap.size 26 xs := ⟨heap_alloc_new w _⟩
    exact this.cell 0 X0.out
  go_cut [3] from 8 to 12 (fun s3 wx => ∃ L, s3 = .pointer (some ⟨L, 0, none⟩) ∧ RP w L xs (chain (optOf r) 0) wx)
  case first =>
    go_wp2_with (go_at_call 47; go_must (refine H47.out.mono ?_; rintro e w1 ⟨rfl, rfl⟩))
    go_meet
    refine ⟨w.heap.size + 2, ?_, ?_⟩
    · rfl
    · rw [c0.out]
      have := hstart.out
      rw [show (w.alloc (.cells xs.toArray 26)).heap.size = w.heap.size + 1 by simp] at this
      exact this
  case rest =>
  obtain ⟨L, rfl, hrp⟩ := hcut
  clear hc hc0 hstart H47
  have hc3 := hrp.2.1.cell 3 X3.out
  go_upto_if 15 with fail
  clear hc3
  generalize hbb : (r.iv != 0) = b15
  have HBB : Hid (presB (optOf r) 2 = b15) := Lib.hid (HP2.out.trans hbb)
  clear hbb
  -- part 2
  go_cut [3] from 16 to 22 (fun s3 wx => s3 = .pointer (some ⟨L, 0, none⟩) ∧ RP w L xs (chain (optOf r) 1) wx)
  case first =>
    cases b15 with
    | false =>
      go_wp2
      go_meet
      exact ⟨rfl, by rw [chain_nil 0 HBB.out]; exact hrp⟩
    | true =>
      have HROW := Lib.hid hrp.2.1
      have hne : Hid (w.heap.size ≠ L) := Lib.hid (by have := hrp.2.2; omega)
      have HRP := Lib.hid hrp
      obtain ⟨v, hpv⟩ := hrp.1
      have HS := Lib.hid hpv
      have HP : Hid ((chain (optOf r) 0).length ≤ 1000) := Lib.hid (Nat.le_trans (HL.out 0) (by decide))
      clear hrp hpv
      have HC := Lib.hid (fun w1 => number_any r.iv w1 HI.out.iv)
      go_upto_region 3 with fail
      refine wp_region_table (β := Nat × Value) (fun b => #[.agg xs.toArray, .pointer (some ⟨w.heap.size, 0, none⟩), .slice none 0 0, .pointer (some ⟨L, 0, none⟩), undef, undef, undef, undef, u8, u9, u10, u11, u12, .pointer (some ⟨w.heap.size, 3, none⟩), .int .i64 r.iv, .bool true, v, .pointer (some ⟨w.heap.size, 3, none⟩), .int .i64 r.iv, .string (mkS (Lib.itoa r.iv)), .agg #[.string ⟨#[73, 78, 84, 69, 82, 86, 65, 76]⟩, .string (mkS (Lib.itoa r.iv))], .slice (some ⟨b.1, 0, none⟩) 1 1, b.2, undef, undef, undef, undef, undef, undef, undef, undef, undef, undef, undef, undef, undef, undef, undef, undef, undef, undef, undef, undef, undef, undef, undef, undef, undef, undef, undef, undef, undef, undef, undef, undef, undef, undef, undef, undef, undef, undef, undef, undef, undef, undef, undef, undef, undef, undef, undef, undef, undef, undef, undef, undef, undef, undef, undef, undef, undef, undef, undef, undef, undef, undef, undef, undef, undef, undef, undef, undef, undef, undef, undef, undef, undef, undef, undef, undef, undef, undef, undef, undef, undef, undef, undef, undef, undef, undef, undef, undef, undef, undef, undef, undef, undef, undef, undef, undef, undef, undef, undef]) (KR w wc L v (chain (optOf r) 0) (keyNm 2, Lib.itoa r.iv) 0 5 6 7) 122 (fun _ => rfl) rfl (by kernel_rfl) (0, .slice none 0 0) rfl [16, 17, 18, 19, 20, 21, 22] (by kernel_rfl) (by kernel_rfl) (KR.start (drew_PSt HS.out) (.of (Below.refl _ _).drew) (none_listed _)) ?hs ?hdone
      case hs =>
        refine ⟨StepF.of (fun b listed w1 hB hf hdep K' Q' hK' => ?_), ?_⟩
        · have hcx := cell_of_one (hB.cell0 (hB.notS hf))
          clear hf hdep
          go_simp
          refine hK'.out _ _ ⟨rfl, b, fun _ _ => rfl, fun d e => (by cases e; rfl), hB.other (by decide) (by decide) (by decide)⟩
        refine ⟨StepF.of (fun b listed w1 hB hf hdep K' Q' hK' => ?_), ?_⟩
        · clear hf hdep
          go_simp
          refine hK'.out _ _ ⟨rfl, b, fun _ _ => rfl, fun d e => (by cases e; rfl), hB.other (by decide) (by decide) (by decide)⟩
        refine ⟨StepF.of (fun b listed w1 hB hf hdep K' Q' hK' => ?_), ?_⟩
        · clear hf hdep
          have hcx := (hB.kept.row HROW.out (by decide) hne.out).cell 3 X3.out
          go_simp
          refine hK'.out _ _ ⟨rfl, b, fun _ _ => rfl, fun d e => (by cases e; rfl), hB.other (by decide) (by decide) (by decide)⟩
        refine ⟨StepF.of (fun b listed w1 hB hf hdep K' Q' hK' => ?_), ?_⟩
        · clear hf hdep
          go_simp
          go_at_call 63
          refine (HC.out _).mono ?_
          rintro e w2 ⟨rfl, hb2⟩
          try dsimp only
          refine hK'.out _ _ ⟨rfl, b, fun _ _ => rfl, fun d e => (by cases e; rfl), (hB.call hb2).other (by decide) (by decide) (by decide)⟩
        refine ⟨StepF.of (fun b listed w1 hB hf hdep K' Q' hK' => ?_), ?_⟩
        · clear hf hdep
          go_simp
          refine hK'.out _ _ ⟨rfl, b, fun _ _ => rfl, fun d e => (by cases e; rfl), hB.other (by decide) (by decide) (by decide)⟩
        refine ⟨StepF.of (fun b listed w1 hB hf hdep K' Q' hK' => ?_), ?_⟩
        · clear hdep
          go_simp
          refine hK'.out _ _ ⟨rfl, (w1.heap.size, b.2), fun k e => getD_upd2 (d := 21) (v := .slice (some ⟨w1.heap.size, 0, none⟩) 1 1) rfl e, fun d e => (by cases e; rfl), hB.made hf (by decide) (by decide)⟩
        refine ⟨StepF.of (fun b listed w1 hB hf hdep K' Q' hK' => ?_), ?_⟩
        · have hl := hdep ⟨0, .data⟩ (by simp) rfl
          have hbl := hdep ⟨5, .data⟩ (by simp) rfl
          refine step_part (.tmp 16) (.tmp 21) hB hf hbl HP.out rfl rfl rfl (fun v1 w2 h1 h2 => ?_)
          exact hK'.out _ _ ⟨rfl, (b.1, v1), fun k e => getD_upd2 (d := 22) (v := v1) rfl e, fun d e => (by cases e; rfl), hB.appended hl hbl hf (by decide) (by decide) (by decide) h1 h2⟩
        refine ⟨StepF.of (fun b listed w1 hB hf hdep K' Q' hK' => ?_), ?_⟩
        · have hA := hdep ⟨6, .data⟩ (by simp) rfl
          obtain ⟨b1, b2⟩ := b
          obtain ⟨g, cc, hbv⟩ := hB.form hA
          have hbv : b2 = _ := hbv
          subst hbv
          have hc0 := hB.cell0 (by rw [hf]; simp)
          have hcx := cell_of_one hc0
          have hfx := free_of_one hc0
          have hst := hB.stored hA hf (by decide)
          clear hdep
          go_simp
          refine hK'.out _ _ ⟨rfl, (b1, .slice (some ⟨g, 0, none⟩) ((chain (optOf r) 0).length + 1) cc), fun _ _ => rfl, fun d e => (by cases e), hst⟩
        trivial
      case hdone =>
        intro b listed w1 hK hall
        have hd := hK.done (hall 7 (by decide))
        have hrp2 := HRP.out.next hd.2 ⟨_, hd.1⟩
        clear hK hall hd
        go_wp2
        go_meet
        exact ⟨rfl, by rw [chain_cons 0 HBB.out]; exact hrp2⟩
  case rest =>
  obtain ⟨rfl, hrp⟩ := hcut
  clear HBB
  have hc4 := hrp.2.1.cell 4 X4.out
  go_upto_if 25 with fail
  clear hc4
  generalize hbb : ((kw : Int) != 0) = b25
  have HBB : Hid (presB (optOf r) 3 = b25) := Lib.hid (HP3.out.trans hbb)
  clear hbb
  -- part 3
  go_cut [3] from 26 to 33 (fun s3 wx => s3 = .pointer (some ⟨L, 0, none⟩) ∧ RP w L xs (chain (optOf r) 2) wx)
  case first =>
    cases b25 with
    | false =>
      go_wp2
      go_meet
      exact ⟨rfl, by rw [chain_nil 1 HBB.out]; exact hrp⟩
    | true =>
      have HROW := Lib.hid hrp.2.1
      have hne : Hid (w.heap.size ≠ L) := Lib.hid (by have := hrp.2.2; omega)
      have HRP := Lib.hid hrp
      obtain ⟨v, hpv⟩ := hrp.1
      have HS := Lib.hid hpv
      have HP : Hid ((chain (optOf r) 1).length ≤ 1000) := Lib.hid (Nat.le_trans (HL.out 1) (by decide))
      clear hrp hpv
      go_upto_region 5 with fail
      refine wp_region_table (β := Nat × Value) (fun b => #[.agg xs.toArray, .pointer (some ⟨w.heap.size, 0, none⟩), .slice none 0 0, .pointer (some ⟨L, 0, none⟩), undef, undef, undef, undef, u8, u9, u10, u11, u12, .pointer (some ⟨w.heap.size, 3, none⟩), .int .i64 r.iv, .bool b15, u16, u17, u18, u19, u20, u21, u22, .pointer (some ⟨w.heap.size, 4, none⟩), .int .i64 kw, .bool true, v, .pointer (some ⟨w.heap.size, 4, none⟩), .int .i64 kw, .pointer (some ⟨0, kw, none⟩), .string (mkS (dayL kw)), .agg #[.string ⟨#[87, 75, 83, 84]⟩, .string (mkS (dayL kw))], .slice (some ⟨b.1, 0, none⟩) 1 1, b.2, undef, undef, undef, undef, undef, undef, undef, undef, undef, undef, undef, undef, undef, undef, undef, undef, undef, undef, undef, undef, undef, undef, undef, undef, undef, undef, undef, undef, undef, undef, undef, undef, undef, undef, undef, undef, undef, undef, undef, undef, undef, undef, undef, undef, undef, undef, undef, undef, undef, undef, undef, undef, undef, undef, undef, undef, undef, undef, undef, undef, undef, undef, undef, undef, undef, undef, undef, undef, undef, undef, undef, undef, undef, undef, undef, undef, undef, undef, undef, undef, undef, undef, undef, undef, undef, undef, undef, undef]) (KR w wc L v (chain (optOf r) 1) (keyNm 3, dayL kw) 0 6 7 8) 122 (fun _ => rfl) rfl (by kernel_rfl) (0, .slice none 0 0) rfl [26, 27, 28, 29, 30, 31, 32, 33] (by kernel_rfl) (by kernel_rfl) (KR.start (drew_PSt HS.out) (.of (Below.refl _ _).drew) (none_listed _)) ?hs ?hdone
      case hs =>
        refine ⟨StepF.of (fun b listed w1 hB hf hdep K' Q' hK' => ?_), ?_⟩
        · have hcx := cell_of_one (hB.cell0 (hB.notS hf))
          clear hf hdep
          go_simp
          refine hK'.out _ _ ⟨rfl, b, fun _ _ => rfl, fun d e => (by cases e; rfl), hB.other (by decide) (by decide) (by decide)⟩
        refine ⟨StepF.of (fun b listed w1 hB hf hdep K' Q' hK' => ?_), ?_⟩
        · clear hf hdep
          go_simp
          refine hK'.out _ _ ⟨rfl, b, fun _ _ => rfl, fun d e => (by cases e; rfl), hB.other (by decide) (by decide) (by decide)⟩
        refine ⟨StepF.of (fun b listed w1 hB hf hdep K' Q' hK' => ?_), ?_⟩
        · clear hf hdep
          have hcx := (hB.kept.row HROW.out (by decide) hne.out).cell 4 X4.out
          go_simp
          refine hK'.out _ _ ⟨rfl, b, fun _ _ => rfl, fun d e => (by cases e; rfl), hB.other (by decide) (by decide) (by decide)⟩
        refine ⟨StepF.of (fun b listed w1 hB hf hdep K' Q' hK' => ?_), ?_⟩
        · clear hf hdep
          go_simp
          refine hK'.out _ _ ⟨rfl, b, fun _ _ => rfl, fun d e => (by cases e; rfl), hB.other (by decide) (by decide) (by decide)⟩
        refine ⟨StepF.of (fun b listed w1 hB hf hdep K' Q' hK' => ?_), ?_⟩
        · clear hf hdep
          have hcx := HW.out _ hB.hb
          go_simp
          refine hK'.out _ _ ⟨rfl, b, fun _ _ => rfl, fun d e => (by cases e; rfl), hB.other (by decide) (by decide) (by decide)⟩
        refine ⟨StepF.of (fun b listed w1 hB hf hdep K' Q' hK' => ?_), ?_⟩
        · clear hf hdep
          go_simp
          refine hK'.out _ _ ⟨rfl, b, fun _ _ => rfl, fun d e => (by cases e; rfl), hB.other (by decide) (by decide) (by decide)⟩
        refine ⟨StepF.of (fun b listed w1 hB hf hdep K' Q' hK' => ?_), ?_⟩
        · clear hdep
          go_simp
          refine hK'.out _ _ ⟨rfl, (w1.heap.size, b.2), fun k e => getD_upd2 (d := 32) (v := .slice (some ⟨w1.heap.size, 0, none⟩) 1 1) rfl e, fun d e => (by cases e; rfl), hB.made hf (by decide) (by decide)⟩
        refine ⟨StepF.of (fun b listed w1 hB hf hdep K' Q' hK' => ?_), ?_⟩
        · have hl := hdep ⟨0, .data⟩ (by simp) rfl
          have hbl := hdep ⟨6, .data⟩ (by simp) rfl
          refine step_part (.tmp 26) (.tmp 32) hB hf hbl HP.out rfl rfl rfl (fun v1 w2 h1 h2 => ?_)
          exact hK'.out _ _ ⟨rfl, (b.1, v1), fun k e => getD_upd2 (d := 33) (v := v1) rfl e, fun d e => (by cases e; rfl), hB.appended hl hbl hf (by decide) (by decide) (by decide) h1 h2⟩
        refine ⟨StepF.of (fun b listed w1 hB hf hdep K' Q' hK' => ?_), ?_⟩
        · have hA := hdep ⟨7, .data⟩ (by simp) rfl
          obtain ⟨b1, b2⟩ := b
          obtain ⟨g, cc, hbv⟩ := hB.form hA
          have hbv : b2 = _ := hbv
          subst hbv
          have hc0 := hB.cell0 (by rw [hf]; simp)
          have hcx := cell_of_one hc0
          have hfx := free_of_one hc0
          have hst := hB.stored hA hf (by decide)
          clear hdep
          go_simp
          refine hK'.out _ _ ⟨rfl, (b1, .slice (some ⟨g, 0, none⟩) ((chain (optOf r) 1).length + 1) cc), fun _ _ => rfl, fun d e => (by cases e), hst⟩
        trivial
      case hdone =>
        intro b listed w1 hK hall
        have hd := hK.done (hall 8 (by decide))
        have hrp2 := HRP.out.next hd.2 ⟨_, hd.1⟩
        clear hK hall hd
        go_wp2
        go_meet
        exact ⟨rfl, by rw [chain_cons 1 HBB.out, HV3.out]; exact hrp2⟩
  case rest =>
  obtain ⟨rfl, hrp⟩ := hcut
  clear HBB
  have hc5 := hrp.2.1.cell 5 X5.out
  go_upto_if 36 with fail
  clear hc5
  generalize hbb : (r.ct != 0) = b36
  have HBB : Hid (presB (optOf r) 4 = b36) := Lib.hid (HP4.out.trans hbb)
  clear hbb
  -- part 4
  go_cut [3] from 37 to 43 (fun s3 wx => s3 = .pointer (some ⟨L, 0, none⟩) ∧ RP w L xs (chain (optOf r) 3) wx)
  case first =>
    cases b36 with
    | false =>
      go_wp2
      go_meet
      exact ⟨rfl, by rw [chain_nil 2 HBB.out]; exact hrp⟩
    | true =>
      have HROW := Lib.hid hrp.2.1
      have hne : Hid (w.heap.size ≠ L) := Lib.hid (by have := hrp.2.2; omega)
      have HRP := Lib.hid hrp
      obtain ⟨v, hpv⟩ := hrp.1
      have HS := Lib.hid hpv
      have HP : Hid ((chain (optOf r) 2).length ≤ 1000) := Lib.hid (Nat.le_trans (HL.out 2) (by decide))
      clear hrp hpv
      have HC := Lib.hid (fun w1 => number_any r.ct w1 HI.out.ct)
      go_upto_region 7 with fail
      refine wp_region_table (β := Nat × Value) (fun b => #[.agg xs.toArray, .pointer (some ⟨w.heap.size, 0, none⟩), .slice none 0 0, .pointer (some ⟨L, 0, none⟩), undef, undef, undef, undef, u8, u9, u10, u11, u12, .pointer (some ⟨w.heap.size, 3, none⟩), .int .i64 r.iv, .bool b15, u16, u17, u18, u19, u20, u21, u22, .pointer (some ⟨w.heap.size, 4, none⟩), .int .i64 kw, .bool b25, u26, u27, u28, u29, u30, u31, u32, u33, .pointer (some ⟨w.heap.size, 5, none⟩), .int .i64 r.ct, .bool true, v, .pointer (some ⟨w.heap.size, 5, none⟩), .int .i64 r.ct, .string (mkS (Lib.itoa r.ct)), .agg #[.string ⟨#[67, 79, 85, 78, 84]⟩, .string (mkS (Lib.itoa r.ct))], .slice (some ⟨b.1, 0, none⟩) 1 1, b.2, undef, undef, undef, undef, undef, undef, undef, undef, undef, undef, undef, undef, undef, undef, undef, undef, undef, undef, undef, undef, undef, undef, undef, undef, undef, undef, undef, undef, undef, undef, undef, undef, undef, undef, undef, undef, undef, undef, undef, undef, undef, undef, undef, undef, undef, undef, undef, undef, undef, undef, undef, undef, undef, undef, undef, undef, undef, undef, undef, undef, undef, undef, undef, undef, undef, undef, undef, undef, undef, undef, undef, undef, undef, undef, undef, undef, undef, undef]) (KR w wc L v (chain (optOf r) 2) (keyNm 4, Lib.itoa r.ct) 0 5 6 7) 122 (fun _ => rfl) rfl (by kernel_rfl) (0, .slice none 0 0) rfl [37, 38, 39, 40, 41, 42, 43] (by kernel_rfl) (by kernel_rfl) (KR.start (drew_PSt HS.out) (.of (Below.refl _ _).drew) (none_listed _)) ?hs ?hdone
      case hs =>
        refine ⟨StepF.of (fun b listed w1 hB hf hdep K' Q' hK' => ?_), ?_⟩
        · have hcx := cell_of_one (hB.cell0 (hB.notS hf))
          clear hf hdep
          go_simp
          refine hK'.out _ _ ⟨rfl, b, fun _ _ => rfl, fun d e => (by cases e; rfl), hB.other (by decide) (by decide) (by decide)⟩
        refine ⟨StepF.of (fun b listed w1 hB hf hdep K' Q' hK' => ?_), ?_⟩
        · clear hf hdep
          go_simp
          refine hK'.out _ _ ⟨rfl, b, fun _ _ => rfl, fun d e => (by cases e; rfl), hB.other (by decide) (by decide) (by decide)⟩
        refine ⟨StepF.of (fun b listed w1 hB hf hdep K' Q' hK' => ?_), ?_⟩
        · clear hf hdep
          have hcx := (hB.kept.row HROW.out (by decide) hne.out).cell 5 X5.out
          go_simp
          refine hK'.out _ _ ⟨rfl, b, fun _ _ => rfl, fun d e => (by cases e; rfl), hB.other (by decide) (by decide) (by decide)⟩
        refine ⟨StepF.of (fun b listed w1 hB hf hdep K' Q' hK' => ?_), ?_⟩
        · clear hf hdep
          go_simp
          go_at_call 63
          refine (HC.out _).mono ?_
          rintro e w2 ⟨rfl, hb2⟩
          try dsimp only
          refine hK'.out _ _ ⟨rfl, b, fun _ _ => rfl, fun d e => (by cases e; rfl), (hB.call hb2).other (by decide) (by decide) (by decide)⟩
        refine ⟨StepF.of (fun b listed w1 hB hf hdep K' Q' hK' => ?_), ?_⟩
        · clear hf hdep
          go_simp
          refine hK'.out _ _ ⟨rfl, b, fun _ _ => rfl, fun d e => (by cases e; rfl), hB.other (by decide) (by decide) (by decide)⟩
        refine ⟨StepF.of (fun b listed w1 hB hf hdep K' Q' hK' => ?_), ?_⟩
        · clear hdep
          go_simp
          refine hK'.out _ _ ⟨rfl, (w1.heap.size, b.2), fun k e => getD_upd2 (d := 42) (v := .slice (some ⟨w1.heap.size, 0, none⟩) 1 1) rfl e, fun d e => (by cases e; rfl), hB.made hf (by decide) (by decide)⟩
        refine ⟨StepF.of (fun b listed w1 hB hf hdep K' Q' hK' => ?_), ?_⟩
        · have hl := hdep ⟨0, .data⟩ (by simp) rfl
          have hbl := hdep ⟨5, .data⟩ (by simp) rfl
          refine step_part (.tmp 37) (.tmp 42) hB hf hbl HP.out rfl rfl rfl (fun v1 w2 h1 h2 => ?_)
          exact hK'.out _ _ ⟨rfl, (b.1, v1), fun k e => getD_upd2 (d := 43) (v := v1) rfl e, fun d e => (by cases e; rfl), hB.appended hl hbl hf (by decide) (by decide) (by decide) h1 h2⟩
        refine ⟨StepF.of (fun b listed w1 hB hf hdep K' Q' hK' => ?_), ?_⟩
        · have hA := hdep ⟨6, .data⟩ (by simp) rfl
          obtain ⟨b1, b2⟩ := b
          obtain ⟨g, cc, hbv⟩ := hB.form hA
          have hbv : b2 = _ := hbv
          subst hbv
          have hc0 := hB.cell0 (by rw [hf]; simp)
          have hcx := cell_of_one hc0
          have hfx := free_of_one hc0
          have hst := hB.stored hA hf (by decide)
          clear hdep
          go_simp
          refine hK'.out _ _ ⟨rfl, (b1, .slice (some ⟨g, 0, none⟩) ((chain (optOf r) 2).length + 1) cc), fun _ _ => rfl, fun d e => (by cases e), hst⟩
        trivial
      case hdone =>
        intro b listed w1 hK hall
        have hd := hK.done (hall 7 (by decide))
        have hrp2 := HRP.out.next hd.2 ⟨_, hd.1⟩
        clear hK hall hd
        go_wp2
        go_meet
        exact ⟨rfl, by rw [chain_cons 2 HBB.out]; exact hrp2⟩
  case rest =>
  obtain ⟨rfl, hrp⟩ := hcut
  clear HBB
  have hc6 := hrp.2.1.cell 6 X6.out
  have hc7 := hrp.2.1.cell 7 X7.out
  go_upto_region 8 with fail
  generalize hbb : presB (optOf r) 5 = b50
  rw [hbb] at HB5
  have HBB := Lib.hid hbb
  clear hbb
  go_cut [50] from 44 to 50 (fun s wx => s = .bool b50 ∧ wx = wc)
  case first =>
    cases hhu : r.hu with
    | false =>
      rw [hhu] at hc6 HB5
      go_wp2
      go_meet
      exact ⟨by rw [HB5.out]; rfl, rfl⟩
    | true =>
      rw [hhu] at hc6 HB5
      go_wp2
      go_meet
      exact ⟨by rw [HB5.out]; rfl, rfl⟩
  case rest =>
  obtain ⟨rfl, rfl⟩ := hcut
  clear hc6 hc7
  have HHU : Hid (b50 = true → r.hu = true) := Lib.hid (fun h => by have := HB5.out; rw [h] at this; cases hh : r.hu <;> simp [hh] at this ⊢)
  go_upto_if 50 with fail
  -- part 5
  go_cut [3] from 51 to 57 (fun s3 wx => s3 = .pointer (some ⟨L, 0, none⟩) ∧ RP w L xs (chain (optOf r) 4) wx)
  case first =>
    cases b50 with
    | false =>
      go_wp2
      go_meet
      exact ⟨rfl, by rw [chain_nil 3 HBB.out]; exact hrp⟩
    | true =>
      have HROW := Lib.hid hrp.2.1
      have hne : Hid (w.heap.size ≠ L) := Lib.hid (by have := hrp.2.2; omega)
      have HRP := Lib.hid hrp
      obtain ⟨v, hpv⟩ := hrp.1
      have HS := Lib.hid hpv
      have HP : Hid ((chain (optOf r) 3).length ≤ 1000) := Lib.hid (Nat.le_trans (HL.out 3) (by decide))
      clear hrp hpv
      have HC := Lib.hid (fun w1 => textTime_any r.un w1 HT.out.un)
      go_upto_region 9 with fail
      refine wp_region_table (β := Nat × Value) (fun b => #[.agg xs.toArray, .pointer (some ⟨w.heap.size, 0, none⟩), .slice none 0 0, .pointer (some ⟨L, 0, none⟩), undef, undef, undef, undef, u8, u9, u10, u11, u12, .pointer (some ⟨w.heap.size, 3, none⟩), .int .i64 r.iv, .bool b15, u16, u17, u18, u19, u20, u21, u22, .pointer (some ⟨w.heap.size, 4, none⟩), .int .i64 kw, .bool b25, u26, u27, u28, u29, u30, u31, u32, u33, .pointer (some ⟨w.heap.size, 5, none⟩), .int .i64 r.ct, .bool b36, u37, u38, u39, u40, u41, u42, u43, u44, u45, u46, u47, u48, u49, .bool true, v, .pointer (some ⟨w.heap.size, 7, none⟩), .int .i64 r.un, .string (mkS (stampS r.un)), .agg #[.string ⟨#[85, 78, 84, 73, 76]⟩, .string (mkS (stampS r.un))], .slice (some ⟨b.1, 0, none⟩) 1 1, b.2, undef, undef, undef, undef, undef, undef, undef, undef, undef, undef, undef, undef, undef, undef, undef, undef, undef, undef, undef, undef, undef, undef, undef, undef, undef, undef, undef, undef, undef, undef, undef, undef, undef, undef, undef, undef, undef, undef, undef, undef, undef, undef, undef, undef, undef, undef, undef, undef, undef, undef, undef, undef, undef, undef, undef, undef, undef, undef, undef, undef, undef, undef, undef, undef]) (KR w wc L v (chain (optOf r) 3) (keyNm 5, stampS r.un) 0 5 6 7) 122 (fun _ => rfl) rfl (by kernel_rfl) (0, .slice none 0 0) rfl [51, 52, 53, 54, 55, 56, 57] (by kernel_rfl) (by kernel_rfl) (KR.start (drew_PSt HS.out) (.of (Below.refl _ _).drew) (none_listed _)) ?hs ?hdone
      case hs =>
        refine ⟨StepF.of (fun b listed w1 hB hf hdep K' Q' hK' => ?_), ?_⟩
        · have hcx := cell_of_one (hB.cell0 (hB.notS hf))
          clear hf hdep
          go_simp
          refine hK'.out _ _ ⟨rfl, b, fun _ _ => rfl, fun d e => (by cases e; rfl), hB.other (by decide) (by decide) (by decide)⟩
        refine ⟨StepF.of (fun b listed w1 hB hf hdep K' Q' hK' => ?_), ?_⟩
        · clear hf hdep
          go_simp
          refine hK'.out _ _ ⟨rfl, b, fun _ _ => rfl, fun d e => (by cases e; rfl), hB.other (by decide) (by decide) (by decide)⟩
        refine ⟨StepF.of (fun b listed w1 hB hf hdep K' Q' hK' => ?_), ?_⟩
        · clear hf hdep
          have hcx := (hB.kept.row HROW.out (by decide) hne.out).cell 7 X7.out
          go_simp
          refine hK'.out _ _ ⟨rfl, b, fun _ _ => rfl, fun d e => (by cases e; rfl), hB.other (by decide) (by decide) (by decide)⟩
        refine ⟨StepF.of (fun b listed w1 hB hf hdep K' Q' hK' => ?_), ?_⟩
        · clear hf hdep
          go_simp
          go_at_call 33
          refine (HC.out _).mono ?_
          rintro e w2 ⟨rfl, hb2⟩
          try dsimp only
          refine hK'.out _ _ ⟨rfl, b, fun _ _ => rfl, fun d e => (by cases e; rfl), (hB.call hb2).other (by decide) (by decide) (by decide)⟩
        refine ⟨StepF.of (fun b listed w1 hB hf hdep K' Q' hK' => ?_), ?_⟩
        · clear hf hdep
          go_simp
          refine hK'.out _ _ ⟨rfl, b, fun _ _ => rfl, fun d e => (by cases e; rfl), hB.other (by decide) (by decide) (by decide)⟩
        refine ⟨StepF.of (fun b listed w1 hB hf hdep K' Q' hK' => ?_), ?_⟩
        · clear hdep
          go_simp
          refine hK'.out _ _ ⟨rfl, (w1.heap.size, b.2), fun k e => getD_upd2 (d := 56) (v := .slice (some ⟨w1.heap.size, 0, none⟩) 1 1) rfl e, fun d e => (by cases e; rfl), hB.made hf (by decide) (by decide)⟩
        refine ⟨StepF.of (fun b listed w1 hB hf hdep K' Q' hK' => ?_), ?_⟩
        · have hl := hdep ⟨0, .data⟩ (by simp) rfl
          have hbl := hdep ⟨5, .data⟩ (by simp) rfl
          refine step_part (.tmp 51) (.tmp 56) hB hf hbl HP.out rfl rfl rfl (fun v1 w2 h1 h2 => ?_)
          exact hK'.out _ _ ⟨rfl, (b.1, v1), fun k e => getD_upd2 (d := 57) (v := v1) rfl e, fun d e => (by cases e; rfl), hB.appended hl hbl hf (by decide) (by decide) (by decide) h1 h2⟩
        refine ⟨StepF.of (fun b listed w1 hB hf hdep K' Q' hK' => ?_), ?_⟩
        · have hA := hdep ⟨6, .data⟩ (by simp) rfl
          obtain ⟨b1, b2⟩ := b
          obtain ⟨g, cc, hbv⟩ := hB.form hA
          have hbv : b2 = _ := hbv
          subst hbv
          have hc0 := hB.cell0 (by rw [hf]; simp)
          have hcx := cell_of_one hc0
          have hfx := free_of_one hc0
          have hst := hB.stored hA hf (by decide)
          clear hdep
          go_simp
          refine hK'.out _ _ ⟨rfl, (b1, .slice (some ⟨g, 0, none⟩) ((chain (optOf r) 3).length + 1) cc), fun _ _ => rfl, fun d e => (by cases e), hst⟩
        trivial
      case hdone =>
        intro b listed w1 hK hall
        have hd := hK.done (hall 7 (by decide))
        have hrp2 := HRP.out.next hd.2 ⟨_, hd.1⟩
        clear hK hall hd
        go_wp2
        go_meet
        exact ⟨rfl, by rw [chain_cons 3 HBB.out, HV5.out (HHU.out (by simp))]; exact hrp2⟩
  case rest =>
  obtain ⟨rfl, hrp⟩ := hcut
  clear HBB
  clear HHU HB5
  have hc := hrp.2.1.cell 8 X8.out
  have H : Hid (Calls Tryz.prog 64 #[.string ⟨#[66, 89, 83, 69, 84, 80, 79, 83]⟩, v8, .pointer (some ⟨L, 0, none⟩)] wc fun e w' => e = .returned (.tuple #[]) ∧ PS w L (chain (optOf r) 4 ++ intsQ (keyNm 6) r.sp) w' ∧ KeptR L wc w') := Lib.hid (app64_any w wc L (chain (optOf r) 4) (keyNm 6) r.sp v8 hrp.1 HR.out.l8 HI.out.sp (by have := HN.out.ok.sp.len; exact this) (Nat.le_trans (HL.out 4) (by decide)))
  go_upto_region 12 with (go_at_call 64; go_must (refine H.out.mono ?_; rintro e wn ⟨rfl, hps, hkr⟩))
  have hrp2 := hrp.next hkr hps
  rw [← chain_ints (o := optOf r) 4 r.sp rfl rfl] at hrp2
  clear hrp hps hkr hc H
  have hrp := hrp2
  clear hrp2
  obtain ⟨wd6, hwd⟩ : ∃ wd6 : World, wd6 = wn := ⟨_, rfl⟩
  subst hwd
  have hc := hrp.2.1.cell 9 X9.out
  have H : Hid (Calls Tryz.prog 64 #[.string ⟨#[66, 89, 77, 79, 78, 84, 72]⟩, v9, .pointer (some ⟨L, 0, none⟩)] wd6 fun e w' => e = .returned (.tuple #[]) ∧ PS w L (chain (optOf r) 5 ++ intsQ (keyNm 7) r.mo) w' ∧ KeptR L wd6 w') := Lib.hid (app64_any w wd6 L (chain (optOf r) 5) (keyNm 7) r.mo v9 hrp.1 HR.out.l9 HI.out.mo (by have := HN.out.ok.mo.len; exact this) (Nat.le_trans (HL.out 5) (by decide)))
  go_upto_region 13 with (go_at_call 64; go_must (refine H.out.mono ?_; rintro e wn ⟨rfl, hps, hkr⟩))
  have hrp2 := hrp.next hkr hps
  rw [← chain_ints (o := optOf r) 5 r.mo rfl rfl] at hrp2
  clear hrp hps hkr hc H
  have hrp := hrp2
  clear hrp2
  obtain ⟨wd7, hwd⟩ : ∃ wd7 : World, wd7 = wn := ⟨_, rfl⟩
  subst hwd
  have hc := hrp.2.1.cell 10 X10.out
  have H : Hid (Calls Tryz.prog 64 #[.string ⟨#[66, 89, 77, 79, 78, 84, 72, 68, 65, 89]⟩, v10, .pointer (some ⟨L, 0, none⟩)] wd7 fun e w' => e = .returned (.tuple #[]) ∧ PS w L (chain (optOf r) 6 ++ intsQ (keyNm 8) r.md) w' ∧ KeptR L wd7 w') := Lib.hid (app64_any w wd7 L (chain (optOf r) 6) (keyNm 8) r.md v10 hrp.1 HR.out.l10 HI.out.md (by have := HN.out.ok.md.len; exact this) (Nat.le_trans (HL.out 6) (by decide)))
  go_upto_region 14 with (go_at_call 64; go_must (refine H.out.mono ?_; rintro e wn ⟨rfl, hps, hkr⟩))
  have hrp2 := hrp.next hkr hps
  rw [← chain_ints (o := optOf r) 6 r.md rfl rfl] at hrp2
  clear hrp hps hkr hc H
  have hrp := hrp2
  clear hrp2
  obtain ⟨wd8, hwd⟩ : ∃ wd8 : World, wd8 = wn := ⟨_, rfl⟩
  subst hwd
  have hc := hrp.2.1.cell 11 X11.out
  have H : Hid (Calls Tryz.prog 64 #[.string ⟨#[66, 89, 89, 69, 65, 82, 68, 65, 89]⟩, v11, .pointer (some ⟨L, 0, none⟩)] wd8 fun e w' => e = .returned (.tuple #[]) ∧ PS w L (chain (optOf r) 7 ++ intsQ (keyNm 9) r.yd) w' ∧ KeptR L wd8 w') := Lib.hid (app64_any w wd8 L (chain (optOf r) 7) (keyNm 9) r.yd v11 hrp.1 HR.out.l11 HI.out.yd (by have := HN.out.ok.yd.len; exact this) (Nat.le_trans (HL.out 7) (by decide)))
  go_upto_region 15 with (go_at_call 64; go_must (refine H.out.mono ?_; rintro e wn ⟨rfl, hps, hkr⟩))
  have hrp2 := hrp.next hkr hps
  rw [← chain_ints (o := optOf r) 7 r.yd rfl rfl] at hrp2
  clear hrp hps hkr hc H
  have hrp := hrp2
  clear hrp2
  obtain ⟨wd9, hwd⟩ : ∃ wd9 : World, wd9 = wn := ⟨_, rfl⟩
  subst hwd
  have hc := hrp.2.1.cell 12 X12.out
  have H : Hid (Calls Tryz.prog 64 #[.string ⟨#[66, 89, 87, 69, 69, 75, 78, 79]⟩, v12, .pointer (some ⟨L, 0, none⟩)] wd9 fun e w' => e = .returned (.tuple #[]) ∧ PS w L (chain (optOf r) 8 ++ intsQ (keyNm 10) r.wn) w' ∧ KeptR L wd9 w') := Lib.hid (app64_any w wd9 L (chain (optOf r) 8) (keyNm 10) r.wn v12 hrp.1 HR.out.l12 HI.out.wn (by have := HN.out.ok.wn.len; exact this) (Nat.le_trans (HL.out 8) (by decide)))
  go_upto_region 16 with (go_at_call 64; go_must (refine H.out.mono ?_; rintro e wn ⟨rfl, hps, hkr⟩))
  have hrp2 := hrp.next hkr hps
  rw [← chain_ints (o := optOf r) 8 r.wn rfl rfl] at hrp2
  clear hrp hps hkr hc H
  have hrp := hrp2
  clear hrp2
  obtain ⟨wd10, hwd⟩ : ∃ wd10 : World, wd10 = wn := ⟨_, rfl⟩
  subst hwd
  have hc13 := hrp.2.1.cell 13 X13.out
  go_upto_if 82 with fail
  clear hc13
  generalize hbb : decide (0 < r.dy.length) = b82
  have HBB : Hid (presB (optOf r) 11 = b82) := Lib.hid (HP11.out.trans hbb)
  have HB8 := Lib.hid hbb
  clear hbb
  go_cut [3, 5, 6, 7] from 83 to 104 (fun s3 _ _ _ wx => s3 = .pointer (some ⟨L, 0, none⟩) ∧ RP w L xs (chain (optOf r) 10) wx)
  case first =>
    cases b82 with
    | false =>
      go_wp2
      go_meet
      exact ⟨rfl, by rw [chain_nil 9 HBB.out]; exact hrp⟩
    | true =>
      have hpos : 0 < r.dy.length := by simpa using HB8.out
      obtain ⟨g, gq, rfl, hdr⟩ : ∃ g gq, a13 = some ⟨g, gq, none⟩ ∧ DayRowQ w g gq r.dy := by
        rcases HDY.out with h | h
        · rw [h] at hpos; simp at hpos
        · exact h
      have HDR := Lib.hid hdr
      clear hdr HB8 hpos
      have hc13 := hrp.2.1.cell 13 X13.out
      have HRP := Lib.hid hrp
      have hrng := HT.out.dy
      have hin := HI.out.dy
      have hdl := HT.out.dl
      have hok : DaysOk r.dy := HN.out.ok.dy
      have HV11 : Hid (valL (optOf r) 11 = daysJ r.dy) := Lib.hid rfl
      generalize r.dy = ds at *
      have HRNG := Lib.hid hrng
      have HOK := Lib.hid hok
      have HIN := Lib.hid hin
      clear hrng hin hrp hok
      have HJL : Hid (∀ k, (daysJ (ds.take k)).length ≤ 24000) := Lib.hid (fun k => daysJ_len _ ⟨by have := HOK.out.len; rw [List.length_take]; omega, fun q hq => HOK.out.rng q (List.mem_of_mem_take hq)⟩)
      go_wp2
      go_loopw [5, 86] (fun s i wr => ∃ k : Nat, k ≤ ds.length ∧ s = .string (mkS (daysJ (ds.take k))) ∧ i = .int .i64 k ∧ Hid (Below wd10.heap.size wd10 wr)) (fun _ i _ => ds.length - (intOf i).toNat)
      case atStart => exact ⟨0, by omega, rfl, rfl, Lib.hid (Below.refl _ _)⟩
      case round =>
        obtain ⟨k, hk, rfl, rfl, HB⟩ := hrel
        have hbw : Hid (Below w.heap.size w wr) := Lib.hid (HRP.out.bl.trans (HB.out.mono HRP.out.bl.size))
        by_cases hlt : k < ds.length
        · obtain ⟨hcd, hcn⟩ := (HDR.out.below hbw.out).cell k ds[k] (by simp [hlt])
          have hr := HRNG.out _ (List.getElem_mem hlt)
          have hi := HIN.out _ (List.getElem_mem hlt)
          have hsn := daysJ_snoc ds k hlt
          have hxl := dayStr_len ds[k].1.toNat ds[k].2 hi
          generalize ds[k] = p at hcd hcn hr hi hsn hxl
          obtain ⟨d, n⟩ := p
          simp only at hcd hcn hr hi hsn hxl
          obtain ⟨m, hm, rfl⟩ : ∃ m : Nat, m < 7 ∧ d = (m : Int) := ⟨d.toNat, by omega, by omega⟩
          rw [Int.toNat_natCast] at hsn hxl
          have H37 := Lib.hid (fun w1 hb => dayNameS_any m hm n hi.1 hi.2 w1 (HD.out.below (w' := w1) hb))
          have HSN := Lib.hid hsn
          clear hsn hr hi
          have hal : Below wr.heap.size wr (wr.alloc (.cells #[.int .i64 m, .int .i64 n] 59)) := (Below.refl _ _).alloc (Nat.le_refl _) _
          have hbl2 : Hid (Below w.heap.size w (wr.alloc (.cells #[.int .i64 m, .int .i64 n] 59))) := Lib.hid (hbw.out.trans (hal.mono hbw.out.size))
          have HAL := Lib.hid hal
          clear hal
          have hjl := HJL.out k
          generalize hJ : daysJ (ds.take k) = J at hjl HSN ⊢
          have HJ := Lib.hid hJ
          clear hJ
          have hj0 : Hid (k = 0 → J = []) := Lib.hid (fun h => by rw [← HJ.out, h]; rfl)
          generalize dayStr m n = X at hxl HSN H37
          have z1 := size_mkS J
          have z2 := size_mkS X
          have z3 := size_mkS (J ++ [44])
          rw [List.length_append, List.length_singleton] at z3
          have i0 : (0 : Int) ≤ (k : Int) := Int.natCast_nonneg _
          have i1 : (k : Int) < (ds.length : Int) := by omega
          by_cases h0 : k = 0
          · have hJe := hj0.out h0
            subst hJe
            subst h0
            simp only [Nat.zero_mul, Nat.add_zero] at hcd hcn
            have c1 : mkS [] ++ mkS X = mkS X := str_app [] X
            clear hj0 HJ
            go_wp2_with (first
              | (go_at_call 37; go_must (refine (H37.out _ hbl2.out).mono ?_; rintro e w2 ⟨rfl, hb2⟩))
              | (fail))
            go_roundw
            case rel => exact ⟨1, by omega, by rw [HSN.out]; rfl, by go_num, Lib.hid (HB.out.trans ((HAL.out.trans (hb2.mono HAL.out.size)).mono HB.out.size))⟩
            case measure => simp [intOf]; omega
          · have t1 : decide ((0 : Int) < (k : Int)) = true := by simp; omega
            have c1 : mkS J ++ (⟨#[44]⟩ : ByteArray) = mkS (J ++ [44]) := str_app J [44]
            have c2 : mkS (J ++ [44]) ++ mkS X = mkS (J ++ [44] ++ X) := str_app _ _
            clear hj0 HJ
            go_wp2_with (first
              | (go_at_call 37; go_must (refine (H37.out _ hbl2.out).mono ?_; rintro e w2 ⟨rfl, hb2⟩))
              | (fail))
            go_roundw
            case rel => exact ⟨k + 1, by omega, by rw [HSN.out, if_neg h0], by go_num, Lib.hid (HB.out.trans ((HAL.out.trans (hb2.mono HAL.out.size)).mono HB.out.size))⟩
            case measure => simp [intOf]; omega
        · obtain rfl : k = ds.length := by omega
          have hrp := HRP.out.call HB.out
          rw [List.take_length]
          have HROW := Lib.hid hrp.2.1
          have hne : Hid (w.heap.size ≠ L) := Lib.hid (by have := hrp.2.2; omega)
          have HRP2 := Lib.hid hrp
          obtain ⟨v, hpv⟩ := hrp.1
          have HS := Lib.hid hpv
          have HP : Hid ((chain (optOf r) 9).length ≤ 1000) := Lib.hid (Nat.le_trans (HL.out 9) (by decide))
          clear hrp hpv
          go_upto_region 25 with fail
          have hcx := cell_of_one HS.out.cell
          have zj := size_mkS (daysJ ds)
          have zk := daysJ_len ds HOK.out
          go_wp2_with (at_builtin; go_must (refine wpList_part (keyNm 11, daysJ ds) (.tmp 100) (.tmp 103) HS.out HP.out rfl rfl rfl rfl ?_; intro g2 cc w2 hc2 hps2 hk2; have hcx2 := cell_of_one hc2; have hfx2 := free_of_one hc2))
          go_meet
          exact ⟨rfl, by rw [chain_cons 9 HBB.out, HV11.out]; exact HRP2.out.next hk2 ⟨_, hps2⟩⟩
  case rest =>
  obtain ⟨rfl, hrp⟩ := hcut
  clear HBB HB8
  have hc := hrp.2.1.cell 14 X14.out
  have H : Hid (Calls Tryz.prog 64 #[.string ⟨#[66, 89, 72, 79, 85, 82]⟩, v14, .pointer (some ⟨L, 0, none⟩)] wc fun e w' => e = .returned (.tuple #[]) ∧ PS w L (chain (optOf r) 10 ++ intsQ (keyNm 12) r.ho) w' ∧ KeptR L wc w') := Lib.hid (app64_any w wc L (chain (optOf r) 10) (keyNm 12) r.ho v14 hrp.1 HR.out.l14 HI.out.ho (by have := HN.out.ok.ho.len; exact this) (Nat.le_trans (HL.out 10) (by decide)))
  go_upto_region 27 with (go_at_call 64; go_must (refine H.out.mono ?_; rintro e wn ⟨rfl, hps, hkr⟩))
  have hrp2 := hrp.next hkr hps
  rw [← chain_ints (o := optOf r) 10 r.ho rfl rfl] at hrp2
  clear hrp hps hkr hc H
  have hrp := hrp2
  clear hrp2
  obtain ⟨we12, hwd⟩ : ∃ we12 : World, we12 = wn := ⟨_, rfl⟩
  subst hwd
  have hc := hrp.2.1.cell 15 X15.out
  have H : Hid (Calls Tryz.prog 64 #[.string ⟨#[66, 89, 77, 73, 78, 85, 84, 69]⟩, v15, .pointer (some ⟨L, 0, none⟩)] we12 fun e w' => e = .returned (.tuple #[]) ∧ PS w L (chain (optOf r) 11 ++ intsQ (keyNm 13) r.mi) w' ∧ KeptR L we12 w') := Lib.hid (app64_any w we12 L (chain (optOf r) 11) (keyNm 13) r.mi v15 hrp.1 HR.out.l15 HI.out.mi (by have := HN.out.ok.mi.len; exact this) (Nat.le_trans (HL.out 11) (by decide)))
  go_upto_region 28 with (go_at_call 64; go_must (refine H.out.mono ?_; rintro e wn ⟨rfl, hps, hkr⟩))
  have hrp2 := hrp.next hkr hps
  rw [← chain_ints (o := optOf r) 11 r.mi rfl rfl] at hrp2
  clear hrp hps hkr hc H
  have hrp := hrp2
  clear hrp2
  obtain ⟨we13, hwd⟩ : ∃ we13 : World, we13 = wn := ⟨_, rfl⟩
  subst hwd
  have hc := hrp.2.1.cell 16 X16.out
  have H : Hid (Calls Tryz.prog 64 #[.string ⟨#[66, 89, 83, 69, 67, 79, 78, 68]⟩, v16, .pointer (some ⟨L, 0, none⟩)] we13 fun e w' => e = .returned (.tuple #[]) ∧ PS w L (chain (optOf r) 12 ++ intsQ (keyNm 14) r.se) w' ∧ KeptR L we13 w') := Lib.hid (app64_any w we13 L (chain (optOf r) 12) (keyNm 14) r.se v16 hrp.1 HR.out.l16 HI.out.se (by have := HN.out.ok.se.len; exact this) (Nat.le_trans (HL.out 12) (by decide)))
  go_upto_region 29 with (go_at_call 64; go_must (refine H.out.mono ?_; rintro e wn ⟨rfl, hps, hkr⟩))
  have hrp2 := hrp.next hkr hps
  rw [← chain_ints (o := optOf r) 12 r.se rfl rfl] at hrp2
  clear hrp hps hkr hc H
  have hrp := hrp2
  clear hrp2
  obtain ⟨we14, hwd⟩ : ∃ we14 : World, we14 = wn := ⟨_, rfl⟩
  subst hwd
  have hc := hrp.2.1.cell 17 X17.out
  have H : Hid (Calls Tryz.prog 64 #[.string ⟨#[66, 89, 69, 65, 83, 84, 69, 82]⟩, v17, .pointer (some ⟨L, 0, none⟩)] we14 fun e w' => e = .returned (.tuple #[]) ∧ PS w L (chain (optOf r) 13 ++ intsQ (keyNm 15) r.ea) w' ∧ KeptR L we14 w') := Lib.hid (app64_any w we14 L (chain (optOf r) 13) (keyNm 15) r.ea v17 hrp.1 HR.out.l17 HI.out.ea (by have := HN.out.ok.ea.len; exact this) (Nat.le_trans (HL.out 13) (by decide)))
  go_upto_region 30 with (go_at_call 64; go_must (refine H.out.mono ?_; rintro e wn ⟨rfl, hps, hkr⟩))
  have hrp2 := hrp.next hkr hps
  rw [← chain_ints (o := optOf r) 13 r.ea rfl rfl] at hrp2
  clear hrp hps hkr hc H
  have hrp := hrp2
  clear hrp2
  obtain ⟨⟨v, hps⟩, _⟩ := hrp
  rw [chain_eq] at hps
  obtain ⟨g, cc, hv⟩ := own_slice hps.own
  subst hv
  have hcx := cell_of_one hps.cell
  have HS := Lib.hid hps
  clear hps
  go_wp2
  go_ret
  exact ⟨_, rfl, HS.out.own, HS.out.hb⟩
end Go.Proofs.YtcfbkkcamiephaaGreatDoor
namespace Go.Proofs.YtcfbkkcamiephaaGreatDoor
open Go.RowKit

/-! ### PartsText -/
structure PartRow (w : World) (g gq : Nat) (P : List Part) : Prop where
  lt : g < w.heap.size
  cell : ∀ i p, P[i]? = some p → w.cell? ⟨g, gq + i * 2, none⟩ = some (strV p.1) ∧ w.cell? ⟨g, gq + i * 2 + 1, none⟩ = some (strV p.2)
theorem PartRow.below {w w' : World} {g gq : Nat} {P : List Part} (h : PartRow w g gq P) (hb : Below w.heap.size w w') : PartRow w' g gq P :=
  ⟨Nat.lt_of_lt_of_le h.lt hb.size, fun i p hp => ⟨cell_below hb (h.cell i p hp).1, cell_below hb (h.cell i p hp).2⟩⟩
/-- a slice of parts, wherever it begins in its block -/
def PartsV (w : World) (v : Value) (P : List Part) : Prop := ∃ a c, v = .slice a P.length c ∧ (P = [] ∨ ∃ g gq, a = some ⟨g, gq, none⟩ ∧ PartRow w g gq P)
theorem PartsV.below {w w' : World} {v : Value} {P : List Part} (h : PartsV w v P) (hb : Below w.heap.size w w') : PartsV w' v P := by
  obtain ⟨a, c, h1, h2⟩ := h
  refine ⟨a, c, h1, ?_⟩
  rcases h2 with h2 | ⟨g, gq, h2, h3⟩
  · exact .inl h2
  · exact .inr ⟨g, gq, h2, h3.below hb⟩
theorem flatP_at (P : List Part) (i : Nat) (p : Part) (h : P[i]? = some p) : (flatP P)[i * 2]? = some (strV p.1) ∧ (flatP P)[i * 2 + 1]? = some (strV p.2) := by
  induction P generalizing i with
  | nil => simp at h
  | cons q r ih =>
    cases i with
    | zero => simp at h; subst h; exact ⟨rfl, rfl⟩
    | succ i =>
      have := ih i (by simpa using h)
      have e : flatP (q :: r) = strV q.1 :: strV q.2 :: flatP r := rfl
      rw [e, show (i + 1) * 2 = i * 2 + 1 + 1 by omega, show i * 2 + 1 + 1 + 1 = (i * 2 + 1) + 1 + 1 by omega]
      simpa using this
theorem parts_own {w : World} {B : Nat} {v : Value} {P : List Part} (h : w.ownsRow B 46 2 v P.length (flatP P)) : PartsV w v P := by
  have h' := h
  obtain ⟨h1, h2⟩ := h
  rcases h2 with ⟨hv, h0⟩ | ⟨g, cap, cur, hv, hb, hh, hc, hm, hs, ht⟩
  · exact ⟨none, 0, by rw [hv, h0], .inl (List.eq_nil_of_length_eq_zero h0)⟩
  · refine ⟨_, cap, hv, .inr ⟨g, 0, rfl, (Array.getElem?_eq_some_iff.1 hh).1, fun i p hp => ?_⟩⟩
    have hcell := h'.cells (g := g) (by rw [hv]; rfl)
    have hadd : ∀ j, (⟨g, 0, none⟩ : Addr).add j = ⟨g, j, none⟩ := fun j => by unfold Addr.add; split <;> simp_all
    obtain ⟨e0, e1⟩ := flatP_at P i p hp
    rw [Nat.zero_add]
    exact ⟨by rw [← hadd]; exact hcell _ _ e0, by rw [← hadd]; exact hcell _ _ e1⟩
def joinP (P : List Part) : List UInt8 := Lib.join (P.map fun p => pTx p.1 p.2) [59]
theorem joinP_snoc (P : List Part) (k : Nat) (h : k < P.length) : joinP (P.take (k + 1)) = if k = 0 then pTx P[k].1 P[k].2 else joinP (P.take k) ++ 59 :: pTx P[k].1 P[k].2 := by
  unfold joinP
  rw [List.take_succ_eq_append_getElem h, List.map_append, List.map_cons, List.map_nil, join_snoc]
  by_cases h0 : k = 0
  · subst h0; simp
  · rw [if_neg h0, if_neg (by
      intro e
      have := congrArg List.length e
      rw [List.length_map, List.length_take, List.length_nil] at this
      omega)]
structure PartsShort (P : List Part) : Prop where
  len : P.length ≤ 1000
  each : ∀ p ∈ P, p.1.length ≤ 1000 ∧ p.2.length ≤ 30000
theorem PartsShort.take {P : List Part} (h : PartsShort P) (k : Nat) : PartsShort (P.take k) := ⟨by rw [List.length_take]; have := h.len; omega, fun p hp => h.each p (List.mem_of_mem_take hp)⟩
theorem joinP_len {P : List Part} (h : PartsShort P) : (joinP P).length ≤ 32000000 := by
  have := joinL_le (P.map fun p => pTx p.1 p.2) 59 31001 (fun x hx => by
    obtain ⟨p, hp, rfl⟩ := List.mem_map.1 hx
    have := h.each p hp
    simp only [pTx, List.length_append, List.length_cons, List.length_nil]; omega)
  have hl := h.len
  rw [List.length_map] at this
  unfold joinP
  have h2 : P.length * (31001 + 1) ≤ 1000 * 31002 := Nat.mul_le_mul hl (Nat.le_refl _)
  omega
set_option maxRecDepth 100000 in
set_option maxHeartbeats 3200000 in
/-- spec.PartsText. -/
theorem partsText_any (P : List Part) (v : Value) (w : World) (hv : PartsV w v P) (hs : PartsShort P) :
    Calls Tryz.prog 30 #[v] w fun e w' => e = .returned (.string (mkS (joinP P))) ∧ Below w.heap.size w w' := by
  obtain ⟨a, c, rfl, hr⟩ := hv
  have HR := Lib.hid hr
  have HS := Lib.hid hs
  have HPL := hs.len
  clear hr hs
  go_enter Tryz.func30, Tryz.ntmps30
  go_wp2
  go_loopw [3, 8] (fun s i wr => ∃ k : Nat, k ≤ P.length ∧ s = .string (mkS (joinP (P.take k))) ∧ i = .int .i64 k ∧ Hid (Below w.heap.size w wr)) (fun _ i _ => P.length - (intOf i).toNat)
  case atStart => exact ⟨0, by omega, rfl, rfl, Lib.hid (Below.refl _ _)⟩
  case round =>
    obtain ⟨k, hk, rfl, rfl, HB⟩ := hrel
    by_cases hlt : k < P.length
    · obtain ⟨g, gq, rfl, hg⟩ : ∃ g gq, a = some ⟨g, gq, none⟩ ∧ PartRow w g gq P := by
        rcases HR.out with h | h
        · rw [h] at hlt; simp at hlt
        · exact h
      obtain ⟨hc0, hc1⟩ := (hg.below HB.out).cell k P[k] (by simp [hlt])
      have hsn := joinP_snoc P k hlt
      have hal := joinP_len (HS.out.take k)
      obtain ⟨hx1, hx2⟩ := HS.out.each P[k] (List.getElem_mem hlt)
      generalize P[k] = q at hc0 hc1 hsn hx1 hx2
      obtain ⟨x, y⟩ := q
      simp only [strV] at hc0 hc1 hsn hx1 hx2
      have hk0 : (0 : Int) ≤ (k : Int) := Int.natCast_nonneg _
      have hk1 : (k : Int) < (P.length : Int) := by omega
      have HSN := Lib.hid hsn
      have HAL : Hid (Below wr.heap.size wr (wr.alloc (.cells #[.string (mkS x), .string (mkS y)] 46))) := Lib.hid ((Below.refl _ _).alloc (Nat.le_refl _) _)
      clear hsn hg
      generalize hA : joinP (P.take k) = A at hal HSN
      have hA0 : Hid (k = 0 → A = []) := Lib.hid (fun h => by subst h; rw [← hA]; rfl)
      clear hA
      have z1 := size_mkS A
      have z2 := size_mkS x
      have z3 := size_mkS y
      obtain ⟨s1, h1⟩ : ∃ s, s = x ++ [61] := ⟨_, rfl⟩
      obtain ⟨s2, h2⟩ : ∃ s, s = s1 ++ y := ⟨_, rfl⟩
      obtain ⟨a1, h3⟩ : ∃ s, s = A ++ [59] := ⟨_, rfl⟩
      obtain ⟨a2, h4⟩ : ∃ s, s = a1 ++ s2 := ⟨_, rfl⟩
      have z4 := size_mkS s1
      have z5 := size_mkS s2
      have z6 := size_mkS a1
      have l4 : s1.length = x.length + 1 := by rw [h1]; simp
      have l5 : s2.length = s1.length + y.length := by rw [h2]; simp
      have l6 : a1.length = A.length + 1 := by rw [h3]; simp
      have c3 : mkS x ++ (⟨#[61]⟩ : ByteArray) = mkS s1 := by rw [h1]; exact str_app x [61]
      have c4 : mkS s1 ++ mkS y = mkS s2 := by rw [h2]; exact str_app _ _
      have HS2 : Hid (pTx x y = s2) := Lib.hid (by rw [h2, h1]; rfl)
      have HA2 : Hid (A ++ 59 :: s2 = a2) := Lib.hid (by rw [h4, h3]; simp)
      by_cases h0 : k = 0
      · have hAe := hA0.out h0
        clear hA0 h1 h2 h4 HA2
        subst hAe
        subst h0
        simp only [Nat.zero_mul, Nat.add_zero] at hc0 hc1
        have c1 : mkS [] ++ mkS s2 = mkS s2 := str_app [] _
        clear h3
        go_wp2
        go_roundw
        case rel => exact ⟨1, by omega, by rw [HSN.out, ← HS2.out]; rfl, by go_num, Lib.hid (HB.out.trans (HAL.out.mono HB.out.size))⟩
        case measure => simp [intOf]; omega
      · have t1 : decide ((0 : Int) < (k : Int)) = true := by simp; omega
        have c1 : mkS A ++ (⟨#[59]⟩ : ByteArray) = mkS a1 := by rw [h3]; exact str_app A [59]
        have c2 : mkS a1 ++ mkS s2 = mkS a2 := by rw [h4]; exact str_app _ _
        clear hA0 h1 h2 h3 h4
        go_wp2
        go_roundw
        case rel => exact ⟨k + 1, by omega, by rw [HSN.out, if_neg h0, HS2.out, HA2.out], by go_num, Lib.hid (HB.out.trans (HAL.out.mono HB.out.size))⟩
        case measure => simp [intOf]; omega
    · obtain rfl : k = P.length := by omega
      go_wp2
      go_ret
      exact ⟨by rw [List.take_length]; rfl, HB.out⟩
/-! ### RuleString, OptionText -/
theorem pairs_joinP (o : Opt) : joinP (pairsOf o) = rrL o := by
  rw [rrL_joinT]
  unfold joinP joinT pairsOf
  rw [List.map_map]; rfl
theorem valL_len (o : Opt) (h : OptOk o) (i : Nat) (hp : presB o i = true) : (valL o i).length ≤ 30000 := by
  have hs := partsP_short o h
  by_cases h1 : i = 1
  · subst h1
    show (stampS o.st.1).length ≤ _
    rw [stampS_len _ h.st]; decide
  · have hi := (mem_idxs o i).2 ⟨⟨pres_lt hp, h1⟩, hp⟩
    have := hs.2 (txt o i) (by rw [partsP_idxs]; exact List.mem_map.2 ⟨i, hi, rfl⟩)
    simp only [txt, pTx, List.length_append] at this
    omega
theorem pairs_short (o : Opt) (h : OptOk o) : PartsShort (pairsOf o) := by
  refine ⟨?_, fun p hp => ?_⟩
  · unfold pairsOf idxs
    rw [List.length_map]
    exact Nat.le_trans (List.length_filter_le ..) (by decide)
  · obtain ⟨i, hi, rfl⟩ := List.mem_map.1 hp
    exact ⟨Nat.le_trans (keyNm_len i) (by decide), valL_len o h i (idxs_pres o i hi)⟩
set_option maxRecDepth 100000 in
set_option maxHeartbeats 3200000 in
/-- spec.RuleString. -/
theorem ruleStringS_any (r : RuleD) (v : Value) (w : World) (hD : DayNms w) (hF : Freqs w) (hv : RuleIs w v r) (hT : TextR r) (hI : RuleIn r) :
    Calls Tryz.prog 35 #[v] w fun e w' => e = .returned (.string (mkS (rrL (optOf r)))) ∧ Below w.heap.size w w' := by
  obtain ⟨cs, rfl, hcs, hc1⟩ := ruleVal_cells hv
  have hal : Below w.heap.size w (w.alloc (.cells cs 26)) := (Below.refl _ _).alloc (Nat.le_refl _) _
  have hbox : (w.alloc (.cells cs 26)).heap[w.heap.size]? = some (.cells cs 26 (0, 0)) := heap_alloc_new w _
  have H29 := Lib.hid (ruleParts_any r (.agg cs) (w.alloc (.cells cs 26)) (hD.below hal) (hF.below hal) (hv.below hal) hT hI)
  have H30 : Hid (∀ (v : Value) (w1 : World), PartsV w1 v (pairsOf (optOf r)) → Calls Tryz.prog 30 #[v] w1 fun e w' => e = .returned (.string (mkS (rrL (optOf r)))) ∧ Below w1.heap.size w1 w') := Lib.hid (fun v w1 h => by
    rw [← pairs_joinP]; exact partsText_any _ v w1 h (pairs_short _ (optN_of hT hI).ok))
  have HBX := Lib.hid hbox
  have HCS := Lib.hid hcs
  have HAL := Lib.hid hal
  clear hbox hcs hv hal hT hI hD hF
  generalize rrL (optOf r) = T at *
  generalize pairsOf (optOf r) = P at *
  go_enter Tryz.func35, Tryz.ntmps35
  go_wp2_with (first
    | (refine wpList_load_row rfl 26 _ rfl w.heap.size rfl 26 cs (0, 0) _ HBX.out Tryz.underlying26 rfl (by rw [HCS.out]; as_aux_lemma => kernel_rfl) ?_)
    | (go_at_call 29; go_must (refine H29.out.mono ?_; rintro e w1 ⟨v1, rfl, hown, hb1⟩; obtain ⟨g, cc, hv1⟩ := own_slice hown; subst hv1; have HB1 := HAL.out.trans (hb1.mono HAL.out.size)))
    | (go_at_call 30; go_must (refine (H30.out _ _ (parts_own hown)).mono ?_; rintro e w2 ⟨rfl, hb2⟩)))
  go_ret
  exact ⟨rfl, HB1.trans (hb2.mono HB1.size)⟩

/-- what OptionText's region holds of the world -/
structure OT (w : World) (xs : List Value) (W : World) : Prop where
  row : RowAt W w.heap.size 26 xs
  hb : Below (w.heap.size + 1) (w.alloc (.cells xs.toArray 26)) W
theorem OT.call {w W w1 : World} {xs : List Value} (h : OT w xs W) (hb : Below W.heap.size W w1) : OT w xs w1 := ⟨h.row.below hb, h.hb.trans (hb.mono (by have := h.row.lt; omega))⟩
attribute [local go_sem ↓] lockL_eq
set_option maxRecDepth 100000 in
set_option maxHeartbeats 6400000 in
/-- spec.OptionText. -/
theorem optionTextS_any (r : RuleD) (v : Value) (w : World) (hD : DayNms w) (hF : Freqs w) (hv : RuleIs w v r) (hT : TextR r) (hI : RuleIn r) :
    Calls Tryz.prog 28 #[v] w fun e w' => e = .returned (.string (mkS (optL (optOf r)))) ∧ Below w.heap.size w w' := by
  have hal0 : ∀ cs : Array Value, Below w.heap.size w (w.alloc (.cells cs 26)) := fun cs => (Below.refl _ _).alloc (Nat.le_refl _) _
  obtain ⟨cs, rfl, hcs, hc1⟩ := ruleVal_cells hv
  have hq : cs[1]? = some (.bool r.hs) ∧ cs[2]? = some (.int .i64 r.st) := by
    obtain ⟨v8, v9, v10, v11, v12, v13, v14, v15, v16, v17, he, hR⟩ := hv
    injection he with he
    subst he
    exact ⟨rfl, rfl⟩
  obtain ⟨xs, hxs⟩ : ∃ xs, xs = cs.toList := ⟨_, rfl⟩
  have hxa : xs.toArray = cs := by rw [hxs]
  have Q1 : Hid (xs[1]? = some (.bool r.hs)) := Lib.hid (by rw [hxs]; simpa using hq.1)
  have Q2 : Hid (xs[2]? = some (.int .i64 r.st)) := Lib.hid (by rw [hxs]; simpa using hq.2)
  have hbox : RowAt (w.alloc (.cells cs 26)) w.heap.size 26 xs := ⟨by rw [heap_alloc_new, hxa]⟩
  have hal := hal0 cs
  have hld : ∀ W, RowAt W w.heap.size 26 xs → (lockLoad ⟨w.heap.size, 0, none⟩ 18).run Tryz.prog W = .ok cs W := fun W h => lockLoad_arr cs 18 hcs (fun i => by rw [h.cells, hxs]; simp)
  have HLD := Lib.hid hld
  have H35 : Hid (∀ w1, Below (w.heap.size + 1) (w.alloc (.cells xs.toArray 26)) w1 → Calls Tryz.prog 35 #[.agg cs] w1 fun e w' => e = .returned (.string (mkS (rrL (optOf r)))) ∧ Below w1.heap.size w1 w') := Lib.hid (fun w1 hb => by
    rw [hxa] at hb
    have hb' : Below (w.alloc (.cells cs 26)).heap.size (w.alloc (.cells cs 26)) w1 := by simpa using hb
    exact ruleStringS_any r (.agg cs) w1 ((hD.below hal).below hb') ((hF.below hal).below hb') ((hv.below hal).below hb') hT hI)
  have H33 := Lib.hid (fun w1 => textTime_any r.st w1 hT.st)
  have hOT : OT w xs (w.alloc (.cells cs 26)) := ⟨hbox, by rw [hxa]; exact Below.refl _ _⟩
  have hst := stampS_len r.st hT.st
  have hrl := rrL_len _ (optN_of hT hI).ok
  have hhs := hT.hs
  have HO1 : Hid (r.hs = false → optL (optOf r) = rrL (optOf r)) := Lib.hid (fun h => by
    unfold optL; rw [if_pos]; show isZ ((if r.hs = true then r.st else 0), 0) = true; rw [h]; rfl)
  have HO2 : Hid (r.hs = true → optL (optOf r) = [68, 84, 83, 84, 65, 82, 84, 58] ++ stampS r.st ++ [10, 82, 82, 85, 76, 69, 58] ++ rrL (optOf r)) := Lib.hid (fun h => by
    have hz : r.st ≠ 0 := by rw [h] at hhs; simpa using hhs.symm
    have e : (optOf r).st = (r.st, 0) := by show ((if r.hs = true then r.st else 0), (0 : Int)) = _; rw [if_pos h]
    unfold optL
    rw [if_neg (by rw [e]; simp [isZ, hz]), e]
    simp [dtL, rfcL, nlL])
  have HXA := Lib.hid hxa
  have hbl : Hid (∀ W, OT w xs W → Below w.heap.size w W) := Lib.hid (fun W h => by
    have := h.hb
    rw [hxa] at this
    exact hal.trans (this.mono (by omega)))
  have HOT := Lib.hid hOT
  have c1 := hbox.cell 1 Q1.out
  have c2 := hbox.cell 2 Q2.out
  clear hbox hcs hv hal hT hI hD hF hq hxs hxa hld hOT hal0 hc1
  generalize rrL (optOf r) = T at *
  generalize optL (optOf r) = R at *
  generalize stampS r.st = st at *
  have z1 := size_mkS T
  have z2 := size_mkS st
  obtain ⟨a1, h1⟩ : ∃ s, s = [68, 84, 83, 84, 65, 82, 84, 58] ++ st := ⟨_, rfl⟩
  obtain ⟨a2, h2⟩ : ∃ s, s = a1 ++ [10, 82, 82, 85, 76, 69, 58] := ⟨_, rfl⟩
  obtain ⟨a3, h3⟩ : ∃ s, s = a2 ++ T := ⟨_, rfl⟩
  have z3 := size_mkS a1
  have z4 := size_mkS a2
  have l3 : a1.length = 24 := by rw [h1]; simp [hst]
  have l4 : a2.length = 31 := by rw [h2]; simp [l3]
  rw [l3] at z3
  rw [l4] at z4
  clear l3 l4
  have k1 : ({ data := #[68, 84, 83, 84, 65, 82, 84, 58] } : ByteArray) ++ mkS st = mkS a1 := by rw [h1]; exact str_app _ _
  have k2 : mkS a1 ++ ({ data := #[10, 82, 82, 85, 76, 69, 58] } : ByteArray) = mkS a2 := by rw [h2]; exact str_app _ [10, 82, 82, 85, 76, 69, 58]
  have k3 : mkS a2 ++ mkS T = mkS a3 := by rw [h3]; exact str_app _ _
  have HO2 : Hid (r.hs = true → R = a3) := Lib.hid (fun h => by rw [HO2.out h, h3, h2, h1])
  clear h1 h2 h3
  generalize r.st = n at *
  cases hh : r.hs with
  | false =>
    rw [hh] at c1 HO1
    clear HO2 hhs k1 k2 k3 z3 z4
    go_enter Tryz.func28, Tryz.ntmps28
    go_upto_region 2 with fail
    change Code.wp _ _ _ _ (w.alloc (.cells cs 26))
    generalize w.alloc (.cells cs 26) = W0 at *
    have hld := HLD.out _ HOT.out.row
    go_wp2_with (go_at_call 35; go_must (refine (H35.out _ HOT.out.hb).mono ?_; rintro e w1 ⟨rfl, hb1⟩))
    go_ret
    exact ⟨by rw [HO1.out (by simp)]; rfl, hbl.out _ (HOT.out.call hb1)⟩
  | true =>
    rw [hh] at c1 hhs HO2
    have d1 : (n == 0) = false := by simpa using hhs.symm
    have HR := Lib.hid (HO2.out (by simp))
    clear HO1 HO2 hhs
    go_enter Tryz.func28, Tryz.ntmps28
    go_upto_region 3 with fail
    change Code.wp _ _ _ _ (w.alloc (.cells cs 26))
    generalize w.alloc (.cells cs 26) = W0 at *
    refine wp_region_table (β := Unit) (fun _ => #[.agg cs, .pointer (some ⟨w.heap.size, 0, none⟩), .string (mkS a3), .pointer (some ⟨w.heap.size, 1, none⟩), .bool true, .bool false, .bool false, .pointer (some ⟨w.heap.size, 2, none⟩), .int .i64 n, .bool false, .bool false, undef, undef, .pointer (some ⟨w.heap.size, 2, none⟩), .int .i64 n, .string (mkS st), .string (mkS a1), .string (mkS a2), .agg cs, .string (mkS T), .string (mkS a3)]) (fun _ _ W => OT w xs W) 21 (fun _ => rfl) rfl (by kernel_rfl) () rfl [2, 13, 14, 15, 16, 17, 18, 19, 20] (by kernel_rfl) (by kernel_rfl) (HOT.out.call (Below.refl _ _).drew) ?hs ?hdone
    case hs =>
      refine ⟨StepF.of (fun b listed w1 hB hf hdep K' Q' hK' => ?_), ?_⟩
      · clear hf hdep
        go_simp
        refine hK'.out _ _ ⟨rfl, b, fun _ _ => rfl, fun d e => (by cases e; rfl), hB⟩
      refine ⟨StepF.of (fun b listed w1 hB hf hdep K' Q' hK' => ?_), ?_⟩
      · clear hf hdep
        have hcx := hB.row.cell 2 Q2.out
        go_simp
        refine hK'.out _ _ ⟨rfl, b, fun _ _ => rfl, fun d e => (by cases e; rfl), hB⟩
      refine ⟨StepF.of (fun b listed w1 hB hf hdep K' Q' hK' => ?_), ?_⟩
      · clear hf hdep
        go_simp
        go_at_call 33
        refine (H33.out _).mono ?_
        rintro e w2 ⟨rfl, hb2⟩
        try dsimp only
        refine hK'.out _ _ ⟨rfl, b, fun _ _ => rfl, fun d e => (by cases e; rfl), hB.call hb2⟩
      refine ⟨StepF.of (fun b listed w1 hB hf hdep K' Q' hK' => ?_), ?_⟩
      · clear hf hdep
        go_simp
        (try rw [if_neg (by omega)])
        go_simp
        refine hK'.out _ _ ⟨rfl, b, fun _ _ => rfl, fun d e => (by cases e; rfl), hB⟩
      refine ⟨StepF.of (fun b listed w1 hB hf hdep K' Q' hK' => ?_), ?_⟩
      · clear hf hdep
        go_simp
        (try rw [if_neg (by omega)])
        go_simp
        refine hK'.out _ _ ⟨rfl, b, fun _ _ => rfl, fun d e => (by cases e; rfl), hB⟩
      refine ⟨StepF.of (fun b listed w1 hB hf hdep K' Q' hK' => ?_), ?_⟩
      · have hld := HLD.out _ hB.row
        clear hf hdep
        go_simp
        refine hK'.out _ _ ⟨rfl, b, fun _ _ => rfl, fun d e => (by cases e; rfl), hB⟩
      refine ⟨StepF.of (fun b listed w1 hB hf hdep K' Q' hK' => ?_), ?_⟩
      · clear hf hdep
        go_simp
        go_at_call 35
        refine (H35.out _ hB.hb).mono ?_
        rintro e w2 ⟨rfl, hb2⟩
        try dsimp only
        refine hK'.out _ _ ⟨rfl, b, fun _ _ => rfl, fun d e => (by cases e; rfl), hB.call hb2⟩
      refine ⟨StepF.of (fun b listed w1 hB hf hdep K' Q' hK' => ?_), ?_⟩
      · clear hf hdep
        go_simp
        (try rw [if_neg (by omega)])
        go_simp
        refine hK'.out _ _ ⟨rfl, b, fun _ _ => rfl, fun d e => (by cases e; rfl), hB⟩
      refine ⟨StepF.of (fun b listed w1 hB hf hdep K' Q' hK' => ?_), ?_⟩
      · clear hf hdep
        go_simp
        refine hK'.out _ _ ⟨rfl, b, fun _ _ => rfl, fun d e => (by cases e; rfl), hB⟩
      trivial
    case hdone =>
      intro b listed w1 hK hall
      clear hall
      go_wp2
      go_ret
      exact ⟨by rw [HR.out]; rfl, hbl.out _ hK⟩
end Go.Proofs.YtcfbkkcamiephaaGreatDoor
