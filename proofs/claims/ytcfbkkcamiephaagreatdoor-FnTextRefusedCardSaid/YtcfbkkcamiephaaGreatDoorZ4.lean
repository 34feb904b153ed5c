import Derived.Test.YtcfbkkcamiephaaGreatDoorZ3
import Derived.Test.YtcfbkkcamiephaaGreatDoorQ4
namespace Go.Proofs.YtcfbkkcamiephaaGreatDoor
open Go.RowKit

attribute [local go_sem ↓] Go.wp_at_zero Go.wp_at_succ lockL_eq

/-! ### FnTextRefused: the walk -/
def namesA : Array Value := #[strV (keyNm 0), strV (keyNm 1), strV (keyNm 2), strV (keyNm 3), strV (keyNm 4), strV (keyNm 5), strV (keyNm 6), strV (keyNm 7), strV (keyNm 8), strV (keyNm 9), strV (keyNm 10), strV (keyNm 11), strV (keyNm 12), strV (keyNm 13), strV (keyNm 14), strV (keyNm 15)]
theorem namesA_at (k : Nat) (h : k < 16) : namesA.toList[k]? = some (strV (keyNm k)) := by
  match k, h with
  | 0, _ | 1, _ | 2, _ | 3, _ | 4, _ | 5, _ | 6, _ | 7, _ | 8, _ | 9, _ | 10, _ | 11, _ | 12, _ | 13, _ | 14, _ | 15, _ => rfl
  | k + 16, h => omega
def BL (k1 k2 : List UInt8) : List (List UInt8) := [k1, k2, keyNm 2 ++ [61], keyNm 2, keyNm 2 ++ [61, 49, 61, 50], []]
def BA (k1 k2 : List UInt8) : Array Value := #[strV k1, strV k2, strV (keyNm 2 ++ [61]), strV (keyNm 2), strV (keyNm 2 ++ [61, 49, 61, 50]), strV []]
theorem BA_at (k1 k2 : List UInt8) (k : Nat) (h : k < 6) : ∃ b, b ∈ BL k1 k2 ∧ (BA k1 k2).toList[k]? = some (strV b) := by
  match k, h with
  | 0, _ | 1, _ | 2, _ | 3, _ | 4, _ | 5, _ => exact ⟨_, by simp [BL], rfl⟩
  | k + 6, h => omega
theorem parts_own2 {w : World} {B : Nat} {v : Value} {P : List Part} (h : w.ownsRow B 46 2 v P.length (flatP P)) (h0 : 0 < P.length) : ∃ g gq c, v = .slice (some ⟨g, gq, none⟩) P.length c ∧ P.length ≤ c ∧ PartRow w g gq P := by
  obtain ⟨a, c, rfl, h2⟩ := parts_own h
  rcases h2 with h2 | ⟨g, gq, rfl, h2⟩
  · rw [h2] at h0; cases h0
  · refine ⟨g, gq, c, rfl, ?_, h2⟩
    rcases h.2 with ⟨hv, h1⟩ | ⟨g', cap, cur, hv, hb, hh, hc, hm, hs, ht⟩
    · omega
    · injection hv with _ _ hv
      subst hv
      omega
theorem PartRow.take {w : World} {g gq : Nat} {P : List Part} (h : PartRow w g gq P) (i : Nat) : PartRow w g gq (P.take i) := ⟨h.lt, fun j p hp => by
  rw [List.getElem?_take] at hp
  split at hp
  · exact h.cell j p hp
  · cases hp⟩
theorem PartRow.drop {w : World} {g gq : Nat} {P : List Part} (h : PartRow w g gq P) (i : Nat) : PartRow w g (gq + i * 2) (P.drop i) := ⟨h.lt, fun j p hp => by
  rw [List.getElem?_drop] at hp
  have := h.cell _ p hp
  rw [show gq + i * 2 + j * 2 = gq + (i + j) * 2 by omega]
  exact this⟩
theorem PartsShort.drop {P : List Part} (h : PartsShort P) (k : Nat) : PartsShort (P.drop k) := ⟨by rw [List.length_drop]; have := h.len; omega, fun p hp => h.each p (List.mem_of_mem_drop hp)⟩
def RefS (w : World) (B1 : Nat) (cs : Array Value) (r : RuleD) (nc : Nat) (N : List Value) (g gq : Nat) (P : List Part) (W : World) : Prop := CkS w B1 cs r W ∧ RowAt W nc 9 N ∧ PartRow W g gq P
theorem RefS.call {w : World} {B1 : Nat} {cs : Array Value} {r : RuleD} {nc : Nat} {N : List Value} {g gq : Nat} {P : List Part} {W w1 : World} (h : RefS w B1 cs r nc N g gq P W) (hb : Below W.heap.size W w1) : RefS w B1 cs r nc N g gq P w1 := ⟨ck_call h.1 hb, h.2.1.below hb, h.2.2.below hb⟩
theorem beq_ne {a b : List UInt8} (h : ((mkS a).toList == (mkS b).toList) = false) : b ≠ a := fun e => by subst e; simp at h
set_option maxRecDepth 100000 in
set_option maxHeartbeats 51200000 in
theorem law_refused (hrule : RuleAny) (r : RuleD) (v : Value) (key : List UInt8) (n2 : Nat) (hn2 : n2 ≤ 255) (w : World) (hG : Good w) (hD : DayNms w) (hF : Freqs w) (hv : RuleIs w v r) (hin : RuleIn r) :
    Calls Tryz.prog 8 #[v, .string (mkS key), .int .u8 (n2 : Int)] w fun e w' => e = .returned (.bool true) ∧ Below w.heap.size w w' := by
  obtain ⟨cs, rfl, hcs, hc1⟩ := ruleVal_cells hv
  have hal : Below w.heap.size w (w.alloc (.cells cs 26)) := (Below.refl _ _).alloc (Nat.le_refl _) _
  have hbox : RowAt (w.alloc (.cells cs 26)) w.heap.size 26 cs.toList := ⟨by rw [heap_alloc_new]⟩
  have HBX := Lib.hid hbox
  have HCS := Lib.hid hcs
  have HV := Lib.hid (hv.below hal)
  have HAL := Lib.hid hal
  have HG := Lib.hid hG
  have HD := Lib.hid hD
  have HF := Lib.hid hF
  have zk := size_mkS key
  have H19 := Lib.hid (fun w hG => awake_any hrule option_any w hG)
  have H24 := Lib.hid (fun w hv => fits_any r (.agg cs) w hv)
  clear hbox hcs hv hal hG hD hF
  cases hfit : fitsB r with
  | false =>
    rw [hfit] at H24
    clear hfit H19 hrule hin HG HD HF
    go_enter Tryz.func8, Tryz.ntmps8
    go_wp2_with (first
      | (refine wpList_load_row rfl 26 _ rfl w.heap.size rfl 26 cs (0, 0) _ HBX.out.blk Tryz.underlying26 rfl (by rw [HCS.out]; as_aux_lemma => kernel_rfl) ?_)
      | (go_at_call 24; go_must (refine (H24.out _ HV.out).mono ?_; rintro e w1 ⟨rfl, hb1⟩))
      | (fail))
    go_ret
    exact ⟨rfl, HAL.out.trans (hb1.mono HAL.out.size)⟩
  | true =>
    have hdl : r.dy.length ≤ 2147483647 := by
      simp only [fitsB, Bool.and_eq_true, decide_eq_true_eq] at hfit
      exact hfit.1.1.1.1.2
    rw [hfit] at H24
    have H25 := Lib.hid (fun w hv => textRule_any r (.agg cs) w hv hin.fq hdl)
    clear hfit hdl
    have HIN := Lib.hid hin
    have HRL := Lib.hid hrule
    clear hin hrule
    obtain ⟨p1, hp1⟩ : ∃ q, decide ((2147483647 : Int) < (key.length : Int)) = q := ⟨_, rfl⟩
    cases p1 with
    | true =>
      go_enter Tryz.func8, Tryz.ntmps8
      go_wp2_with (first
        | (refine wpList_load_row rfl 26 _ rfl w.heap.size rfl 26 cs (0, 0) _ HBX.out.blk Tryz.underlying26 rfl (by rw [HCS.out]; as_aux_lemma => kernel_rfl) ?_)
        | (go_at_call 24; go_must (refine (H24.out _ HV.out).mono ?_; rintro e w1 ⟨rfl, hb1⟩))
        | (fail))
      go_ret
      exact ⟨rfl, HAL.out.trans (hb1.mono HAL.out.size)⟩
    | false =>
    go_enter Tryz.func8, Tryz.ntmps8
    go_upto_region 3 with (first
      | (refine wpList_load_row rfl 26 _ rfl w.heap.size rfl 26 cs (0, 0) _ HBX.out.blk Tryz.underlying26 rfl (by rw [HCS.out]; as_aux_lemma => kernel_rfl) ?_)
      | (go_at_call 24; go_must (refine (H24.out _ HV.out).mono ?_; rintro e w1 ⟨rfl, hb1⟩; have HB1 := Lib.hid hb1; clear hb1))
      | (fail))
    have hr1 := Lib.hid (HBX.out.below HB1.out)
    obtain ⟨q1, hq1⟩ : ∃ q, ((key.length : Int) == 0) = q := ⟨_, rfl⟩
    obtain ⟨q2, hq2⟩ : ∃ q, decide ((20 : Int) < (key.length : Int)) = q := ⟨_, rfl⟩
    have hcut3 : ∀ b : Bool, True := fun _ => trivial
    go_cut [39] from 27 to 39 (fun c wx => ∃ b c' : Bool, c = .bool c' ∧ Hid (c' = (!b || q1 || q2)) ∧ Hid (b = true → TextR r) ∧ Hid (Below w1.heap.size w1 wx))
    case first =>
      cases q1 <;> cases q2
      all_goals
        go_wp2_with (first
          | (refine wpList_load_row rfl 26 _ rfl w.heap.size rfl 26 cs (0, 0) _ hr1.out.blk Tryz.underlying26 rfl (by rw [HCS.out]; as_aux_lemma => kernel_rfl) ?_)
          | (go_at_call 25; go_must (refine (H25.out _ (HV.out.below HB1.out)).mono ?_; rintro e w2 ⟨b, rfl, hT, hb2⟩; have HTb := Lib.hid hT; have HBb := Lib.hid hb2; clear hT hb2; cases b))
          | (fail))
        all_goals
          go_meet
          first
            | exact ⟨false, _, rfl, Lib.hid rfl, Lib.hid (fun h => by cases h), HBb⟩
            | exact ⟨true, _, rfl, Lib.hid rfl, Lib.hid (fun _ => HTb.out (by simp)), HBb⟩
    case rest =>
    obtain ⟨b, c', rfl, HCC, HT, HB2⟩ := hcut
    clear hcut3
    have hB2 : Hid (Below w.heap.size w wc) := Lib.hid ((HAL.out.trans (HB1.out.mono HAL.out.size)).trans (HB2.out.mono (HAL.out.trans (HB1.out.mono HAL.out.size)).size))
    cases c' with
    | true =>
      go_wp2_with (first
        | (go_at_call 19; go_must (refine (H19.out _ (HG.out.below hB2.out)).mono ?_; rintro e w3 ⟨rfl, hb3⟩))
        | (fail))
      go_ret
      exact ⟨rfl, hB2.out.trans (hb3.mono hB2.out.size)⟩
    | false =>
      have hbs : (!b || q1 || q2) = false := HCC.out.symm
      clear HCC
      have hbs : b = true ∧ q1 = false ∧ q2 = false := by cases b <;> cases q1 <;> cases q2 <;> simp_all
      obtain ⟨rfl, rfl, rfl⟩ := hbs
      have hk20 : key.length ≤ 20 := by have := of_decide_eq_false hq2; omega
      have hT := HT.out rfl
      have hN := optN_of hT HIN.out
      have hPne : 0 < (pairsOf (optOf r)).length := by
        unfold pairsOf
        rw [List.length_map]
        exact List.length_pos_iff.2 (idxs_ne _)
      have h29 : Hid (∀ W, CkS w w.heap.size cs r W → Calls Tryz.prog 29 #[.agg cs] W fun e w' => ∃ g gq c, e = .returned (.slice (some ⟨g, gq, none⟩) (pairsOf (optOf r)).length c) ∧ (pairsOf (optOf r)).length ≤ c ∧ PartRow w' g gq (pairsOf (optOf r)) ∧ Below W.heap.size W w') := Lib.hid (fun W h => (ruleParts_any r (.agg cs) W h.2.dn h.2.fr h.2.r1 hT HIN.out).mono fun e w' ⟨v', h1, h2, h3⟩ => by
        obtain ⟨g, gq, c, rfl, h4, h5⟩ := parts_own2 h2 hPne
        exact ⟨g, gq, c, h1, h4, h5, h3⟩)
      have HPS := Lib.hid (pairs_short (optOf r) hN.ok)
      have hRef := refused_at (optOf r) hN
      have hTl := refused_tail (optOf r) hN
      have htk := take_short (optOf r) hN.ok
      have hdk := drop_short (optOf r) hN.ok
      have h21 : Hid (∀ l W, l.length ≤ 1000000 → optT l = none → CkS w w.heap.size cs r W → Calls Tryz.prog 21 #[.string (mkS l)] W fun e w' => e = .returned (.tuple #[.agg ruleZ0, .bool false]) ∧ Below W.heap.size W w') := Lib.hid (fun l W hl ho hW => by
        have h := parse21_any HRL.out l W hW.2.good hl
        rw [ho] at h
        exact h.mono fun e w' ⟨a, b⟩ => ⟨b, a⟩)
      have hr2 := Lib.hid (hr1.out.below HB2.out)
      have hV2 := Lib.hid ((HV.out.below HB1.out).below HB2.out)
      have hK0 : CkS w w.heap.size cs r wc :=
        ⟨fun i => by rw [hr2.out.cells]; simp, hr2.out.lt, hB2.out, HG.out.below hB2.out, HD.out.below hB2.out, HF.out.below hB2.out, hV2.out⟩
      have HRef := Lib.hid hRef
      have HTl := Lib.hid hTl
      have Htk := Lib.hid htk
      have Hdk := Lib.hid hdk
      have HK0 := Lib.hid hK0
      clear hT hN HT HRL HIN H24 H25 HBX HV HB1 HAL hr1 HB2 hr2 hV2 hB2 HG HD HF hK0 hRef hTl htk hdk hq2
      generalize pairsOf (optOf r) = P at *
      go_wp2
      go_loopw [43] (fun i wr => ∃ k : Nat, k ≤ key.length ∧ i = .int .i64 k ∧ wr = wc ∧ Hid (∀ j c, j < k → key[j]? = some c → 65 ≤ c.toNat ∧ c.toNat ≤ 90)) (fun i _ => key.length - (intOf i).toNat)
      case atStart => exact ⟨0, by omega, rfl, rfl, Lib.hid (fun j c h => by omega)⟩
      case round =>
      obtain ⟨k, hk, rfl, rfl, HKC⟩ := hrel
      by_cases hlt : k < key.length
      case pos =>
        have hx := idx_bt key k hlt (by rw [zk]; exact hlt)
        have hget : Hid (key[k]? = some key[k]) := Lib.hid (by simp [hlt])
        generalize key[k] = c at *
        obtain ⟨t1, ht1⟩ : ∃ q, decide ((c.toNat : Int) < 65) = q := ⟨_, rfl⟩
        obtain ⟨t2, ht2⟩ : ∃ q, decide ((90 : Int) < (c.toNat : Int)) = q := ⟨_, rfl⟩
        by_cases htt : t1 = false ∧ t2 = false
        case neg =>
          have hp : t1 = true ∨ (t1 = false ∧ t2 = true) := by cases t1 <;> cases t2 <;> simp_all
          clear htt
          rcases hp with rfl | ⟨rfl, rfl⟩
          all_goals
            go_wp2_with (first
              | (go_at_call 19; go_must (refine (H19.out _ HK0.out.2.good).mono ?_; rintro e w3 ⟨rfl, hb3⟩))
              | (fail))
            go_ret
            exact ⟨rfl, HK0.out.2.hb.trans (hb3.mono HK0.out.2.hb.size)⟩
        obtain ⟨rfl, rfl⟩ := htt
        go_wp2
        go_roundw
        case rel => exact ⟨k + 1, by omega, by go_num, trivial, Lib.hid (fun j c' hj hc' => by
          rcases Nat.lt_or_ge j k with h | h
          · exact HKC.out j c' h hc'
          · obtain rfl : j = k := by omega
            rw [hget.out] at hc'
            injection hc' with hc'
            subst hc'
            have e1 := of_decide_eq_false ht1
            have e2 := of_decide_eq_false ht2
            exact ⟨by omega, by omega⟩)⟩
        case measure => simp [intOf]; omega
      obtain rfl : k = key.length := by omega
      have HCAP : Hid (∀ c ∈ key, 65 ≤ c.toNat ∧ c.toNat ≤ 90) := Lib.hid (fun c hc => by
        obtain ⟨j, hj, rfl⟩ := List.getElem_of_mem hc
        exact HKC.out j _ hj (by simp [hj]))
      clear HKC hlt hk
      go_upto_region 12 with fail
      change Code.wp _ _ _ _ (wr.alloc (.cells namesA 9))
      have hal2 : Below wr.heap.size wr (wr.alloc (.cells namesA 9)) := (Below.refl _ _).alloc (Nat.le_refl _) _
      have HK2 : Hid (CkS w w.heap.size cs r (wr.alloc (.cells namesA 9))) := Lib.hid (ck_call HK0.out hal2)
      have HNR : Hid (RowAt (wr.alloc (.cells namesA 9)) wr.heap.size 9 namesA.toList) := Lib.hid ⟨by rw [heap_alloc_new]⟩
      clear hal2 HK0
      generalize wr.alloc (.cells namesA 9) = W2 at *
      generalize wr.heap.size = nb at *
      go_loopw [60] (fun i wx => ∃ k : Nat, k ≤ 16 ∧ i = .int .i64 k ∧ wx = W2 ∧ Hid (∀ j, j < k → key ≠ keyNm j)) (fun i _ => 16 - (intOf i).toNat)
      case atStart => exact ⟨0, by omega, rfl, rfl, Lib.hid (fun j h => by omega)⟩
      case round =>
      obtain ⟨k, hk, rfl, rfl, HNE⟩ := hrel
      by_cases hlt : k < 16
      case pos =>
        have t0 : (0 : Int) ≤ (k : Int) := Int.natCast_nonneg _
        have t1 : decide ((k : Int) < 16) = true := by simp; omega
        have t2 : (k : Int) < 16 := by omega
        have hcx : wr.cell? ⟨nb, k, none⟩ = some (.string (mkS (keyNm k))) := HNR.out.cell k (namesA_at k hlt)
        obtain ⟨q, hq⟩ : ∃ q, ((mkS (keyNm k)).toList == (mkS key).toList) = q := ⟨_, rfl⟩
        have HQ : Hid (q = false → key ≠ keyNm k) := Lib.hid (fun h => beq_ne (hq.trans h))
        generalize keyNm k = X at hcx hq
        cases q with
        | true =>
          go_wp2_with (first
            | (go_at_call 19; go_must (refine (H19.out _ HK2.out.2.good).mono ?_; rintro e w3 ⟨rfl, hb3⟩))
            | (fail))
          go_ret
          exact ⟨rfl, HK2.out.2.hb.trans (hb3.mono HK2.out.2.hb.size)⟩
        | false =>
          go_wp2
          go_roundw
          case rel => exact ⟨k + 1, by omega, by go_num, trivial, Lib.hid (fun j hj => by
            rcases Nat.lt_or_ge j k with h | h
            · exact HNE.out j h
            · obtain rfl : j = k := by omega
              exact HQ.out rfl)⟩
          case measure => simp [intOf]; omega
      obtain rfl : k = 16 := by omega
      have HKO : Hid (KeyOk key) := Lib.hid ⟨HCAP.out, HNE.out⟩
      clear HNE hlt hk HCAP HNR
      have hld := lockLoad_arr (W := wr) (B := w.heap.size) cs 18 HCS.out HK2.out.1
      go_upto_region 18 with (first
        | (go_at_call 29; go_must (refine (h29.out _ HK2.out).mono ?_; rintro e w5 ⟨g, gq, c5, rfl, hc5, hrow, hb5⟩; have HRW := Lib.hid hrow; have HK5 := Lib.hid (ck_call HK2.out hb5); clear hrow hb5))
        | (fail))
      clear hld HK2 h29
      have hPL : P.length ≤ 1000 := HPS.out.len
      obtain ⟨i, hi, hrem⟩ : ∃ i : Nat, i ≤ P.length ∧ Int.tmod (n2 : Int) ((P.length : Int) + 1) = (i : Int) :=
        ⟨n2 % (P.length + 1), by have := Nat.mod_lt n2 (show 0 < P.length + 1 by omega); omega, rfl⟩
      have hz1 : (((P.length : Int) + 1) == 0) = false := by simp; omega
      obtain ⟨k1, hk1⟩ : ∃ x, x = key ++ [61, 49] := ⟨_, rfl⟩
      obtain ⟨k2, hk2⟩ : ∃ x, x = key ++ [61] := ⟨_, rfl⟩
      have kk1 : mkS key ++ ({ data := #[61, 49] } : ByteArray) = mkS k1 := by rw [hk1]; exact str_app _ [61, 49]
      have kk2 : mkS key ++ ({ data := #[61] } : ByteArray) = mkS k2 := by rw [hk2]; exact str_app _ [61]
      have HBAD : Hid (∀ b ∈ BL k1 k2, (∀ s, partT b s = none) ∧ (59 : UInt8) ∉ b ∧ TX b) := Lib.hid (by rw [hk1, hk2]; exact bads_ok key HKO.out)
      have HBL : Hid (∀ b ∈ BL k1 k2, b.length ≤ 30) := Lib.hid (fun b hb => by
        simp only [BL, List.mem_cons, List.not_mem_nil, or_false] at hb
        rcases hb with rfl | rfl | rfl | rfl | rfl | rfl
        · rw [hk1, List.length_append, List.length_cons, List.length_cons, List.length_nil]; omega
        · rw [hk2, List.length_append, List.length_cons, List.length_nil]; omega
        · decide
        · decide
        · decide
        · decide)
      clear hk1 hk2 HKO
      go_upto_region 20 with fail
      change Code.wp _ _ _ _ (w5.alloc (.cells (BA k1 k2) 9))
      have hal3 : Below w5.heap.size w5 (w5.alloc (.cells (BA k1 k2) 9)) := (Below.refl _ _).alloc (Nat.le_refl _) _
      have HS0 : Hid (RefS w w.heap.size cs r w5.heap.size (BA k1 k2).toList g gq P (w5.alloc (.cells (BA k1 k2) 9))) := Lib.hid ⟨ck_call HK5.out hal3, ⟨by rw [heap_alloc_new]⟩, HRW.out.below hal3⟩
      clear hal3 HK5 HRW
      generalize w5.alloc (.cells (BA k1 k2) 9) = W6 at *
      generalize w5.heap.size = nc at *
      have h30t : Hid (∀ W, PartRow W g gq P → Calls Tryz.prog 30 #[.slice (some ⟨g, gq, none⟩) i c5] W fun e w' => e = .returned (.string (mkS (joinP (P.take i)))) ∧ Below W.heap.size W w') := Lib.hid (fun W h => partsText_any (P.take i) _ W ⟨_, c5, by rw [List.length_take, Nat.min_eq_left hi], .inr ⟨g, gq, rfl, h.take i⟩⟩ (HPS.out.take i))
      have h30d : Hid (∀ W, PartRow W g gq P → Calls Tryz.prog 30 #[.slice (some ⟨g, gq + i * 2, none⟩) (P.length - i) (c5 - i)] W fun e w' => e = .returned (.string (mkS (joinP (P.drop i)))) ∧ Below W.heap.size W w') := Lib.hid (fun W h => partsText_any (P.drop i) _ W ⟨_, c5 - i, by rw [List.length_drop], .inr ⟨g, gq + i * 2, rfl, h.drop i⟩⟩ (HPS.out.drop i))
      have h30e : Hid (∀ W, PartRow W g gq P → Calls Tryz.prog 30 #[.slice (if c5 = 1 then some ⟨g, gq, none⟩ else some ⟨g, gq + 2, none⟩) (P.length - 1) (c5 - 1)] W fun e w' => e = .returned (.string (mkS (joinP (P.drop 1)))) ∧ Below W.heap.size W w') := Lib.hid (fun W h => partsText_any (P.drop 1) _ W ⟨_, c5 - 1, by rw [List.length_drop], by
        by_cases hc : c5 = 1
        · exact .inl (List.drop_eq_nil_of_le (by omega))
        · rw [if_neg hc]
          exact .inr ⟨g, gq + 1 * 2, rfl, h.drop 1⟩⟩ (HPS.out.drop 1))
      have lA := Htk.out i
      have lD := Hdk.out i
      have HE1 := Hdk.out 1
      obtain ⟨u0, hu0⟩ : ∃ q, decide ((0 : Int) < (i : Int)) = q := ⟨_, rfl⟩
      obtain ⟨u1, hu1⟩ : ∃ q, decide ((i : Int) < (P.length : Int)) = q := ⟨_, rfl⟩
      have e0 : (0 < i) = (u0 = true) := propext ⟨fun h => by rw [← hu0]; exact decide_eq_true (by omega), fun h => by rw [h] at hu0; have := of_decide_eq_true hu0; omega⟩
      have e1 : (i < P.length) = (u1 = true) := propext ⟨fun h => by rw [← hu1]; exact decide_eq_true (by omega), fun h => by rw [h] at hu1; have := of_decide_eq_true hu1; omega⟩
      have HI : Hid (∀ b, insL P i b = if u1 = true then ((if u0 = true then joinP (P.take i) ++ [59] else joinP (P.take i)) ++ b) ++ ([59] ++ joinP (P.drop i)) else (if u0 = true then joinP (P.take i) ++ [59] else joinP (P.take i)) ++ b) := Lib.hid (fun b => by
        unfold insL
        simp only [e0, e1]
        rfl)
      have HU0 : Hid (u0 = true → 0 < i) := Lib.hid (fun h => by rw [e0]; exact h)
      have HV0 : Hid (u0 = false → ¬ 0 < i) := Lib.hid (fun h => by rw [e0, h]; decide)
      have HU1 : Hid (u1 = true → i < P.length) := Lib.hid (fun h => by rw [e1]; exact h)
      have HV1 : Hid (u1 = false → ¬ i < P.length) := Lib.hid (fun h => by rw [e1, h]; decide)
      clear e0 e1 Htk Hdk hu0 hu1
      generalize joinP (P.take i) = A at *
      generalize joinP (P.drop i) = D at *
      generalize joinP (P.drop 1) = E at *
      obtain ⟨a1, ha1⟩ : ∃ x, x = (if u0 = true then A ++ [59] else A) := ⟨_, rfl⟩
      obtain ⟨d1, hd1⟩ : ∃ x, x = [59] ++ D := ⟨_, rfl⟩
      rw [← ha1, ← hd1] at HI
      have la1 : a1.length ≤ A.length + 1 := by rw [ha1]; split <;> simp
      have ld1 : d1.length = D.length + 1 := by rw [hd1]; simp
      have kd1 : ({ data := #[59] } : ByteArray) ++ mkS D = mkS d1 := by rw [hd1]; exact str_app [59] D
      have ka1 : Hid (u0 = true → mkS A ++ ({ data := #[59] } : ByteArray) = mkS a1) := Lib.hid (fun h => by rw [ha1, if_pos h]; exact str_app A [59])
      have ka0 : Hid (u0 = false → A = a1) := Lib.hid (fun h => by rw [ha1, h]; rfl)
      have zA := size_mkS A
      have zD := size_mkS D
      have za1 := size_mkS a1
      have zd1 := size_mkS d1
      have hi0 : (0 : Int) ≤ (i : Int) := Int.natCast_nonneg _
      have hic : (i : Int) ≤ (c5 : Int) := by omega
      have hip : (i : Int) ≤ (P.length : Int) := by omega
      have hpc : (P.length : Int) ≤ (c5 : Int) := by omega
      have h1c : (1 : Int) ≤ (c5 : Int) := by omega
      have h1p : (1 : Int) ≤ (P.length : Int) := by omega
      clear ha1 hd1
      go_loopw [83] (fun j wx => ∃ k : Nat, k ≤ 6 ∧ j = .int .i64 k ∧ Hid (RefS w w.heap.size cs r nc (BA k1 k2).toList g gq P wx)) (fun j _ => 6 - (intOf j).toNat)
      case atStart => exact ⟨0, by omega, rfl, HS0⟩
      case round =>
      obtain ⟨k, hk, rfl, HW⟩ := hrel
      by_cases hlt : k < 6
      case pos =>
        have t0 : (0 : Int) ≤ (k : Int) := Int.natCast_nonneg _
        have t1 : decide ((k : Int) < 6) = true := by simp; omega
        have t2 : (k : Int) < 6 := by omega
        obtain ⟨b, hb, hrow⟩ := BA_at k1 k2 k hlt
        have hcx : wr.cell? ⟨nc, k, none⟩ = some (.string (mkS b)) := HW.out.2.1.cell k hrow
        obtain ⟨hb1, hb2, hb3⟩ := HBAD.out b hb
        have lb := HBL.out b hb
        have HN : Hid (optT (insL P i b) = none) := Lib.hid (HRef.out i hi b hb1 hb2 hb3)
        have hIb := HI.out b
        clear hb hrow hb1 hb2 hb3
        obtain ⟨a2, ha2⟩ : ∃ x, x = a1 ++ b := ⟨_, rfl⟩
        obtain ⟨a3, ha3⟩ : ∃ x, x = a2 ++ d1 := ⟨_, rfl⟩
        rw [← ha2, ← ha3] at hIb
        have HNa : Hid (u1 = true → optT a3 = none) := Lib.hid (fun h => by have := HN.out; rw [hIb, if_pos h] at this; exact this)
        have HNb : Hid (u1 = false → optT a2 = none) := Lib.hid (fun h => by have := HN.out; rw [hIb, h] at this; exact this)
        have la2 : a2.length = a1.length + b.length := by rw [ha2, List.length_append]
        have la3 : a3.length = a2.length + d1.length := by rw [ha3, List.length_append]
        have kk3 : mkS a1 ++ mkS b = mkS a2 := by rw [ha2]; exact str_app _ _
        have kk4 : mkS a2 ++ mkS d1 = mkS a3 := by rw [ha3]; exact str_app _ _
        have zb := size_mkS b
        have za2 := size_mkS a2
        clear hIb HN ha2 ha3
        cases u0 <;> cases u1
        · exfalso
          have h0 := HV0.out rfl
          have h1 := HV1.out rfl
          omega
        all_goals
          first
            | (have hh0 := HU0.out rfl)
            | (have hh0 := HV0.out rfl)
          first
            | (have hh1 := HU1.out rfl)
            | (have hh1 := HV1.out rfl)
          first
            | (have ka2 := ka1.out rfl)
            | (obtain rfl := ka0.out rfl)
          go_upto_region 28 with (first
            | (go_at_call 30; go_must (first
                | (refine (h30t.out _ HW.out.2.2).mono ?_; rintro e w6 ⟨rfl, hb6⟩; have HWx := Lib.hid (RefS.call HW.out hb6); clear hb6 HW)
                | (refine (h30d.out _ HWx.out.2.2).mono ?_; rintro e w7 ⟨rfl, hb7⟩; have HWy := Lib.hid (RefS.call HWx.out hb7); clear hb7 HWx)))
            | (fail))
          go_wp2_with (first
            | (go_at_call 21; go_must (first
                | (refine (h21.out a3 _ (by omega) (HNa.out (by first | rfl | trivial)) HWy.out.1).mono ?_; rintro e w8 ⟨rfl, hb8⟩; have HWz := Lib.hid (RefS.call HWy.out hb8); clear hb8)
                | (refine (h21.out a2 _ (by omega) (HNb.out (by first | rfl | trivial)) HWx.out.1).mono ?_; rintro e w8 ⟨rfl, hb8⟩; have HWz := Lib.hid (RefS.call HWx.out hb8); clear hb8)))
            | (refine Great.wpList_runTo rfl (some 15) rfl _ _ (run_al31 _ _ rfl _) ?_)
            | (refine wpList_store_fresh rfl 31 _ _ rfl ruleZ0 ruleZ0 rfl rfl (by as_aux_lemma => kernel_rfl) rfl ruleZ0_one ?_)
            | (fail))
          go_roundw
          case rel =>
            have hal8 : Below w8.heap.size w8 (w8.alloc (.cells ruleZ0 31)) := (Below.refl _ _).alloc (Nat.le_refl _) _
            exact ⟨k + 1, by omega, by go_num, Lib.hid (RefS.call HWz.out hal8)⟩
          case measure => simp [intOf]; omega
      obtain rfl : k = 6 := by omega
      go_wp2_with (first
        | (go_at_call 30; go_must (refine (h30e.out _ HW.out.2.2).mono ?_; rintro e w6 ⟨rfl, hb6⟩; have HWx := Lib.hid (RefS.call HW.out hb6); clear hb6))
        | (go_at_call 21; go_must (refine (h21.out _ _ (by omega) HTl.out HWx.out.1).mono ?_; rintro e w8 ⟨rfl, hb8⟩; have HWz := Lib.hid (RefS.call (RefS.call HWx.out hb8) (Below.alloc (Below.refl _ _) (Nat.le_refl _) (.cells ruleZ0 31))); clear hb8))
        | (refine Great.wpList_runTo rfl (some 17) rfl _ _ (run_al31 _ _ rfl _) ?_)
        | (refine wpList_store_fresh rfl 31 _ _ rfl ruleZ0 ruleZ0 rfl rfl (by as_aux_lemma => kernel_rfl) rfl ruleZ0_one ?_)
        | (go_at_call 19; go_must (refine (H19.out _ HWz.out.1.2.good).mono ?_; rintro e w9 ⟨rfl, hb9⟩))
        | (fail))
      all_goals
        go_ret
        exact ⟨rfl, HWz.out.1.2.hb.trans (hb9.mono HWz.out.1.2.hb.size)⟩
end Go.Proofs.YtcfbkkcamiephaaGreatDoor
