import Derived.Test.YtcfbkkcamiephaaGreatDoorQ2
namespace Go.Proofs.YtcfbkkcamiephaaGreatDoor
open Go.RowKit

/-! ### PartsText -/
structure PartRow (w : World) (g gq : Nat) (P : List Part) : Prop where
  lt : g < w.heap.size
  cell : ∀ i p, P[i]? = some p → w.cell? ⟨g, gq + i * 2, none⟩ = some (strV p.1) ∧ w.cell? ⟨g, gq + i * 2 + 1, none⟩ = some (strV p.2)
theorem PartRow.below {w w' : World} {g gq : Nat} {P : List Part} (h : PartRow w g gq P) (hb : Below w.heap.size w w') : PartRow w' g gq P :=
  ⟨Nat.lt_of_lt_of_le h.lt hb.size, fun i p hp => ⟨cell_below hb (h.cell i p hp).1, cell_below hb (h.cell i p hp).2⟩⟩
/-- a slice of parts, wherever it begins in its block -/
def PartsV (w : World) (v : Value) (P : List Part) : Prop := ∃ a c, v = .slice a P.length c ∧ (P = [] ∨ ∃ g gq, a = some ⟨g, gq, none⟩ ∧ PartRow w g gq P)
theorem PartsV.below {w w' : World} {v : Value} {P : List Part} (h : PartsV w v P) (hb : Below w.heap.size w w') : PartsV w' v P := by
  obtain ⟨a, c, h1, h2⟩ := h
  refine ⟨a, c, h1, ?_⟩
  rcases h2 with h2 | ⟨g, gq, h2, h3⟩
  · exact .inl h2
  · exact .inr ⟨g, gq, h2, h3.below hb⟩
theorem flatP_at (P : List Part) (i : Nat) (p : Part) (h : P[i]? = some p) : (flatP P)[i * 2]? = some (strV p.1) ∧ (flatP P)[i * 2 + 1]? = some (strV p.2) := by
  induction P generalizing i with
  | nil => simp at h
  | cons q r ih =>
    cases i with
    | zero => simp at h; subst h; exact ⟨rfl, rfl⟩
    | succ i =>
      have := ih i (by simpa using h)
      have e : flatP (q :: r) = strV q.1 :: strV q.2 :: flatP r := rfl
      rw [e, show (i + 1) * 2 = i * 2 + 1 + 1 by omega, show i * 2 + 1 + 1 + 1 = (i * 2 + 1) + 1 + 1 by omega]
      simpa using this
theorem parts_own {w : World} {B : Nat} {v : Value} {P : List Part} (h : w.ownsRow B 46 2 v P.length (flatP P)) : PartsV w v P := by
  have h' := h
  obtain ⟨h1, h2⟩ := h
  rcases h2 with ⟨hv, h0⟩ | ⟨g, cap, cur, hv, hb, hh, hc, hm, hs, ht⟩
  · exact ⟨none, 0, by rw [hv, h0], .inl (List.eq_nil_of_length_eq_zero h0)⟩
  · refine ⟨_, cap, hv, .inr ⟨g, 0, rfl, (Array.getElem?_eq_some_iff.1 hh).1, fun i p hp => ?_⟩⟩
    have hcell := h'.cells (g := g) (by rw [hv]; rfl)
    have hadd : ∀ j, (⟨g, 0, none⟩ : Addr).add j = ⟨g, j, none⟩ := fun j => by unfold Addr.add; split <;> simp_all
    obtain ⟨e0, e1⟩ := flatP_at P i p hp
    rw [Nat.zero_add]
    exact ⟨by rw [← hadd]; exact hcell _ _ e0, by rw [← hadd]; exact hcell _ _ e1⟩
def joinP (P : List Part) : List UInt8 := Lib.join (P.map fun p => pTx p.1 p.2) [59]
theorem joinP_snoc (P : List Part) (k : Nat) (h : k < P.length) : joinP (P.take (k + 1)) = if k = 0 then pTx P[k].1 P[k].2 else joinP (P.take k) ++ 59 :: pTx P[k].1 P[k].2 := by
  unfold joinP
  rw [List.take_succ_eq_append_getElem h, List.map_append, List.map_cons, List.map_nil, join_snoc]
  by_cases h0 : k = 0
  · subst h0; simp
  · rw [if_neg h0, if_neg (by
      intro e
      have := congrArg List.length e
      rw [List.length_map, List.length_take, List.length_nil] at this
      omega)]
structure PartsShort (P : List Part) : Prop where
  len : P.length ≤ 1000
  each : ∀ p ∈ P, p.1.length ≤ 1000 ∧ p.2.length ≤ 30000
theorem PartsShort.take {P : List Part} (h : PartsShort P) (k : Nat) : PartsShort (P.take k) := ⟨by rw [List.length_take]; have := h.len; omega, fun p hp => h.each p (List.mem_of_mem_take hp)⟩
theorem joinP_len {P : List Part} (h : PartsShort P) : (joinP P).length ≤ 32000000 := by
  have := joinL_le (P.map fun p => pTx p.1 p.2) 59 31001 (fun x hx => by
    obtain ⟨p, hp, rfl⟩ := List.mem_map.1 hx
    have := h.each p hp
    simp only [pTx, List.length_append, List.length_cons, List.length_nil]; omega)
  have hl := h.len
  rw [List.length_map] at this
  unfold joinP
  have h2 : P.length * (31001 + 1) ≤ 1000 * 31002 := Nat.mul_le_mul hl (Nat.le_refl _)
  omega
set_option maxRecDepth 100000 in
set_option maxHeartbeats 3200000 in
/-- spec.PartsText. -/
theorem partsText_any (P : List Part) (v : Value) (w : World) (hv : PartsV w v P) (hs : PartsShort P) :
    Calls Tryz.prog 30 #[v] w fun e w' => e = .returned (.string (mkS (joinP P))) ∧ Below w.heap.size w w' := by
  obtain ⟨a, c, rfl, hr⟩ := hv
  have HR := Lib.hid hr
  have HS := Lib.hid hs
  have HPL := hs.len
  clear hr hs
  go_enter Tryz.func30, Tryz.ntmps30
  go_wp2
  go_loopw [3, 8] (fun s i wr => ∃ k : Nat, k ≤ P.length ∧ s = .string (mkS (joinP (P.take k))) ∧ i = .int .i64 k ∧ Hid (Below w.heap.size w wr)) (fun _ i _ => P.length - (intOf i).toNat)
  case atStart => exact ⟨0, by omega, rfl, rfl, Lib.hid (Below.refl _ _)⟩
  case round =>
    obtain ⟨k, hk, rfl, rfl, HB⟩ := hrel
    by_cases hlt : k < P.length
    · obtain ⟨g, gq, rfl, hg⟩ : ∃ g gq, a = some ⟨g, gq, none⟩ ∧ PartRow w g gq P := by
        rcases HR.out with h | h
        · rw [h] at hlt; simp at hlt
        · exact h
      obtain ⟨hc0, hc1⟩ := (hg.below HB.out).cell k P[k] (by simp [hlt])
      have hsn := joinP_snoc P k hlt
      have hal := joinP_len (HS.out.take k)
      obtain ⟨hx1, hx2⟩ := HS.out.each P[k] (List.getElem_mem hlt)
      generalize P[k] = q at hc0 hc1 hsn hx1 hx2
      obtain ⟨x, y⟩ := q
      simp only [strV] at hc0 hc1 hsn hx1 hx2
      have hk0 : (0 : Int) ≤ (k : Int) := Int.natCast_nonneg _
      have hk1 : (k : Int) < (P.length : Int) := by omega
      have HSN := Lib.hid hsn
      have HAL : Hid (Below wr.heap.size wr (wr.alloc (.cells #[.string (mkS x), .string (mkS y)] 46))) := Lib.hid ((Below.refl _ _).alloc (Nat.le_refl _) _)
      clear hsn hg
      generalize hA : joinP (P.take k) = A at hal HSN
      have hA0 : Hid (k = 0 → A = []) := Lib.hid (fun h => by subst h; rw [← hA]; rfl)
      clear hA
      have z1 := size_mkS A
      have z2 := size_mkS x
      have z3 := size_mkS y
      obtain ⟨s1, h1⟩ : ∃ s, s = x ++ [61] := ⟨_, rfl⟩
      obtain ⟨s2, h2⟩ : ∃ s, s = s1 ++ y := ⟨_, rfl⟩
      obtain ⟨a1, h3⟩ : ∃ s, s = A ++ [59] := ⟨_, rfl⟩
      obtain ⟨a2, h4⟩ : ∃ s, s = a1 ++ s2 := ⟨_, rfl⟩
      have z4 := size_mkS s1
      have z5 := size_mkS s2
      have z6 := size_mkS a1
      have l4 : s1.length = x.length + 1 := by rw [h1]; simp
      have l5 : s2.length = s1.length + y.length := by rw [h2]; simp
      have l6 : a1.length = A.length + 1 := by rw [h3]; simp
      have c3 : mkS x ++ (⟨#[61]⟩ : ByteArray) = mkS s1 := by rw [h1]; exact str_app x [61]
      have c4 : mkS s1 ++ mkS y = mkS s2 := by rw [h2]; exact str_app _ _
      have HS2 : Hid (pTx x y = s2) := Lib.hid (by rw [h2, h1]; rfl)
      have HA2 : Hid (A ++ 59 :: s2 = a2) := Lib.hid (by rw [h4, h3]; simp)
      by_cases h0 : k = 0
      · have hAe := hA0.out h0
        clear hA0 h1 h2 h4 HA2
        subst hAe
        subst h0
        simp only [Nat.zero_mul, Nat.add_zero] at hc0 hc1
        have c1 : mkS [] ++ mkS s2 = mkS s2 := str_app [] _
        clear h3
        go_wp2
        go_roundw
        case rel => exact ⟨1, by omega, by rw [HSN.out, ← HS2.out]; rfl, by go_num, Lib.hid (HB.out.trans (HAL.out.mono HB.out.size))⟩
        case measure => simp [intOf]; omega
      · have t1 : decide ((0 : Int) < (k : Int)) = true := by simp; omega
        have c1 : mkS A ++ (⟨#[59]⟩ : ByteArray) = mkS a1 := by rw [h3]; exact str_app A [59]
        have c2 : mkS a1 ++ mkS s2 = mkS a2 := by rw [h4]; exact str_app _ _
        clear hA0 h1 h2 h3 h4
        go_wp2
        go_roundw
        case rel => exact ⟨k + 1, by omega, by rw [HSN.out, if_neg h0, HS2.out, HA2.out], by go_num, Lib.hid (HB.out.trans (HAL.out.mono HB.out.size))⟩
        case measure => simp [intOf]; omega
    · obtain rfl : k = P.length := by omega
      go_wp2
      go_ret
      exact ⟨by rw [List.take_length]; rfl, HB.out⟩
/-! ### RuleString, OptionText -/
theorem pairs_joinP (o : Opt) : joinP (pairsOf o) = rrL o := by
  rw [rrL_joinT]
  unfold joinP joinT pairsOf
  rw [List.map_map]; rfl
theorem valL_len (o : Opt) (h : OptOk o) (i : Nat) (hp : presB o i = true) : (valL o i).length ≤ 30000 := by
  have hs := partsP_short o h
  by_cases h1 : i = 1
  · subst h1
    show (stampS o.st.1).length ≤ _
    rw [stampS_len _ h.st]; decide
  · have hi := (mem_idxs o i).2 ⟨⟨pres_lt hp, h1⟩, hp⟩
    have := hs.2 (txt o i) (by rw [partsP_idxs]; exact List.mem_map.2 ⟨i, hi, rfl⟩)
    simp only [txt, pTx, List.length_append] at this
    omega
theorem pairs_short (o : Opt) (h : OptOk o) : PartsShort (pairsOf o) := by
  refine ⟨?_, fun p hp => ?_⟩
  · unfold pairsOf idxs
    rw [List.length_map]
    exact Nat.le_trans (List.length_filter_le ..) (by decide)
  · obtain ⟨i, hi, rfl⟩ := List.mem_map.1 hp
    exact ⟨Nat.le_trans (keyNm_len i) (by decide), valL_len o h i (idxs_pres o i hi)⟩
set_option maxRecDepth 100000 in
set_option maxHeartbeats 3200000 in
/-- spec.RuleString. -/
theorem ruleStringS_any (r : RuleD) (v : Value) (w : World) (hD : DayNms w) (hF : Freqs w) (hv : RuleIs w v r) (hT : TextR r) (hI : RuleIn r) :
    Calls Tryz.prog 35 #[v] w fun e w' => e = .returned (.string (mkS (rrL (optOf r)))) ∧ Below w.heap.size w w' := by
  obtain ⟨cs, rfl, hcs, hc1⟩ := ruleVal_cells hv
  have hal : Below w.heap.size w (w.alloc (.cells cs 26)) := (Below.refl _ _).alloc (Nat.le_refl _) _
  have hbox : (w.alloc (.cells cs 26)).heap[w.heap.size]? = some (.cells cs 26 (0, 0)) := heap_alloc_new w _
  have H29 := Lib.hid (ruleParts_any r (.agg cs) (w.alloc (.cells cs 26)) (hD.below hal) (hF.below hal) (hv.below hal) hT hI)
  have H30 : Hid (∀ (v : Value) (w1 : World), PartsV w1 v (pairsOf (optOf r)) → Calls Tryz.prog 30 #[v] w1 fun e w' => e = .returned (.string (mkS (rrL (optOf r)))) ∧ Below w1.heap.size w1 w') := Lib.hid (fun v w1 h => by
    rw [← pairs_joinP]; exact partsText_any _ v w1 h (pairs_short _ (optN_of hT hI).ok))
  have HBX := Lib.hid hbox
  have HCS := Lib.hid hcs
  have HAL := Lib.hid hal
  clear hbox hcs hv hal hT hI hD hF
  generalize rrL (optOf r) = T at *
  generalize pairsOf (optOf r) = P at *
  go_enter Tryz.func35, Tryz.ntmps35
  go_wp2_with (first
    | (refine wpList_load_row rfl 26 _ rfl w.heap.size rfl 26 cs (0, 0) _ HBX.out Tryz.underlying26 rfl (by rw [HCS.out]; as_aux_lemma => kernel_rfl) ?_)
    | (go_at_call 29; go_must (refine H29.out.mono ?_; rintro e w1 ⟨v1, rfl, hown, hb1⟩; obtain ⟨g, cc, hv1⟩ := own_slice hown; subst hv1; have HB1 := HAL.out.trans (hb1.mono HAL.out.size)))
    | (go_at_call 30; go_must (refine (H30.out _ _ (parts_own hown)).mono ?_; rintro e w2 ⟨rfl, hb2⟩)))
  go_ret
  exact ⟨rfl, HB1.trans (hb2.mono HB1.size)⟩

/-- what OptionText's region holds of the world -/
structure OT (w : World) (xs : List Value) (W : World) : Prop where
  row : RowAt W w.heap.size 26 xs
  hb : Below (w.heap.size + 1) (w.alloc (.cells xs.toArray 26)) W
theorem OT.call {w W w1 : World} {xs : List Value} (h : OT w xs W) (hb : Below W.heap.size W w1) : OT w xs w1 := ⟨h.row.below hb, h.hb.trans (hb.mono (by have := h.row.lt; omega))⟩
attribute [local go_sem ↓] lockL_eq
set_option maxRecDepth 100000 in
set_option maxHeartbeats 6400000 in
/-- spec.OptionText. -/
theorem optionTextS_any (r : RuleD) (v : Value) (w : World) (hD : DayNms w) (hF : Freqs w) (hv : RuleIs w v r) (hT : TextR r) (hI : RuleIn r) :
    Calls Tryz.prog 28 #[v] w fun e w' => e = .returned (.string (mkS (optL (optOf r)))) ∧ Below w.heap.size w w' := by
  have hal0 : ∀ cs : Array Value, Below w.heap.size w (w.alloc (.cells cs 26)) := fun cs => (Below.refl _ _).alloc (Nat.le_refl _) _
  obtain ⟨cs, rfl, hcs, hc1⟩ := ruleVal_cells hv
  have hq : cs[1]? = some (.bool r.hs) ∧ cs[2]? = some (.int .i64 r.st) := by
    obtain ⟨v8, v9, v10, v11, v12, v13, v14, v15, v16, v17, he, hR⟩ := hv
    injection he with he
    subst he
    exact ⟨rfl, rfl⟩
  obtain ⟨xs, hxs⟩ : ∃ xs, xs = cs.toList := ⟨_, rfl⟩
  have hxa : xs.toArray = cs := by rw [hxs]
  have Q1 : Hid (xs[1]? = some (.bool r.hs)) := Lib.hid (by rw [hxs]; simpa using hq.1)
  have Q2 : Hid (xs[2]? = some (.int .i64 r.st)) := Lib.hid (by rw [hxs]; simpa using hq.2)
  have hbox : RowAt (w.alloc (.cells cs 26)) w.heap.size 26 xs := ⟨by rw [heap_alloc_new, hxa]⟩
  have hal := hal0 cs
  have hld : ∀ W, RowAt W w.heap.size 26 xs → (lockLoad ⟨w.heap.size, 0, none⟩ 18).run Tryz.prog W = .ok cs W := fun W h => lockLoad_arr cs 18 hcs (fun i => by rw [h.cells, hxs]; simp)
  have HLD := Lib.hid hld
  have H35 : Hid (∀ w1, Below (w.heap.size + 1) (w.alloc (.cells xs.toArray 26)) w1 → Calls Tryz.prog 35 #[.agg cs] w1 fun e w' => e = .returned (.string (mkS (rrL (optOf r)))) ∧ Below w1.heap.size w1 w') := Lib.hid (fun w1 hb => by
    rw [hxa] at hb
    have hb' : Below (w.alloc (.cells cs 26)).heap.size (w.alloc (.cells cs 26)) w1 := by simpa using hb
    exact ruleStringS_any r (.agg cs) w1 ((hD.below hal).below hb') ((hF.below hal).below hb') ((hv.below hal).below hb') hT hI)
  have H33 := Lib.hid (fun w1 => textTime_any r.st w1 hT.st)
  have hOT : OT w xs (w.alloc (.cells cs 26)) := ⟨hbox, by rw [hxa]; exact Below.refl _ _⟩
  have hst := stampS_len r.st hT.st
  have hrl := rrL_len _ (optN_of hT hI).ok
  have hhs := hT.hs
  have HO1 : Hid (r.hs = false → optL (optOf r) = rrL (optOf r)) := Lib.hid (fun h => by
    unfold optL; rw [if_pos]; show isZ ((if r.hs = true then r.st else 0), 0) = true; rw [h]; rfl)
  have HO2 : Hid (r.hs = true → optL (optOf r) = [68, 84, 83, 84, 65, 82, 84, 58] ++ stampS r.st ++ [10, 82, 82, 85, 76, 69, 58] ++ rrL (optOf r)) := Lib.hid (fun h => by
    have hz : r.st ≠ 0 := by rw [h] at hhs; simpa using hhs.symm
    have e : (optOf r).st = (r.st, 0) := by show ((if r.hs = true then r.st else 0), (0 : Int)) = _; rw [if_pos h]
    unfold optL
    rw [if_neg (by rw [e]; simp [isZ, hz]), e]
    simp [dtL, rfcL, nlL])
  have HXA := Lib.hid hxa
  have hbl : Hid (∀ W, OT w xs W → Below w.heap.size w W) := Lib.hid (fun W h => by
    have := h.hb
    rw [hxa] at this
    exact hal.trans (this.mono (by omega)))
  have HOT := Lib.hid hOT
  have c1 := hbox.cell 1 Q1.out
  have c2 := hbox.cell 2 Q2.out
  clear hbox hcs hv hal hT hI hD hF hq hxs hxa hld hOT hal0 hc1
  generalize rrL (optOf r) = T at *
  generalize optL (optOf r) = R at *
  generalize stampS r.st = st at *
  have z1 := size_mkS T
  have z2 := size_mkS st
  obtain ⟨a1, h1⟩ : ∃ s, s = [68, 84, 83, 84, 65, 82, 84, 58] ++ st := ⟨_, rfl⟩
  obtain ⟨a2, h2⟩ : ∃ s, s = a1 ++ [10, 82, 82, 85, 76, 69, 58] := ⟨_, rfl⟩
  obtain ⟨a3, h3⟩ : ∃ s, s = a2 ++ T := ⟨_, rfl⟩
  have z3 := size_mkS a1
  have z4 := size_mkS a2
  have l3 : a1.length = 24 := by rw [h1]; simp [hst]
  have l4 : a2.length = 31 := by rw [h2]; simp [l3]
  rw [l3] at z3
  rw [l4] at z4
  clear l3 l4
  have k1 : ({ data := #[68, 84, 83, 84, 65, 82, 84, 58] } : ByteArray) ++ mkS st = mkS a1 := by rw [h1]; exact str_app _ _
  have k2 : mkS a1 ++ ({ data := #[10, 82, 82, 85, 76, 69, 58] } : ByteArray) = mkS a2 := by rw [h2]; exact str_app _ [10, 82, 82, 85, 76, 69, 58]
  have k3 : mkS a2 ++ mkS T = mkS a3 := by rw [h3]; exact str_app _ _
  have HO2 : Hid (r.hs = true → R = a3) := Lib.hid (fun h => by rw [HO2.out h, h3, h2, h1])
  clear h1 h2 h3
  generalize r.st = n at *
  cases hh : r.hs with
  | false =>
    rw [hh] at c1 HO1
    clear HO2 hhs k1 k2 k3 z3 z4
    go_enter Tryz.func28, Tryz.ntmps28
    go_upto_region 2 with fail
    change Code.wp _ _ _ _ (w.alloc (.cells cs 26))
    generalize w.alloc (.cells cs 26) = W0 at *
    have hld := HLD.out _ HOT.out.row
    go_wp2_with (go_at_call 35; go_must (refine (H35.out _ HOT.out.hb).mono ?_; rintro e w1 ⟨rfl, hb1⟩))
    go_ret
    exact ⟨by rw [HO1.out (by simp)]; rfl, hbl.out _ (HOT.out.call hb1)⟩
  | true =>
    rw [hh] at c1 hhs HO2
    have d1 : (n == 0) = false := by simpa using hhs.symm
    have HR := Lib.hid (HO2.out (by simp))
    clear HO1 HO2 hhs
    go_enter Tryz.func28, Tryz.ntmps28
    go_upto_region 3 with fail
    change Code.wp _ _ _ _ (w.alloc (.cells cs 26))
    generalize w.alloc (.cells cs 26) = W0 at *
    refine wp_region_table (β := Unit) (fun _ => #[.agg cs, .pointer (some ⟨w.heap.size, 0, none⟩), .string (mkS a3), .pointer (some ⟨w.heap.size, 1, none⟩), .bool true, .bool false, .bool false, .pointer (some ⟨w.heap.size, 2, none⟩), .int .i64 n, .bool false, .bool false, undef, undef, .pointer (some ⟨w.heap.size, 2, none⟩), .int .i64 n, .string (mkS st), .string (mkS a1), .string (mkS a2), .agg cs, .string (mkS T), .string (mkS a3)]) (fun _ _ W => OT w xs W) 21 (fun _ => rfl) rfl (by kernel_rfl) () rfl [2, 13, 14, 15, 16, 17, 18, 19, 20] (by kernel_rfl) (by kernel_rfl) (HOT.out.call (Below.refl _ _).drew) ?hs ?hdone
    case hs =>
      refine ⟨StepF.of (fun b listed w1 hB hf hdep K' Q' hK' => ?_), ?_⟩
      · clear hf hdep
        go_simp
        refine hK'.out _ _ ⟨rfl, b, fun _ _ => rfl, fun d e => (by cases e; rfl), hB⟩
      refine ⟨StepF.of (fun b listed w1 hB hf hdep K' Q' hK' => ?_), ?_⟩
      · clear hf hdep
        have hcx := hB.row.cell 2 Q2.out
        go_simp
        refine hK'.out _ _ ⟨rfl, b, fun _ _ => rfl, fun d e => (by cases e; rfl), hB⟩
      refine ⟨StepF.of (fun b listed w1 hB hf hdep K' Q' hK' => ?_), ?_⟩
      · clear hf hdep
        go_simp
        go_at_call 33
        refine (H33.out _).mono ?_
        rintro e w2 ⟨rfl, hb2⟩
        try dsimp only
        refine hK'.out _ _ ⟨rfl, b, fun _ _ => rfl, fun d e => (by cases e; rfl), hB.call hb2⟩
      refine ⟨StepF.of (fun b listed w1 hB hf hdep K' Q' hK' => ?_), ?_⟩
      · clear hf hdep
        go_simp
        (try rw [if_neg (by omega)])
        go_simp
        refine hK'.out _ _ ⟨rfl, b, fun _ _ => rfl, fun d e => (by cases e; rfl), hB⟩
      refine ⟨StepF.of (fun b listed w1 hB hf hdep K' Q' hK' => ?_), ?_⟩
      · clear hf hdep
        go_simp
        (try rw [if_neg (by omega)])
        go_simp
        refine hK'.out _ _ ⟨rfl, b, fun _ _ => rfl, fun d e => (by cases e; rfl), hB⟩
      refine ⟨StepF.of (fun b listed w1 hB hf hdep K' Q' hK' => ?_), ?_⟩
      · have hld := HLD.out _ hB.row
        clear hf hdep
        go_simp
        refine hK'.out _ _ ⟨rfl, b, fun _ _ => rfl, fun d e => (by cases e; rfl), hB⟩
      refine ⟨StepF.of (fun b listed w1 hB hf hdep K' Q' hK' => ?_), ?_⟩
      · clear hf hdep
        go_simp
        go_at_call 35
        refine (H35.out _ hB.hb).mono ?_
        rintro e w2 ⟨rfl, hb2⟩
        try dsimp only
        refine hK'.out _ _ ⟨rfl, b, fun _ _ => rfl, fun d e => (by cases e; rfl), hB.call hb2⟩
      refine ⟨StepF.of (fun b listed w1 hB hf hdep K' Q' hK' => ?_), ?_⟩
      · clear hf hdep
        go_simp
        (try rw [if_neg (by omega)])
        go_simp
        refine hK'.out _ _ ⟨rfl, b, fun _ _ => rfl, fun d e => (by cases e; rfl), hB⟩
      refine ⟨StepF.of (fun b listed w1 hB hf hdep K' Q' hK' => ?_), ?_⟩
      · clear hf hdep
        go_simp
        refine hK'.out _ _ ⟨rfl, b, fun _ _ => rfl, fun d e => (by cases e; rfl), hB⟩
      trivial
    case hdone =>
      intro b listed w1 hK hall
      clear hall
      go_wp2
      go_ret
      exact ⟨by rw [HR.out]; rfl, hbl.out _ hK⟩
end Go.Proofs.YtcfbkkcamiephaaGreatDoor
