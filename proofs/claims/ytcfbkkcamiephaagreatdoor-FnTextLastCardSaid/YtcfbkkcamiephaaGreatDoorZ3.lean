import Derived.Test.YtcfbkkcamiephaaGreatDoorQ3
import Derived.Test.YtcfbkkcamiephaaGreatDoorK1
namespace Go.Proofs.YtcfbkkcamiephaaGreatDoor
open Go.RowKit

/-! ### FnTextRefused: the plain law -/
theorem join_left (s : List UInt8) (B : List (List UInt8)) : Lib.join (s :: B) [59] = if B = [] then s else s ++ 59 :: Lib.join B [59] := by
  cases B with
  | nil => rw [if_pos rfl]; exact join_one1 s 59
  | cons y r => rw [if_neg (by simp)]; exact join_cons2 s y r 59
theorem join_mid (A : List (List UInt8)) (s : List UInt8) (B : List (List UInt8)) (hA : A ≠ []) : Lib.join (A ++ s :: B) [59] = Lib.join A [59] ++ 59 :: Lib.join (s :: B) [59] := by
  induction A with
  | nil => exact absurd rfl hA
  | cons x r ih =>
    cases r with
    | nil => rw [List.singleton_append, join_cons2, join_one1]
    | cons y t =>
      rw [List.cons_append, List.cons_append, join_cons2, join_cons2, ← List.cons_append, ih (by simp)]
      simp [List.append_assoc]
def txP (p : Part) : List UInt8 := pTx p.1 p.2
/-- a wrong part among the parts, as the law writes it -/
def insL (P : List Part) (i : Nat) (s : List UInt8) : List UInt8 :=
  if i < P.length then ((if 0 < i then joinP (P.take i) ++ [59] else joinP (P.take i)) ++ s) ++ (59 :: joinP (P.drop i)) else (if 0 < i then joinP (P.take i) ++ [59] else joinP (P.take i)) ++ s
theorem insL_eq (P : List Part) (i : Nat) (s : List UInt8) (hi : i ≤ P.length) : insL P i s = Lib.join ((P.take i).map txP ++ s :: (P.drop i).map txP) [59] := by
  have hB : (if (P.drop i).map txP = [] then s else s ++ 59 :: Lib.join ((P.drop i).map txP) [59]) = if i < P.length then s ++ 59 :: joinP (P.drop i) else s := by
    by_cases h : i < P.length
    · rw [if_pos h, if_neg (by
        intro e
        have := congrArg List.length e
        simp at this; omega)]
      rfl
    · rw [if_neg h, if_pos (by
        rw [List.map_eq_nil_iff, List.drop_eq_nil_iff]; omega)]
  unfold insL
  by_cases h0 : 0 < i
  · have hA : (P.take i).map txP ≠ [] := by
      intro e
      have := congrArg List.length e
      rw [List.length_map, List.length_take, List.length_nil] at this; omega
    rw [join_mid _ s _ hA, join_left, hB, if_pos h0]
    have hj : Lib.join ((P.take i).map txP) [59] = joinP (P.take i) := rfl
    rw [hj]
    split <;> simp [List.append_assoc]
  · obtain rfl : i = 0 := by omega
    rw [if_neg h0, List.take_zero, List.map_nil, List.nil_append, join_left, hB]
    have hj : joinP [] = [] := rfl
    rw [hj]
    split <;> simp
theorem pairs_txP (o : Opt) : (pairsOf o).map txP = partsP o := by
  rw [partsP_idxs]
  unfold pairsOf
  rw [List.map_map]
  rfl
theorem short_sub {L M : List (List UInt8)} {k : Nat} (h : Short L k) (hl : M.length ≤ L.length) (hm : ∀ x ∈ M, x ∈ L) : Short M k := ⟨Nat.le_trans hl h.1, fun x hx => h.2 x (hm x hx)⟩
theorem take_short (o : Opt) (h : OptOk o) (i : Nat) : (joinP ((pairsOf o).take i)).length ≤ 450015 := by
  have := (short_sub (M := ((pairsOf o).take i).map txP) (partsP_short o h) (by rw [← pairs_txP]; simp; omega) (fun x hx => by rw [← pairs_txP]; rw [List.map_take] at hx; exact List.mem_of_mem_take hx)).join 59
  exact this
theorem drop_short (o : Opt) (h : OptOk o) (i : Nat) : (joinP ((pairsOf o).drop i)).length ≤ 450015 := by
  have := (short_sub (M := ((pairsOf o).drop i).map txP) (partsP_short o h) (by rw [← pairs_txP]; simp) (fun x hx => by rw [← pairs_txP]; rw [List.map_drop] at hx; exact List.mem_of_mem_drop hx)).join 59
  exact this
theorem pair_ok (o : Opt) (h : OptN o) : ∀ x ∈ (pairsOf o).map txP, (59 : UInt8) ∉ x ∧ TX x := fun x hx => by
  rw [pairs_txP, partsP_idxs] at hx
  obtain ⟨i, hi, rfl⟩ := List.mem_map.1 hx
  exact ⟨txt_no o h i (idxs_pres o i hi), txt_TX o h i (idxs_pres o i hi)⟩
theorem refused_at (o : Opt) (h : OptN o) (i : Nat) (hi : i ≤ (pairsOf o).length) (b : List UInt8) (hb : ∀ s, partT b s = none) (hn : (59 : UInt8) ∉ b) (hT : TX b) : optT (insL (pairsOf o) i b) = none := by
  rw [insL_eq _ _ _ hi]
  have hm : ∀ x ∈ ((pairsOf o).take i).map txP ++ b :: ((pairsOf o).drop i).map txP, (59 : UInt8) ∉ x ∧ TX x := fun x hx => by
    rcases List.mem_append.1 hx with hx | hx
    · rw [List.map_take] at hx; exact pair_ok o h x (List.mem_of_mem_take hx)
    · rcases List.mem_cons.1 hx with rfl | hx
      · exact ⟨hn, hT⟩
      · rw [List.map_drop] at hx; exact pair_ok o h x (List.mem_of_mem_drop hx)
  exact refused _ b _ hb (fun x hx => (hm x hx).1) (fun x hx => (hm x hx).2)
theorem refused_tail (o : Opt) (h : OptN o) : optT (joinP ((pairsOf o).drop 1)) = none := by
  have e : joinP ((pairsOf o).drop 1) = joinT o ((idxs o).drop 1) := by
    unfold joinP joinT pairsOf
    rw [← List.map_drop, List.map_map]
    rfl
  have e2 : (idxs o).drop 1 = [2, 3, 4, 5, 6, 7, 8, 9, 10, 11, 12, 13, 14, 15].filter (presB o) := by
    unfold idxs ord
    rw [List.filter_cons_of_pos rfl]
    rfl
  rw [e]
  refine refused_freq o h _ (fun i hi => idxs_pres o i (List.mem_of_mem_drop hi)) ?_
  rw [e2]
  intro hc
  have := (List.mem_filter.1 hc).1
  simp at this
/-- the wrong parts -/
def badsL (k : List UInt8) : List (List UInt8) := [k ++ [61, 49], k ++ [61], keyNm 2 ++ [61], keyNm 2, keyNm 2 ++ [61, 49, 61, 50], []]
structure KeyOk (k : List UInt8) : Prop where
  cap : ∀ c ∈ k, 65 ≤ c.toNat ∧ c.toNat ≤ 90
  new : ∀ i, i < 16 → k ≠ keyNm i
theorem KeyOk.pl {k : List UInt8} (h : KeyOk k) : PL k := fun c hc => by
  obtain ⟨h1, h2⟩ := h.cap c hc
  simp [plainB, h1, h2]
theorem tx_lit {l : List UInt8} (h : l.all textB = true) : TX l := fun c hc => List.all_eq_true.1 h c hc
theorem bads_ok (k : List UInt8) (h : KeyOk k) : ∀ b ∈ badsL k, (∀ s, partT b s = none) ∧ (59 : UInt8) ∉ b ∧ TX b := fun b hb => by
  have p := h.pl
  have q := keyNm_PL 2
  have n61 : (61 : UInt8) ∉ k := p.no (by decide)
  have n59 : (59 : UInt8) ∉ k := p.no (by decide)
  simp only [badsL, List.mem_cons, List.not_mem_nil, or_false] at hb
  rcases hb with rfl | rfl | rfl | rfl | rfl | rfl
  · exact ⟨partT_key n61 (by decide) (keyI_none h.new), fun hc => by rcases List.mem_append.1 hc with hc | hc; exact n59 hc; revert hc; decide, (TX.pl p).app (tx_lit (by decide))⟩
  · exact ⟨partT_empty n61, fun hc => by rcases List.mem_append.1 hc with hc | hc; exact n59 hc; revert hc; decide, (TX.pl p).app (tx_lit (by decide))⟩
  · exact ⟨partT_empty (by decide), by decide, tx_lit (by decide)⟩
  · exact ⟨partT_no (by decide), by decide, tx_lit (by decide)⟩
  · exact ⟨partT_two (k := keyNm 2) (v := [49]) (x := [50]) (by decide) (by decide) (by decide), by decide, tx_lit (by decide)⟩
  · exact ⟨partT_no (by simp), by simp, fun c hc => by simp at hc⟩
end Go.Proofs.YtcfbkkcamiephaaGreatDoor
