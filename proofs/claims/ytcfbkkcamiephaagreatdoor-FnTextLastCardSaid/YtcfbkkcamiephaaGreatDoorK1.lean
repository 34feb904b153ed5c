import Derived.Test.YtcfbkkcamiephaaGreatDoorR1
namespace Go.Proofs.YtcfbkkcamiephaaGreatDoor
open Go.RowKit

/-! ### THE PLAIN LAWS OF THE TEXTS THAT ARE READ: starts in six forms, blanks around, parts in any order, two of one key, wrong parts -/
theorem joinL_snoc (L : List (List UInt8)) (x : List UInt8) (c : UInt8) : Lib.join (L ++ [x]) [c] = if L = [] then x else Lib.join L [c] ++ c :: x := by
  induction L with
  | nil => exact join_one1 x c
  | cons y r ih =>
    rw [if_neg (by simp)]
    cases r with
    | nil => rw [List.cons_append, List.nil_append, join_cons2, join_one1, join_one1]
    | cons z t =>
      rw [if_neg (by simp)] at ih
      rw [List.cons_append, List.cons_append, join_cons2, ← List.cons_append, ih, join_cons2, List.append_assoc, List.cons_append]
theorem setF_st (o d : Opt) : setF 1 o d = { d with st := o.st } := by simp [setF]
theorem txt_ne (o : Opt) (i : Nat) : txt o i ≠ [] := by simp [txt, pTx]
theorem joinT_ne (o : Opt) (L : List Nat) (h0 : L ≠ []) : joinT o L ≠ [] :=
  join_ne (by simpa using h0) (fun x hx => by obtain ⟨i, _, rfl⟩ := List.mem_map.1 hx; exact txt_ne o i)
theorem idxs_ne (o : Opt) : idxs o ≠ [] := List.ne_nil_of_mem (idxs_all o 0 (by omega) (by omega) rfl)
theorem stamp15_PL (s : Int) (h : InTime s) : PL ((stampS s).take 15) := fun c hc => stampS_PL s h c (List.mem_of_mem_take hc)
theorem stamp15_ne (s : Int) (h : InTime s) : (stampS s).take 15 ≠ [] := fun e => by
  have := congrArg List.length e
  rw [List.length_take, stampS_len s h] at this
  exact absurd this (by decide)
theorem st_eta (o : Opt) (h : OptN o) : ({ o with st := (o.st.1, 0) } : Opt) = o := by
  have := h.st0
  simp [← this]
def stp1 (o : Opt) : List UInt8 := [68, 84, 83, 84, 65, 82, 84, 58] ++ stampS o.st.1 ++ [10, 82, 82, 85, 76, 69, 58] ++ rrL o
def stp2 (o : Opt) : List UInt8 := [100, 116, 115, 116, 97, 114, 116, 58] ++ stampS o.st.1 ++ [10] ++ rrL o
def stp3 (o : Opt) : List UInt8 := [68, 84, 83, 84, 65, 82, 84, 59, 84, 90, 73, 68, 61, 85, 84, 67, 58] ++ (stampS o.st.1).take 15 ++ [10, 82, 82, 85, 76, 69, 58] ++ rrL o
def stp4 (o : Opt) : List UInt8 := [68, 116, 115, 116, 97, 114, 116, 58] ++ (stampS o.st.1).take 15 ++ [10, 82, 82, 85, 76, 69, 58] ++ rrL o
def stp5 (o : Opt) : List UInt8 := [82, 82, 85, 76, 69, 58] ++ rrL o ++ [59, 68, 84, 83, 84, 65, 82, 84, 61] ++ stampS o.st.1
def stp6 (o : Opt) : List UInt8 := [68, 84, 83, 84, 65, 82, 84, 61] ++ (stampS o.st.1).take 15 ++ [59] ++ rrL o
theorem st_back2 (o : Opt) (h : OptN o) : optT (stp2 o) = some o := by
  have hT := joinT_TX o h _ (idxs_pres o)
  have e : stp2 o = ([100, 116, 115, 116, 97, 114, 116] ++ 58 :: stampS o.st.1) ++ 10 :: joinT o (idxs o) := by
    unfold stp2; rw [rrL_joinT]; simp [List.append_assoc]
  rw [e, two_back (dline (n := [100, 116, 115, 116, 97, 114, 116]) (by decide) (by decide) (by decide) (stampS_PL _ h.ok.st) (time_back _ h.ok.st)) hT.sp hT.asc (joinT_ne o _ (idxs_ne o)), rule_back o h _ (idxs_pres o) (idxs_all o), if_neg (idxs_one o), st_eta o h]
theorem st_back1 (o : Opt) (h : OptN o) : optT (stp1 o) = some o := by
  have hT := joinT_TX o h _ (idxs_pres o)
  have e : stp1 o = ([68, 84, 83, 84, 65, 82, 84] ++ 58 :: stampS o.st.1) ++ 10 :: (rrule ++ joinT o (idxs o)) := by
    unfold stp1; rw [rrL_joinT]; simp [rrule, List.append_assoc]
  rw [e, two_back (dline (n := [68, 84, 83, 84, 65, 82, 84]) (by decide) (by decide) (by decide) (stampS_PL _ h.ok.st) (time_back _ h.ok.st)) (all_app rr_sp hT.sp) (all_app rr_asc hT.asc) (by simp [rrule]), rule_back2 o h _ (idxs_pres o) (idxs_all o), if_neg (idxs_one o), st_eta o h]
theorem st_back3 (o : Opt) (h : OptN o) : optT (stp3 o) = some o := by
  have hT := joinT_TX o h _ (idxs_pres o)
  have e : stp3 o = ([68, 84, 83, 84, 65, 82, 84] ++ 59 :: ([84, 90, 73, 68, 61, 85, 84, 67] ++ 58 :: (stampS o.st.1).take 15)) ++ 10 :: (rrule ++ joinT o (idxs o)) := by
    unfold stp3; rw [rrL_joinT]; simp [rrule, List.append_assoc]
  rw [e, two_back (dline_utc (n := [68, 84, 83, 84, 65, 82, 84]) (by decide) (by decide) (by decide) (stamp15_PL _ h.ok.st) (time_bare _ h.ok.st)) (all_app rr_sp hT.sp) (all_app rr_asc hT.asc) (by simp [rrule]), rule_back2 o h _ (idxs_pres o) (idxs_all o), if_neg (idxs_one o), st_eta o h]
theorem st_back4 (o : Opt) (h : OptN o) : optT (stp4 o) = some o := by
  have hT := joinT_TX o h _ (idxs_pres o)
  have e : stp4 o = ([68, 116, 115, 116, 97, 114, 116] ++ 58 :: (stampS o.st.1).take 15) ++ 10 :: (rrule ++ joinT o (idxs o)) := by
    unfold stp4; rw [rrL_joinT]; simp [rrule, List.append_assoc]
  rw [e, two_back (dline (n := [68, 116, 115, 116, 97, 114, 116]) (by decide) (by decide) (by decide) (stamp15_PL _ h.ok.st) (time_bare _ h.ok.st)) (all_app rr_sp hT.sp) (all_app rr_asc hT.asc) (by simp [rrule]), rule_back2 o h _ (idxs_pres o) (idxs_all o), if_neg (idxs_one o), st_eta o h]
theorem joinT_snoc (o : Opt) (L : List Nat) (i : Nat) (h0 : L ≠ []) : joinT o (L ++ [i]) = joinT o L ++ 59 :: txt o i := by
  unfold joinT
  rw [List.map_append, List.map_cons, List.map_nil, joinL_snoc, if_neg (by simpa using h0)]
theorem st_back5 (o : Opt) (h : OptN o) (hz : isZ o.st = false) : optT (stp5 o) = some o := by
  have e : stp5 o = rrule ++ joinT o (idxs o ++ [1]) := by
    unfold stp5; rw [rrL_joinT, joinT_snoc o _ 1 (idxs_ne o)]; simp [rrule, List.append_assoc, txt, pTx, keyNm, valL]
  rw [e, one_back2 o h (idxs o ++ [1]) (fun i hi => ?_) (fun i h1 h2 h3 => List.mem_append_left _ (idxs_all o i h1 h2 h3)), if_pos (by simp)]
  rcases List.mem_append.1 hi with hi | hi
  · exact idxs_pres o i hi
  · rw [List.mem_singleton] at hi; subst hi; simp [presB, hz]
theorem st_back6 (o : Opt) (h : OptN o) : optT (stp6 o) = some o := by
  have hv : VOk ((stampS o.st.1).take 15) := VOk.of (stamp15_PL _ h.ok.st) (stamp15_ne _ h.ok.st)
  have hval : Val 1 ((stampS o.st.1).take 15) o := fun d => by
    have e1 : partI 1 ((stampS o.st.1).take 15) d = (timeT ((stampS o.st.1).take 15)).map fun x => { d with st := x } := rfl
    rw [e1, time_bare _ h.ok.st, setF_st]
    have := h.st0
    simp [← this]
  have e : stp6 o = Lib.join (pTx (keyNm 1) ((stampS o.st.1).take 15) :: (idxs o).map (txt o)) [59] := by
    obtain ⟨y, t, hyt⟩ := List.exists_cons_of_ne_nil (show (idxs o).map (txt o) ≠ [] by simpa using idxs_ne o)
    rw [hyt, join_cons2, ← hyt]
    unfold stp6
    rw [rrL_joinT]
    simp [joinT, pTx, keyNm, List.append_assoc]
  have hT : TX (stp6 o) := by
    rw [e]
    refine TX.join (fun x hx => ?_)
    rcases List.mem_cons.1 hx with rfl | hx
    · exact (TX.pl (keyNm_PL 1)).tx (TX.of hv)
    · obtain ⟨i, hi, rfl⟩ := List.mem_map.1 hx; exact txt_TX o h i (idxs_pres o i hi)
  rw [optT_one (asc_of hT.asc) (trimS_id hT.sp) (hT.no (by decide))]
  unfold ruleT
  rw [noPrefix (hT.no (by decide)), e]
  unfold partsR
  rw [split_join 59 _ (by simp) (fun x hx => by
    rcases List.mem_cons.1 hx with rfl | hx
    · exact pTx_no (keyNm_PL 1) hv
    · obtain ⟨i, hi, rfl⟩ := List.mem_map.1 hx; exact txt_no o h i (idxs_pres o i hi))]
  simp only [partsL]
  rw [part_back 1 _ o _ _ (by omega) hv hval]
  simp only
  rw [parts_back o h _ (idxs_pres o), setF_st]
  have h0 : (idxs o).contains 0 = true := by simpa using idxs_all o 0 (by omega) (by omega) rfl
  simp only [h0, Bool.or_true, if_true]
  rw [show ({ ({ Opt.zero with st := (0, 0) } : Opt) with st := o.st } : Opt) = { Opt.zero with st := o.st } from rfl, pick_all o _ o.st (idxs_all o), if_neg (idxs_one o)]

/-! #### blanks around -/
theorem optL_eq (o : Opt) (hz : isZ o.st = false) : optL o = (dtL ++ 58 :: stampS o.st.1) ++ 10 :: (rrule ++ joinT o (idxs o)) := by
  unfold optL
  rw [if_neg (by simp [hz]), rrL_joinT]
  simp [rfcL, nlL, rrule, List.append_assoc]
theorem optL_asc (o : Opt) (h : OptN o) : ∀ c ∈ optL o, c.toNat < 128 := by
  have hT := joinT_TX o h _ (idxs_pres o)
  cases hz : isZ o.st with
  | true => unfold optL; rw [if_pos hz, rrL_joinT]; exact hT.asc
  | false =>
    rw [optL_eq o hz]
    refine all_app (P := fun c => c.toNat < 128) (all_app (P := fun c => c.toNat < 128) (by decide) (fun c hc => ?_)) (fun c hc => ?_)
    · rcases List.mem_cons.1 hc with rfl | hc
      · decide
      · exact (stampS_PL _ h.ok.st).asc c hc
    · rcases List.mem_cons.1 hc with rfl | hc
      · decide
      · exact all_app rr_asc hT.asc c hc
theorem optL_ends (o : Opt) (h : OptN o) : ∃ x m n y, optL o = x :: m ∧ optL o = n ++ [y] ∧ Lib.isSp x = false ∧ Lib.isSp y = false := by
  have hT := joinT_TX o h _ (idxs_pres o)
  have hne := joinT_ne o _ (idxs_ne o)
  have hlast : ∀ A : List UInt8, A ++ joinT o (idxs o) = (A ++ (joinT o (idxs o)).dropLast) ++ [(joinT o (idxs o)).getLast hne] := fun A => by
    rw [List.append_assoc, List.dropLast_concat_getLast hne]
  have hls := hT.sp _ (List.getLast_mem hne)
  cases hz : isZ o.st with
  | true =>
    obtain ⟨x, m, hx⟩ := List.exists_cons_of_ne_nil hne
    have e : optL o = joinT o (idxs o) := by unfold optL; rw [if_pos hz, rrL_joinT]
    exact ⟨x, m, _, _, e.trans hx, e.trans (hlast []), hT.sp x (by rw [hx]; simp), hls⟩
  | false =>
    have e := optL_eq o hz
    refine ⟨68, [84, 83, 84, 65, 82, 84] ++ 58 :: stampS o.st.1 ++ 10 :: (rrule ++ joinT o (idxs o)), ((dtL ++ 58 :: stampS o.st.1) ++ 10 :: rrule) ++ (joinT o (idxs o)).dropLast, (joinT o (idxs o)).getLast hne, by rw [e]; simp [dtL], ?_, by decide, hls⟩
    rw [e, show (dtL ++ 58 :: stampS o.st.1) ++ 10 :: (rrule ++ joinT o (idxs o)) = ((dtL ++ 58 :: stampS o.st.1) ++ 10 :: rrule) ++ joinT o (idxs o) by simp [List.append_assoc]]
    exact hlast _
/-- Blanks around an option's text change nothing. -/
theorem blanks_back (o : Opt) (h : OptN o) (a b : List UInt8) (ha : ∀ c ∈ a, Lib.isSp c = true ∧ c.toNat < 128) (hb : ∀ c ∈ b, Lib.isSp c = true ∧ c.toNat < 128) : optT (a ++ optL o ++ b) = some o := by
  obtain ⟨x, m, n, y, h1, h2, h3, h4⟩ := optL_ends o h
  have hasc := optL_asc o h
  have t1 : trimS (a ++ optL o ++ b) = optL o := trimS_blanks (fun c hc => (ha c hc).1) (fun c hc => (hb c hc).1) h1 h2 h3 h4
  have t2 : trimS (optL o) = optL o := by
    have := trimS_blanks (a := []) (b := []) (fun c hc => by simp at hc) (fun c hc => by simp at hc) h1 h2 h3 h4
    simpa using this
  rw [optT_trim (asc_of (all_app (all_app (fun c hc => (ha c hc).2) hasc) (fun c hc => (hb c hc).2))) t1 (asc_of hasc) t2, opt_back o h]

/-! #### parts in any order -/
theorem order_back (o : Opt) (h : OptN o) (L : List Nat) (hp : L.Perm (idxs o)) : optT (joinT o L) = some { o with st := (0, 0) } ∧ optT (rrule ++ joinT o L) = some { o with st := (0, 0) } := by
  have h1 : ∀ i ∈ L, presB o i = true := fun i hi => idxs_pres o i (hp.mem_iff.1 hi)
  have h2 : ∀ i, i < 16 → i ≠ 1 → presB o i = true → i ∈ L := fun i a b c => hp.mem_iff.2 (idxs_all o i a b c)
  have h3 : 1 ∉ L := fun hc => idxs_one o (hp.mem_iff.1 hc)
  exact ⟨by rw [one_back o h L h1 h2, if_neg h3], by rw [one_back2 o h L h1 h2, if_neg h3]⟩

/-! #### of two parts with one key the last one counts -/
theorem parts_txt (o q : Opt) (h : OptN o) (k : OptN q) (L : List Nat) (hL : ∀ i ∈ L, presB o i = true) (j : Nat) (hj : presB q j = true) (d : Opt) :
    partsL (L.map (txt o) ++ [txt q j]) (d, false) = some (setF j q (pick L o d), L.contains 0 || j == 0) := by
  rw [partsL_app, parts_back o h L hL]
  simp only [Option.bind_some, partsL, Bool.false_or]
  rw [show txt q j = pTx (keyNm j) (valL q j) from rfl, part_back j _ q _ _ (pres_lt hj) (val_ok q j k hj) (val_back q j k hj)]
theorem last_join (o q : Opt) (h : OptN o) (k : OptN q) (L : List Nat) (hL : ∀ i ∈ L, presB o i = true) (j : Nat) (hj : presB q j = true) (h0 : 0 ∈ L ∨ j = 0) :
    optT (Lib.join (L.map (txt o) ++ [txt q j]) [59]) = some (setF j q (pick L o { Opt.zero with st := (0, 0) })) := by
  have hT : TX (Lib.join (L.map (txt o) ++ [txt q j]) [59]) := TX.join (fun x hx => by
    rcases List.mem_append.1 hx with hx | hx
    · obtain ⟨i, hi, rfl⟩ := List.mem_map.1 hx; exact txt_TX o h i (hL i hi)
    · rw [List.mem_singleton] at hx; subst hx; exact txt_TX q k j hj)
  rw [optT_one (asc_of hT.asc) (trimS_id hT.sp) (hT.no (by decide))]
  unfold ruleT
  rw [noPrefix (hT.no (by decide))]
  unfold partsR
  rw [split_join 59 _ (by simp) (fun x hx => by
    rcases List.mem_append.1 hx with hx | hx
    · obtain ⟨i, hi, rfl⟩ := List.mem_map.1 hx; exact txt_no o h i (hL i hi)
    · rw [List.mem_singleton] at hx; subst hx; exact txt_no q k j hj), parts_txt o q h k L hL j hj]
  have hb : (L.contains 0 || j == 0) = true := by
    rcases h0 with h0 | h0
    · simp [h0]
    · simp [h0]
  simp only [hb, if_true]
theorem setF_pick (j : Nat) (q o : Opt) (L : List Nat) (d : Opt) : setF j q (pick (L.filter fun i => i != j) o d) = setF j q (pick L o d) := by
  have key' : ∀ {α : Type} (i : Nat) (a b c : α), (if j = i then a else if i ∈ L.filter (fun i => i != j) then b else c) = (if j = i then a else if i ∈ L then b else c) := fun i a b c => by
    by_cases hi : j = i
    · rw [if_pos hi, if_pos hi]
    · rw [if_neg hi, if_neg hi]
      by_cases hm : i ∈ L
      · rw [if_pos hm, if_pos (List.mem_filter.2 ⟨hm, by simpa using fun e => hi e.symm⟩)]
      · rw [if_neg hm, if_neg (fun h => hm (List.mem_filter.1 h).1)]
  unfold setF pick
  simp only [key']

/-! #### wrong parts -/
theorem partsL_none {A : List (List UInt8)} {b : List UInt8} {B : List (List UInt8)} (hb : ∀ s, partT b s = none) (s : Opt × Bool) : partsL (A ++ b :: B) s = none := by
  rw [partsL_app]
  cases partsL A s with
  | none => rfl
  | some s' => simp only [Option.bind_some, partsL, hb]
theorem partsR_none {A : List (List UInt8)} {b : List UInt8} {B : List (List UInt8)} (hb : ∀ s, partT b s = none) (hn : ∀ x ∈ A ++ b :: B, (59 : UInt8) ∉ x) (s : Int × Int) : partsR (Lib.join (A ++ b :: B) [59]) s = none := by
  unfold partsR
  rw [split_join 59 _ (by simp) hn, partsL_none hb]
theorem refused (A : List (List UInt8)) (b : List UInt8) (B : List (List UInt8)) (hb : ∀ s, partT b s = none) (hn : ∀ x ∈ A ++ b :: B, (59 : UInt8) ∉ x) (hT : ∀ x ∈ A ++ b :: B, TX x) : optT (Lib.join (A ++ b :: B) [59]) = none := by
  have hT := TX.join hT
  rw [optT_one (asc_of hT.asc) (trimS_id hT.sp) (hT.no (by decide))]
  unfold ruleT
  rw [noPrefix (hT.no (by decide)), partsR_none hb hn]
/-- Without the frequency. -/
theorem refused_freq (o : Opt) (h : OptN o) (L : List Nat) (hL : ∀ i ∈ L, presB o i = true) (h0 : 0 ∉ L) : optT (joinT o L) = none := by
  have hT := joinT_TX o h L hL
  rw [optT_one (asc_of hT.asc) (trimS_id hT.sp) (hT.no (by decide))]
  unfold ruleT
  rw [noPrefix (hT.no (by decide))]
  by_cases hl : L = []
  · subst hl
    rfl
  · unfold partsR joinT
    rw [split_join 59 _ (by simpa using hl) (fun x hx => by obtain ⟨i, hi, rfl⟩ := List.mem_map.1 hx; exact txt_no o h i (hL i hi)), parts_back o h L hL]
    simp [h0]
/-- A part whose key is none of the sixteen. -/
theorem partT_key {k v : List UInt8} (hk : (61 : UInt8) ∉ k) (hv : (61 : UInt8) ∉ v) (hi : keyI k = 16) (s : Opt × Bool) : partT (k ++ 61 :: v) s = none := by
  unfold partT
  rw [split_app 61 k v hk, split_no 61 v hv]
  simp only [hi, partI]
  split <;> rfl
/-- A part without a value. -/
theorem partT_empty {k : List UInt8} (hk : (61 : UInt8) ∉ k) (s : Opt × Bool) : partT (k ++ [61]) s = none := by
  unfold partT
  rw [show k ++ [61] = k ++ 61 :: [] from rfl, split_app 61 k [] hk, split_no 61 [] (by simp)]
  simp
theorem partT_no {k : List UInt8} (hk : (61 : UInt8) ∉ k) (s : Opt × Bool) : partT k s = none := by
  unfold partT
  rw [split_no 61 k hk]
theorem partT_two {k v x : List UInt8} (hk : (61 : UInt8) ∉ k) (hv : (61 : UInt8) ∉ v) (hx : (61 : UInt8) ∉ x) (s : Opt × Bool) : partT (k ++ 61 :: (v ++ 61 :: x)) s = none := by
  unfold partT
  rw [split_app 61 k _ hk, split_app 61 v x hv, split_no 61 x hx]
theorem keyI_none {k : List UInt8} (h : ∀ i, i < 16 → k ≠ keyNm i) : keyI k = 16 := by
  unfold keyI
  rw [if_neg (h 0 (by omega)), if_neg (h 1 (by omega)), if_neg (h 2 (by omega)), if_neg (h 3 (by omega)), if_neg (h 4 (by omega)), if_neg (h 5 (by omega)), if_neg (h 6 (by omega)), if_neg (h 7 (by omega)), if_neg (h 8 (by omega)), if_neg (h 9 (by omega)), if_neg (h 10 (by omega)), if_neg (h 11 (by omega)), if_neg (h 12 (by omega)), if_neg (h 13 (by omega)), if_neg (h 14 (by omega)), if_neg (h 15 (by omega))]
end Go.Proofs.YtcfbkkcamiephaaGreatDoor
