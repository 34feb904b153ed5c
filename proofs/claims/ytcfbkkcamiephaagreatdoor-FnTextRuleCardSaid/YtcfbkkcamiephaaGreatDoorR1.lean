import Derived.Test.YtcfbkkcamiephaaGreatDoorF10
import Derived.Test.YtcfbkkcamiephaaGreatDoorP1
namespace Go.Proofs.YtcfbkkcamiephaaGreatDoor
open Go.RowKit

/-! ### the signs of values, and texts read back: plain words -/
/-- a digit, a sign, a capital letter -/
def plainB (c : UInt8) : Bool := isD c || c == 43 || c == 45 || (decide (65 ≤ c.toNat) && decide (c.toNat ≤ 90))
def PL (l : List UInt8) : Prop := ∀ c ∈ l, plainB c = true
theorem PL.app {a b : List UInt8} (h : PL a) (k : PL b) : PL (a ++ b) := fun c hc => by
  rcases List.mem_append.1 hc with hc | hc
  · exact h c hc
  · exact k c hc
theorem PL.cons {x : UInt8} {a : List UInt8} (h : plainB x = true) (k : PL a) : PL (x :: a) := fun c hc => by
  rcases List.mem_cons.1 hc with rfl | hc
  · exact h
  · exact k c hc
theorem PL.nil : PL [] := fun c hc => by simp at hc
theorem PL.of_dig {l : List UInt8} (h : l.all isD = true) : PL l := fun c hc => by
  have := List.all_eq_true.1 h c hc
  simp [plainB, this]
theorem plain_ne {c : UInt8} (h : plainB c = true) : c ≠ 44 ∧ c ≠ 59 ∧ c ≠ 61 ∧ c ≠ 58 ∧ c ≠ 10 ∧ c.toNat < 128 ∧ Lib.isSp c = false ∧ upC c = c := by
  refine ⟨?_, ?_, ?_, ?_, ?_, ?_, ?_, ?_⟩
  · rintro rfl; revert h; decide
  · rintro rfl; revert h; decide
  · rintro rfl; revert h; decide
  · rintro rfl; revert h; decide
  · rintro rfl; revert h; decide
  · simp [plainB, isD] at h
    rcases h with ((h | h) | h) | h
    · omega
    · subst h; decide
    · subst h; decide
    · omega
  · simp only [Lib.isSp, Bool.or_eq_false_iff, beq_eq_false_iff_ne]
    refine ⟨⟨⟨⟨⟨?_, ?_⟩, ?_⟩, ?_⟩, ?_⟩, ?_⟩ <;> (rintro rfl; revert h; decide)
  · unfold upC
    rw [if_neg]
    simp [plainB, isD] at h
    rcases h with ((h | h) | h) | h
    · omega
    · subst h; decide
    · subst h; decide
    · omega
theorem PL.no {l : List UInt8} (h : PL l) {x : UInt8} (hx : plainB x = false) : x ∉ l := fun hc => by
  rw [h x hc] at hx; cases hx

/-! #### digits -/
theorem isD_ofNat {k : Nat} (h : k < 10) : isD (UInt8.ofNat (48 + k)) = true ∧ ((UInt8.ofNat (48 + k)).toNat : Int) - 48 = k := by
  have e : (UInt8.ofNat (48 + k)).toNat = 48 + k := by rw [UInt8.toNat_ofNat']; omega
  unfold isD
  rw [e]
  simp; omega
theorem dec_spec (u : Nat) : (Lib.decDigits u).all isD = true ∧ numFrom 0 (Lib.decDigits u) = u ∧ Lib.decDigits u ≠ [] := by
  induction u using Nat.strongRecOn with
  | _ u ih =>
    rw [Lib.decDigits]
    by_cases h : u < 10
    · rw [dif_pos h]
      have := isD_ofNat h
      refine ⟨by rw [List.all_cons, this.1]; rfl, ?_, by simp⟩
      simp only [numFrom, this.2]; omega
    · rw [dif_neg h]
      obtain ⟨h1, h2, h3⟩ := ih (u / 10) (by omega)
      have := isD_ofNat (k := u % 10) (by omega)
      refine ⟨by rw [List.all_append, h1, List.all_cons, this.1]; rfl, ?_, by simp⟩
      rw [numFrom_snoc, h2, this.2]; omega
theorem numFrom_app (a : Int) (x y : List UInt8) : numFrom a (x ++ y) = numFrom (numFrom a x) y := by
  induction x generalizing a with
  | nil => rfl
  | cons c r ih => exact ih _
theorem numFrom_zeros (k : Nat) : numFrom 0 (List.replicate k 48) = 0 := by
  induction k with
  | zero => rfl
  | succ k ih => rw [List.replicate_succ]; exact ih
theorem all_zeros (k : Nat) : (List.replicate k (48 : UInt8)).all isD = true := by
  rw [List.all_eq_true]; intro c hc; rw [List.eq_of_mem_replicate hc]; decide
theorem sMag_dig (most : Nat) (l : List UInt8) (acc : Nat) (h : l.all isD = true) (hv : numFrom acc l ≤ most) : sMag most acc l = some (numFrom acc l).toNat := by
  induction l generalizing acc with
  | nil => simp [sMag, numFrom]
  | cons c r ih =>
    simp only [List.all_cons, Bool.and_eq_true] at h
    have hc : 48 ≤ c.toNat ∧ c.toNat ≤ 57 := by simpa [isD] using h.1
    have e : (10 * (acc : Int) + ((c.toNat : Int) - 48)) = ((acc * 10 + (c.toNat - 48) : Nat) : Int) := by omega
    simp only [numFrom] at hv ⊢
    rw [e] at hv ⊢
    have b := (numFrom_bd ((acc * 10 + (c.toNat - 48) : Nat) : Int) r h.2 (by omega)).1
    simp only [sMag]
    rw [if_neg (by omega), if_neg (by omega)]
    exact ih _ h.2 hv
theorem dig_head {l : List UInt8} (h : l.all isD = true) {c : UInt8} {r : List UInt8} (e : l = c :: r) : c.toNat ≠ 43 ∧ c.toNat ≠ 45 := by
  subst e
  simp [isD] at h
  omega
theorem atoi_dig (l : List UInt8) (h : l.all isD = true) (h0 : l ≠ []) (hv : numFrom 0 l ≤ 9223372036854775807) : atoiO l = some (numFrom 0 l) := by
  rw [← intS_eq]
  have b := (numFrom_bd 0 l h (by omega)).1
  cases hl : l with
  | nil => exact absurd hl h0
  | cons c r =>
    have hc := dig_head h hl
    unfold intS
    simp only
    rw [if_neg (show ¬ (c.toNat = 43 ∨ c.toNat = 45) by omega), if_neg (show ¬ c.toNat = 45 by omega), ← hl, if_neg h0, sMag_dig _ _ _ h (by simpa using hv)]
    simp
    rw [if_neg (by omega)]
    omega
theorem atoi_plus (l : List UInt8) (h : l.all isD = true) (h0 : l ≠ []) (hv : numFrom 0 l ≤ 9223372036854775807) : atoiO (43 :: l) = some (numFrom 0 l) := by
  rw [← intS_eq]
  have b := (numFrom_bd 0 l h (by omega)).1
  unfold intS
  simp only
  rw [if_pos (Or.inl (by decide)), if_neg (show ¬ (43 : UInt8).toNat = 45 by decide), if_neg h0, sMag_dig _ _ _ h (by simpa using hv)]
  simp
  omega
theorem atoi_minus (l : List UInt8) (h : l.all isD = true) (h0 : l ≠ []) (hv : numFrom 0 l ≤ 9223372036854775808) : atoiO (45 :: l) = some (-(numFrom 0 l)) := by
  rw [← intS_eq]
  have b := (numFrom_bd 0 l h (by omega)).1
  unfold intS
  simp only
  rw [if_pos (Or.inr (by decide)), if_pos (show (45 : UInt8).toNat = 45 by decide), if_neg h0, sMag_dig _ _ _ h (by simpa using hv)]
  simp
  omega
/-- A number as it is written is read back. -/
theorem atoi_itoa (n : Int) (h : In64 n) : atoiO (Lib.itoa n) = some n := by
  unfold In64 at h
  unfold Lib.itoa
  split
  · obtain ⟨h1, h2, h3⟩ := dec_spec n.natAbs
    rw [atoi_minus _ h1 h3 (by rw [h2]; omega), h2]; congr 1; omega
  · obtain ⟨h1, h2, h3⟩ := dec_spec n.toNat
    rw [atoi_dig _ h1 h3 (by rw [h2]; omega), h2]; congr 1; omega
theorem itoa_PL (n : Int) : PL (Lib.itoa n) := by
  unfold Lib.itoa
  split
  · exact PL.cons (by decide) (PL.of_dig (dec_spec _).1)
  · exact PL.of_dig (dec_spec _).1
theorem itoa_ne (n : Int) : Lib.itoa n ≠ [] := by
  unfold Lib.itoa
  split
  · simp
  · exact (dec_spec _).2.2
theorem atoi_signed (n : Int) (h : In64 n) : atoiO (signed n) = some n := by
  unfold signed
  split
  · exact atoi_itoa n h
  · rename_i hn
    unfold In64 at h
    unfold Lib.itoa
    rw [if_neg hn]
    obtain ⟨h1, h2, h3⟩ := dec_spec n.toNat
    rw [atoi_plus _ h1 h3 (by rw [h2]; omega), h2]; congr 1; omega
theorem signed_PL (n : Int) : PL (signed n) := by
  unfold signed
  split
  · exact itoa_PL n
  · exact PL.cons (by decide) (itoa_PL n)
theorem signed_ne (n : Int) : signed n ≠ [] := by
  unfold signed
  split
  · exact itoa_ne n
  · simp

/-! #### pieces -/
theorem split_app (c : UInt8) (a r : List UInt8) (h : c ∉ a) : splitL c (a ++ c :: r) = a :: splitL c r := by
  induction a with
  | nil => simp [splitL]
  | cons x t ih =>
    rw [List.cons_append]
    simp only [splitL]
    rw [if_neg (fun e => h (by rw [e]; simp)), ih (fun hm => h (List.mem_cons_of_mem _ hm))]
theorem split_no (c : UInt8) (a : List UInt8) (h : c ∉ a) : splitL c a = [a] := by
  induction a with
  | nil => rfl
  | cons x t ih =>
    simp only [splitL]
    rw [if_neg (fun e => h (by rw [e]; simp)), ih (fun hm => h (List.mem_cons_of_mem _ hm))]
theorem join_cons2 (x y : List UInt8) (t : List (List UInt8)) (c : UInt8) : Lib.join (x :: y :: t) [c] = x ++ c :: Lib.join (y :: t) [c] := by
  simp [Lib.join, List.intercalate, List.intersperse]
theorem join_one1 (x : List UInt8) (c : UInt8) : Lib.join [x] [c] = x := by simp [Lib.join, List.intercalate]
theorem split_join (c : UInt8) (L : List (List UInt8)) (h0 : L ≠ []) (h : ∀ x ∈ L, c ∉ x) : splitL c (Lib.join L [c]) = L := by
  induction L with
  | nil => exact absurd rfl h0
  | cons x r ih =>
    cases r with
    | nil => rw [join_one1]; exact split_no c x (h x (by simp))
    | cons y t =>
      rw [join_cons2, split_app c x _ (h x (by simp)), ih (by simp) (fun z hz => h z (by simp [hz]))]
theorem join_mem {c : UInt8} {L : List (List UInt8)} {b : UInt8} (h : b ∈ Lib.join L [c]) : b = c ∨ ∃ x ∈ L, b ∈ x := by
  induction L with
  | nil => simp [Lib.join, List.intercalate] at h
  | cons x r ih =>
    cases r with
    | nil => rw [join_one1] at h; exact .inr ⟨x, by simp, h⟩
    | cons y t =>
      rw [join_cons2] at h
      rcases List.mem_append.1 h with h | h
      · exact .inr ⟨x, by simp, h⟩
      · rcases List.mem_cons.1 h with h | h
        · exact .inl h
        · rcases ih h with h | ⟨z, hz, h⟩
          · exact .inl h
          · exact .inr ⟨z, by simp [hz], h⟩
theorem join_ne {c : UInt8} {L : List (List UInt8)} (h0 : L ≠ []) (h : ∀ x ∈ L, x ≠ []) : Lib.join L [c] ≠ [] := by
  cases L with
  | nil => exact absurd rfl h0
  | cons x r =>
    cases r with
    | nil => rw [join_one1]; exact h x (by simp)
    | cons y t => rw [join_cons2]; simp
theorem intsL_map (zs : List Int) (h : ∀ z ∈ zs, In64 z) : intsL (zs.map Lib.itoa) = some zs := by
  induction zs with
  | nil => rfl
  | cons z r ih => simp only [List.map_cons, intsL]; rw [atoi_itoa z (h z (by simp)), ih (fun y hy => h y (by simp [hy]))]; rfl
theorem comma_no : plainB 44 = false := by decide
/-- Numbers with commas between them are read back. -/
theorem ints_back (zs : List Int) (h : ∀ z ∈ zs, In64 z) (h0 : zs ≠ []) : intsT (intsJ zs) = some zs := by
  unfold intsT intsJ
  rw [split_join 44 _ (by simpa using h0) (fun x hx => by obtain ⟨z, _, rfl⟩ := List.mem_map.1 hx; exact (itoa_PL z).no comma_no)]
  exact intsL_map zs h

/-! #### weekdays -/
theorem dayL_PL (i : Nat) : PL (dayL i) := by
  match i with
  | 0 => exact fun c hc => by revert c; decide
  | 1 => exact fun c hc => by revert c; decide
  | 2 => exact fun c hc => by revert c; decide
  | 3 => exact fun c hc => by revert c; decide
  | 4 => exact fun c hc => by revert c; decide
  | 5 => exact fun c hc => by revert c; decide
  | (n + 6) => exact fun c (hc : c ∈ dayL 6) => by revert c; decide
theorem dayI_L (d : Nat) (h : d ≤ 6) : dayI (dayL d) = some d := by
  rcases (show d = 0 ∨ d = 1 ∨ d = 2 ∨ d = 3 ∨ d = 4 ∨ d = 5 ∨ d = 6 by omega) with rfl | rfl | rfl | rfl | rfl | rfl | rfl <;> decide +kernel
/-- A sign or none, digits, and the name of a day: read back. -/
theorem dayT_of (t : List UInt8) (d : Nat) (n : Int) (hd : d ≤ 6) (ht : t ≠ []) (hn : atoiO t = some n) : dayT (t ++ dayL d) = some ((d : Int), n) := by
  have hl := dayL_len d
  have hp : 0 < t.length := List.length_pos_iff.2 ht
  have e : (t ++ dayL d).length - 2 = t.length := by rw [List.length_append, hl]; omega
  unfold dayT
  rw [if_neg (by rw [List.length_append]; omega), e, List.drop_left, dayI_L d hd]
  simp only
  rw [if_pos (by rw [List.length_append]; omega), List.take_left, hn]
theorem dayT_L (d : Nat) (hd : d ≤ 6) : dayT (dayL d) = some ((d : Int), 0) := by
  have hl := dayL_len d
  unfold dayT
  rw [if_neg (by omega), hl, show 2 - 2 = 0 from rfl, List.drop_zero, dayI_L d hd]
  simp only
  rw [if_neg (by omega)]
theorem day_back (d n : Int) (h0 : 0 ≤ d) (h1 : d ≤ 6) (hn : In64 n) : dayT (dayStr d.toNat n) = some (d, n) := by
  unfold dayStr
  split
  · rename_i e; subst e; rw [dayT_L _ (by omega)]; congr 2; omega
  · rw [dayT_of _ _ n (by omega) (signed_ne n) (atoi_signed n hn)]; congr 2; omega
theorem dayStr_PL (d : Nat) (n : Int) : PL (dayStr d n) := by
  unfold dayStr
  split
  · exact dayL_PL d
  · exact (signed_PL n).app (dayL_PL d)
theorem dayL_ne (d : Nat) : dayL d ≠ [] := fun h => by have := dayL_len d; rw [h] at this; cases this
theorem dayStr_ne (d : Nat) (n : Int) : dayStr d n ≠ [] := by
  unfold dayStr
  split
  · exact dayL_ne d
  · simp [dayL_ne d]
theorem daysL_map (ds : List (Int × Int)) (h : ∀ p ∈ ds, 0 ≤ p.1 ∧ p.1 ≤ 6 ∧ In64 p.2) : daysL (ds.map fun p => dayStr p.1.toNat p.2) = some ds := by
  induction ds with
  | nil => rfl
  | cons z r ih =>
    simp only [List.map_cons, daysL]
    have hz := h z (by simp)
    rw [day_back z.1 z.2 hz.1 hz.2.1 hz.2.2, ih (fun y hy => h y (by simp [hy]))]; rfl
theorem days_back (ds : List (Int × Int)) (h : ∀ p ∈ ds, 0 ≤ p.1 ∧ p.1 ≤ 6 ∧ In64 p.2) (h0 : ds ≠ []) : daysT (daysJ ds) = some ds := by
  unfold daysT daysJ
  rw [split_join 44 _ (by simpa using h0) (fun x hx => by obtain ⟨z, _, rfl⟩ := List.mem_map.1 hx; exact (dayStr_PL _ _).no comma_no)]
  exact daysL_map ds h
/-! #### frequencies -/
theorem freqT_L (j : Nat) (hj : j < 7) : freqT (freqL j) = some (j : Int) := by
  rcases freq_cases (freqL j) with ⟨k, hk, hl, hf⟩ | ⟨h, -⟩
  · rw [hf]
    have : ∀ a : Fin 7, ∀ b : Fin 7, freqL a.1 = freqL b.1 → a = b := by decide
    have := this ⟨j, hj⟩ ⟨k, hk⟩ hl
    rw [Fin.mk.injEq] at this
    rw [this]
  · have := h j hj
    simp at this
theorem freqL_PL (i : Nat) : PL (freqL i) := by
  match i with
  | 0 => exact fun c hc => by revert c; decide
  | 1 => exact fun c hc => by revert c; decide
  | 2 => exact fun c hc => by revert c; decide
  | 3 => exact fun c hc => by revert c; decide
  | 4 => exact fun c hc => by revert c; decide
  | 5 => exact fun c hc => by revert c; decide
  | (n + 6) => exact fun c (hc : c ∈ freqL 6) => by revert c; decide
theorem freqL_ne (i : Nat) : freqL i ≠ [] := by
  match i with
  | 0 => decide
  | 1 => decide
  | 2 => decide
  | 3 => decide
  | 4 => decide
  | 5 => decide
  | (n + 6) => show freqL 6 ≠ []; decide

/-! #### moments -/
theorem padL_spec (wd : Nat) (n : Int) (h0 : 0 ≤ n) : (padL wd n).all isD = true ∧ numFrom 0 (padL wd n) = n := by
  unfold padL Lib.itoa
  rw [if_neg (by omega)]
  obtain ⟨h1, h2, h3⟩ := dec_spec n.toNat
  refine ⟨by rw [List.all_append, h1, all_zeros]; rfl, ?_⟩
  rw [numFrom_app, numFrom_zeros, h2]; omega
theorem take_pad (wd : Nat) (n : Int) (r : List UInt8) (h0 : 0 ≤ n) (hl : (padL wd n).length = wd) : takeD wd (padL wd n ++ r) = some (n, r) := by
  unfold takeD
  have e : (padL wd n ++ r).take wd = padL wd n := by rw [List.take_append_of_le_length (by omega), List.take_of_length_le (by omega)]
  have e2 : (padL wd n ++ r).drop wd = r := by rw [List.drop_append, hl, List.drop_eq_nil_of_le (by omega)]; simp
  rw [e, e2, if_pos ⟨by rw [List.length_append]; omega, (padL_spec wd n h0).1⟩, (padL_spec wd n h0).2]
/-- The moment's text with what stands behind its seconds. -/
def stampZ (y m d hh mm ss : Int) (z : List UInt8) : List UInt8 := padL 4 y ++ (padL 2 m ++ (padL 2 d ++ (84 :: (padL 2 hh ++ (padL 2 mm ++ (padL 2 ss ++ z))))))
theorem stampL_Z (y m d hh mm ss : Int) : stampL y m d hh mm ss = stampZ y m d hh mm ss [90] := by
  unfold stampL stampZ; simp only [List.append_assoc, List.cons_append, List.nil_append]
theorem parse_stamp {s y m d hh mm ss : Int} (c : Civ s y m d hh mm ss) (hy : 0 ≤ y ∧ y ≤ 9999) (z : List UInt8) (hz : frac z = (0, z)) : parseT (some z) (stampZ y m d hh mm ss z) = some (s, 0) := by
  have c1 := c.m0; have c2 := c.m1; have c3 := c.d0; have c4 := c.d1; have c5 := mdays_bd m y; have c6 := c.h0; have c7 := c.h1; have c8 := c.n0; have c9 := c.n1; have c10 := c.s0; have c11 := c.s1
  have hs := c.sec
  have hd := c.day
  unfold parseT stampZ
  rw [take_pad 4 y _ hy.1 (padL_len4 y hy.1 hy.2)]
  simp only
  rw [take_pad 2 m _ (by omega) (padL_len2 m (by omega) (by omega))]
  simp only
  rw [if_neg (by omega), take_pad 2 d _ (by omega) (padL_len2 d (by omega) (by omega))]
  simp only
  rw [if_neg (by decide), take_pad 2 hh _ (by omega) (padL_len2 hh (by omega) (by omega))]
  simp only
  rw [if_neg (by omega), take_pad 2 mm _ (by omega) (padL_len2 mm (by omega) (by omega))]
  simp only
  rw [if_neg (by omega), take_pad 2 ss _ (by omega) (padL_len2 ss (by omega) (by omega))]
  simp only
  rw [if_neg (by omega), hz]
  simp only
  rw [parseTail_some (by simp) (by omega) (by omega)]
  congr 2
  omega
theorem stampZ_len {y m d hh mm ss : Int} {s : Int} (c : Civ s y m d hh mm ss) (hy : 0 ≤ y ∧ y ≤ 9999) (z : List UInt8) : (stampZ y m d hh mm ss z).length = 15 + z.length := by
  have c1 := c.m0; have c2 := c.m1; have c3 := c.d0; have c4 := c.d1; have c5 := mdays_bd m y; have c6 := c.h0; have c7 := c.h1; have c8 := c.n0; have c9 := c.n1; have c10 := c.s0; have c11 := c.s1
  unfold stampZ
  simp only [List.length_append, List.length_cons, padL_len4 y hy.1 hy.2, padL_len2 m (by omega) (by omega), padL_len2 d (by omega) (by omega), padL_len2 hh (by omega) (by omega), padL_len2 mm (by omega) (by omega), padL_len2 ss (by omega) (by omega)]
  omega
theorem frac_Z : frac [90] = (0, [90]) := rfl
/-- A moment as it is written is read back. -/
theorem time_back (s : Int) (h : InTime s) : timeT (stampS s) = some (s, 0) := by
  have hl := stampS_len s h
  unfold timeT
  rw [if_neg (by omega), if_neg (by omega)]
  unfold stampS
  rw [stampL_Z]
  exact parse_stamp (civ_of s h) (yearS_in s h) [90] frac_Z
theorem stampS_Z (s : Int) : stampS s = stampZ (yearS s) (monS s) (dayS s) (s % 86400 / 3600) (s % 86400 / 60 % 60) (s % 86400 % 60) [] ++ [90] := by
  unfold stampS stampL stampZ; simp only [List.append_assoc, List.cons_append, List.nil_append, List.append_nil]
/-- So it is without its Z. -/
theorem time_bare (s : Int) (h : InTime s) : timeT ((stampS s).take 15) = some (s, 0) := by
  have hl := stampZ_len (civ_of s h) (yearS_in s h) []
  rw [List.length_nil, Nat.add_zero] at hl
  rw [stampS_Z, List.take_append_of_le_length (by omega), List.take_of_length_le (by omega)]
  unfold timeT
  rw [if_neg (by omega), if_pos hl]
  exact parse_stamp (civ_of s h) (yearS_in s h) [] frac_nil
/-- And its date alone, where this is all. -/
theorem time_date (s : Int) (h : InTime s) (h0 : s % 86400 = 0) : timeT ((stampS s).take 8) = some (s, 0) := by
  have c := civ_of s h
  have hy := yearS_in s h
  have c1 := c.m0; have c2 := c.m1; have c3 := c.d0; have c4 := c.d1; have c5 := mdays_bd (monS s) (yearS s)
  have hd := c.day
  have l4 := padL_len4 (yearS s) hy.1 hy.2
  have lm := padL_len2 (monS s) (by omega) (by omega)
  have ld := padL_len2 (dayS s) (by omega) (by omega)
  have e : (stampS s).take 8 = padL 4 (yearS s) ++ (padL 2 (monS s) ++ (padL 2 (dayS s) ++ [])) := by
    rw [stampS_Z]
    unfold stampZ
    have : ∀ (a b c r : List UInt8), a.length = 4 → b.length = 2 → c.length = 2 → ((a ++ (b ++ (c ++ r)))).take 8 = a ++ (b ++ (c ++ [])) := fun a b c r ha hb hc => by
      rw [List.append_nil, ← List.append_assoc, ← List.append_assoc, ← List.append_assoc, List.take_append_of_le_length (by simp; omega), List.take_of_length_le (by simp; omega)]
    rw [List.append_assoc, List.append_assoc, List.append_assoc]
    exact this _ _ _ _ l4 lm ld
  rw [e]
  unfold timeT
  rw [if_pos (by simp only [List.length_append, List.length_nil]; omega)]
  unfold parseT
  rw [take_pad 4 _ _ hy.1 l4]
  simp only
  rw [take_pad 2 _ _ (by omega) lm]
  simp only
  rw [if_neg (by omega), take_pad 2 _ _ (by omega) ld]
  simp only
  rw [show (([] : List UInt8) == []) = true from rfl, parseTail_some rfl (by omega) (by omega)]
  congr 2
  omega
theorem padL_PL (wd : Nat) (n : Int) (h0 : 0 ≤ n) : PL (padL wd n) := PL.of_dig (padL_spec wd n h0).1
theorem stampS_PL (s : Int) (h : InTime s) : PL (stampS s) := by
  have c := civ_of s h
  have hy := yearS_in s h
  have c1 := c.m0; have c3 := c.d0; have c6 := c.h0; have c8 := c.n0; have c10 := c.s0
  unfold stampS stampL
  exact (((((((padL_PL _ _ hy.1).app (padL_PL _ _ (by omega))).app (padL_PL _ _ (by omega))).app (PL.cons (by decide) PL.nil)).app (padL_PL _ _ c6)).app (padL_PL _ _ c8)).app (padL_PL _ _ c10)).app (PL.cons (by decide) PL.nil)
theorem stampS_ne (s : Int) (h : InTime s) : stampS s ≠ [] := fun e => by have := stampS_len s h; rw [e] at this; cases this
end Go.Proofs.YtcfbkkcamiephaaGreatDoor
namespace Go.Proofs.YtcfbkkcamiephaaGreatDoor
open Go.RowKit

/-! ### the parts of a rule's text, in any order -/
/-- the field i of one option, laid over that of another one -/
def setF (i : Nat) (s d : Opt) : Opt :=
  ⟨if i = 0 then s.fq else d.fq, if i = 1 then s.st else d.st, if i = 2 then s.iv else d.iv, if i = 3 then s.wk else d.wk, if i = 4 then s.ct else d.ct, if i = 5 then s.un else d.un, if i = 6 then s.sp else d.sp, if i = 7 then s.mo else d.mo, if i = 8 then s.md else d.md, if i = 9 then s.yd else d.yd, if i = 10 then s.wn else d.wn, if i = 11 then s.dy else d.dy, if i = 12 then s.ho else d.ho, if i = 13 then s.mi else d.mi, if i = 14 then s.se else d.se, if i = 15 then s.ea else d.ea⟩
def pick (L : List Nat) (s d : Opt) : Opt :=
  ⟨if 0 ∈ L then s.fq else d.fq, if 1 ∈ L then s.st else d.st, if 2 ∈ L then s.iv else d.iv, if 3 ∈ L then s.wk else d.wk, if 4 ∈ L then s.ct else d.ct, if 5 ∈ L then s.un else d.un, if 6 ∈ L then s.sp else d.sp, if 7 ∈ L then s.mo else d.mo, if 8 ∈ L then s.md else d.md, if 9 ∈ L then s.yd else d.yd, if 10 ∈ L then s.wn else d.wn, if 11 ∈ L then s.dy else d.dy, if 12 ∈ L then s.ho else d.ho, if 13 ∈ L then s.mi else d.mi, if 14 ∈ L then s.se else d.se, if 15 ∈ L then s.ea else d.ea⟩
theorem ite_cons {α : Type} (k i : Nat) (L : List Nat) (a b : α) : (if k ∈ i :: L then a else b) = if k ∈ L then a else if i = k then a else b := by
  by_cases h1 : k ∈ L
  · rw [if_pos h1, if_pos (List.mem_cons_of_mem _ h1)]
  · rw [if_neg h1]
    by_cases h2 : i = k
    · rw [if_pos h2, if_pos (by rw [h2]; exact List.mem_cons_self)]
    · rw [if_neg h2, if_neg (fun h => by rcases List.mem_cons.1 h with h | h; exact h2 h.symm; exact h1 h)]
theorem pick_cons (i : Nat) (L : List Nat) (s d : Opt) : pick (i :: L) s d = pick L s (setF i s d) := by
  unfold pick setF
  simp only [ite_cons]
theorem pick_nil (s d : Opt) : pick [] s d = d := by simp [pick]
/-- A value that is read as the field i of an option. -/
def Val (i : Nat) (v : List UInt8) (s : Opt) : Prop := ∀ d, partI i v d = some (setF i s d)
/-- A part's text. -/
def pTx (k v : List UInt8) : List UInt8 := k ++ [61] ++ v
/-- A value of plain signs and commas, not empty. -/
structure VOk (v : List UInt8) : Prop where
  ne : v ≠ []
  pl : ∀ c ∈ v, plainB c = true ∨ c = 44
theorem VOk.no {v : List UInt8} (h : VOk v) {x : UInt8} (hx : plainB x = false) (h44 : x ≠ 44) : x ∉ v := fun hc => by
  rcases h.pl x hc with h | h
  · rw [hx] at h; cases h
  · exact h44 h
theorem VOk.of {v : List UInt8} (h : PL v) (h0 : v ≠ []) : VOk v := ⟨h0, fun c hc => .inl (h c hc)⟩
theorem VOk.join {L : List (List UInt8)} (h : ∀ x ∈ L, PL x) (hn : ∀ x ∈ L, x ≠ []) (h0 : L ≠ []) : VOk (Lib.join L [44]) :=
  ⟨join_ne h0 hn, fun c hc => by
    rcases join_mem hc with h1 | ⟨x, hx, h1⟩
    · exact .inr h1
    · exact .inl (h x hx c h1)⟩
theorem keyNm_PL (i : Nat) : PL (keyNm i) := by
  match i with
  | 0 => exact fun c hc => by revert c; decide
  | 1 => exact fun c hc => by revert c; decide
  | 2 => exact fun c hc => by revert c; decide
  | 3 => exact fun c hc => by revert c; decide
  | 4 => exact fun c hc => by revert c; decide
  | 5 => exact fun c hc => by revert c; decide
  | 6 => exact fun c hc => by revert c; decide
  | 7 => exact fun c hc => by revert c; decide
  | 8 => exact fun c hc => by revert c; decide
  | 9 => exact fun c hc => by revert c; decide
  | 10 => exact fun c hc => by revert c; decide
  | 11 => exact fun c hc => by revert c; decide
  | 12 => exact fun c hc => by revert c; decide
  | 13 => exact fun c hc => by revert c; decide
  | 14 => exact fun c hc => by revert c; decide
  | (n + 15) => exact fun c (hc : c ∈ keyNm 15) => by revert c; decide
theorem keyI_nm (i : Nat) (h : i < 16) : keyI (keyNm i) = i := by
  rcases (show i = 0 ∨ i = 1 ∨ i = 2 ∨ i = 3 ∨ i = 4 ∨ i = 5 ∨ i = 6 ∨ i = 7 ∨ i = 8 ∨ i = 9 ∨ i = 10 ∨ i = 11 ∨ i = 12 ∨ i = 13 ∨ i = 14 ∨ i = 15 by omega) with rfl | rfl | rfl | rfl | rfl | rfl | rfl | rfl | rfl | rfl | rfl | rfl | rfl | rfl | rfl | rfl <;> decide +kernel
theorem split_pTx (k v : List UInt8) (hk : PL k) (hv : VOk v) : splitL 61 (pTx k v) = [k, v] := by
  unfold pTx
  rw [List.append_assoc, List.singleton_append, split_app 61 k v (hk.no (by decide)), split_no 61 v (hv.no (by decide) (by decide))]
theorem part_back (i : Nat) (v : List UInt8) (s d : Opt) (b : Bool) (hi : i < 16) (hv : VOk v) (h : Val i v s) : partT (pTx (keyNm i) v) (d, b) = some (setF i s d, b || i == 0) := by
  unfold partT
  rw [split_pTx _ _ (keyNm_PL i) hv]
  simp only
  rw [if_neg hv.ne, keyI_nm i hi, h d]
  rfl
/-- the value of each part -/
def valL (o : Opt) : Nat → List UInt8
  | 0 => freqL o.fq.toNat
  | 1 => stampS o.st.1
  | 2 => Lib.itoa o.iv
  | 3 => dayStr o.wk.1.toNat o.wk.2
  | 4 => Lib.itoa o.ct
  | 5 => stampS o.un.1
  | 6 => intsJ o.sp
  | 7 => intsJ o.mo
  | 8 => intsJ o.md
  | 9 => intsJ o.yd
  | 10 => intsJ o.wn
  | 11 => daysJ o.dy
  | 12 => intsJ o.ho
  | 13 => intsJ o.mi
  | 14 => intsJ o.se
  | _ => intsJ o.ea
/-- is it written? -/
def presB (o : Opt) : Nat → Bool
  | 0 => true
  | 1 => !isZ o.st
  | 2 => o.iv != 0
  | 3 => !(o.wk.1 == 0 && o.wk.2 == 0)
  | 4 => o.ct != 0
  | 5 => !isZ o.un
  | 6 => !o.sp.isEmpty
  | 7 => !o.mo.isEmpty
  | 8 => !o.md.isEmpty
  | 9 => !o.yd.isEmpty
  | 10 => !o.wn.isEmpty
  | 11 => !o.dy.isEmpty
  | 12 => !o.ho.isEmpty
  | 13 => !o.mi.isEmpty
  | 14 => !o.se.isEmpty
  | 15 => !o.ea.isEmpty
  | _ => false
def txt (o : Opt) (i : Nat) : List UInt8 := pTx (keyNm i) (valL o i)
def ord : List Nat := [0, 2, 3, 4, 5, 6, 7, 8, 9, 10, 11, 12, 13, 14, 15]
/-- the parts that are written, by their numbers -/
def idxs (o : Opt) : List Nat := ord.filter (presB o)
theorem pres_lt {o : Opt} {i : Nat} (h : presB o i = true) : i < 16 := by
  match i with
  | 0 | 1 | 2 | 3 | 4 | 5 | 6 | 7 | 8 | 9 | 10 | 11 | 12 | 13 | 14 | 15 => omega
  | (n + 16) => cases h
theorem filt_cons {α β : Type} (p : α → Bool) (f : α → β) (a : α) (l : List α) : ((a :: l).filter p).map f = (if p a = true then [f a] else []) ++ (l.filter p).map f := by
  rw [List.filter_cons]; split <;> rfl
theorem ints_chunk (o : Opt) (i : Nat) (zs : List Int) (hp : presB o i = !zs.isEmpty) (hv : valL o i = intsJ zs) : (if presB o i = true then [txt o i] else []) = intsP (keyNm i) zs := by
  rw [hp]
  unfold txt intsP pTx
  rw [hv]
  cases zs <;> simp
theorem partsP_idxs (o : Opt) : partsP o = (idxs o).map (txt o) := by
  have e1 : (if presB o 2 = true then [txt o 2] else []) = p1 o := by
    unfold p1; by_cases h : o.iv = 0
    · rw [if_pos h, if_neg (by simp [presB, h])]
    · rw [if_neg h, if_pos (by simp [presB, h])]; rfl
  have e2 : (if presB o 3 = true then [txt o 3] else []) = p2 o := by
    unfold p2; by_cases h : o.wk.1 = 0 ∧ o.wk.2 = 0
    · rw [if_pos h, if_neg (by simp [presB, h.1, h.2])]
    · rw [if_neg h, if_pos (by simp [presB]; omega)]; rfl
  have e3 : (if presB o 4 = true then [txt o 4] else []) = p3 o := by
    unfold p3; by_cases h : o.ct = 0
    · rw [if_pos h, if_neg (by simp [presB, h])]
    · rw [if_neg h, if_pos (by simp [presB, h])]; rfl
  have e4 : (if presB o 5 = true then [txt o 5] else []) = p4 o := by
    unfold p4; cases h : isZ o.un
    · rw [if_pos (by simp [presB, h]), if_neg (by simp)]; rfl
    · rw [if_neg (by simp [presB, h]), if_pos rfl]
  have e10 : (if presB o 11 = true then [txt o 11] else []) = p10 o := by
    unfold p10; by_cases h : o.dy = []
    · rw [if_pos h, if_neg (by simp [presB, h])]
    · rw [if_neg h, if_pos (by simp [presB, h])]; rfl
  unfold idxs ord
  simp only [filt_cons]
  rw [e1, e2, e3, e4, e10, ints_chunk o 6 o.sp rfl rfl, ints_chunk o 7 o.mo rfl rfl, ints_chunk o 8 o.md rfl rfl, ints_chunk o 9 o.yd rfl rfl, ints_chunk o 10 o.wn rfl rfl, ints_chunk o 12 o.ho rfl rfl, ints_chunk o 13 o.mi rfl rfl, ints_chunk o 14 o.se rfl rfl, ints_chunk o 15 o.ea rfl rfl]
  simp only [List.filter_nil, List.map_nil, List.append_nil, List.append_assoc, partsP]
  rfl
structure OptN (o : Opt) : Prop where
  ok : OptOk o
  st0 : o.st.2 = 0
  un0 : o.un.2 = 0
theorem ints_vok (zs : List Int) (h0 : zs ≠ []) : VOk (intsJ zs) := by
  refine VOk.join (fun x hx => ?_) (fun x hx => ?_) (by simpa using h0)
  · obtain ⟨z, _, rfl⟩ := List.mem_map.1 hx; exact itoa_PL z
  · obtain ⟨z, _, rfl⟩ := List.mem_map.1 hx; exact itoa_ne z
theorem days_vok (ds : List (Int × Int)) (h0 : ds ≠ []) : VOk (daysJ ds) := by
  refine VOk.join (fun x hx => ?_) (fun x hx => ?_) (by simpa using h0)
  · obtain ⟨z, _, rfl⟩ := List.mem_map.1 hx; exact dayStr_PL _ _
  · obtain ⟨z, _, rfl⟩ := List.mem_map.1 hx; exact dayStr_ne _ _
theorem val_ok (o : Opt) (i : Nat) (h : OptN o) (hp : presB o i = true) : VOk (valL o i) := by
  match i with
  | 0 => exact VOk.of (freqL_PL _) (freqL_ne _)
  | 1 => exact VOk.of (stampS_PL _ h.ok.st) (stampS_ne _ h.ok.st)
  | 2 => exact VOk.of (itoa_PL _) (itoa_ne _)
  | 3 => exact VOk.of (dayStr_PL _ _) (dayStr_ne _ _)
  | 4 => exact VOk.of (itoa_PL _) (itoa_ne _)
  | 5 => exact VOk.of (stampS_PL _ h.ok.un) (stampS_ne _ h.ok.un)
  | 6 => exact ints_vok _ (by simpa [presB] using hp)
  | 7 => exact ints_vok _ (by simpa [presB] using hp)
  | 8 => exact ints_vok _ (by simpa [presB] using hp)
  | 9 => exact ints_vok _ (by simpa [presB] using hp)
  | 10 => exact ints_vok _ (by simpa [presB] using hp)
  | 11 => exact days_vok _ (by simpa [presB] using hp)
  | 12 => exact ints_vok _ (by simpa [presB] using hp)
  | 13 => exact ints_vok _ (by simpa [presB] using hp)
  | 14 => exact ints_vok _ (by simpa [presB] using hp)
  | 15 => exact ints_vok _ (by simpa [presB] using hp)
  | (n + 16) => cases hp
theorem val_back (o : Opt) (i : Nat) (h : OptN o) (hp : presB o i = true) : Val i (valL o i) o := by
  have hk := h.ok
  have ne : ∀ zs : List Int, (!zs.isEmpty) = true → zs ≠ [] := fun zs hz => by simpa using hz
  match i with
  | 0 =>
    intro d; unfold partI setF valL
    simp only
    rw [freqT_L _ (by have := hk.fq; omega)]
    simp [Int.toNat_of_nonneg hk.fq.1]
  | 1 =>
    intro d; unfold partI setF valL
    simp only
    rw [time_back _ hk.st]
    have := h.st0
    simp [← this]
  | 2 => intro d; unfold partI setF valL; simp only; rw [atoi_itoa _ hk.iv]; simp
  | 3 => intro d; unfold partI setF valL; simp only; rw [day_back _ _ hk.wk.1 hk.wk.2.1 hk.wk.2.2]; simp
  | 4 => intro d; unfold partI setF valL; simp only; rw [atoi_itoa _ hk.ct]; simp
  | 5 =>
    intro d; unfold partI setF valL
    simp only
    rw [time_back _ hk.un]
    have := h.un0
    simp [← this]
  | 6 => intro d; unfold partI setF valL; simp only; rw [ints_back _ hk.sp.rng (ne _ hp)]; simp
  | 7 => intro d; unfold partI setF valL; simp only; rw [ints_back _ hk.mo.rng (ne _ hp)]; simp
  | 8 => intro d; unfold partI setF valL; simp only; rw [ints_back _ hk.md.rng (ne _ hp)]; simp
  | 9 => intro d; unfold partI setF valL; simp only; rw [ints_back _ hk.yd.rng (ne _ hp)]; simp
  | 10 => intro d; unfold partI setF valL; simp only; rw [ints_back _ hk.wn.rng (ne _ hp)]; simp
  | 11 => intro d; unfold partI setF valL; simp only; rw [days_back _ hk.dy.rng (by simpa [presB] using hp)]; simp
  | 12 => intro d; unfold partI setF valL; simp only; rw [ints_back _ hk.ho.rng (ne _ hp)]; simp
  | 13 => intro d; unfold partI setF valL; simp only; rw [ints_back _ hk.mi.rng (ne _ hp)]; simp
  | 14 => intro d; unfold partI setF valL; simp only; rw [ints_back _ hk.se.rng (ne _ hp)]; simp
  | 15 => intro d; unfold partI setF valL; simp only; rw [ints_back _ hk.ea.rng (ne _ hp)]; simp
  | (n + 16) => cases hp
/-- Parts of an option, in any order and as often as you like: its fields are laid over what was there. -/
theorem parts_back (o : Opt) (h : OptN o) (L : List Nat) (hL : ∀ i ∈ L, presB o i = true) (d : Opt) (b : Bool) :
    partsL (L.map (txt o)) (d, b) = some (pick L o d, b || L.contains 0) := by
  induction L generalizing d b with
  | nil => rw [pick_nil]; simp [partsL]
  | cons i r ih =>
    simp only [List.map_cons, partsL]
    rw [show txt o i = pTx (keyNm i) (valL o i) from rfl, part_back i _ o d b (pres_lt (hL i (by simp))) (val_ok o i h (hL i (by simp))) (val_back o i h (hL i (by simp)))]
    simp only
    rw [ih (fun j hj => hL j (by simp [hj])), pick_cons, List.contains_cons, show ((0 : Nat) == i) = (i == 0) by rw [Bool.eq_iff_iff, beq_iff_eq, beq_iff_eq]; exact eq_comm, Bool.or_assoc]
theorem partsL_app (A B : List (List UInt8)) (s : Opt × Bool) : partsL (A ++ B) s = (partsL A s).bind (partsL B) := by
  induction A generalizing s with
  | nil => rfl
  | cons p r ih =>
    simp only [List.cons_append, partsL]
    cases partT p s with
    | none => rfl
    | some s' => exact ih s'
/-- All parts that are written: the option comes back. -/
theorem pick_all (o : Opt) (L : List Nat) (s : Int × Int) (h : ∀ i, i < 16 → i ≠ 1 → presB o i = true → i ∈ L) :
    pick L o { Opt.zero with st := s } = { o with st := if 1 ∈ L then o.st else s } := by
  have key : ∀ {α : Type} (i : Nat) (a z : α), i < 16 → i ≠ 1 → (presB o i = false → a = z) → (if i ∈ L then a else z) = a := fun i a z h1 h2 h3 => by
    by_cases hm : i ∈ L
    · rw [if_pos hm]
    · rw [if_neg hm]
      cases hp : presB o i with
      | false => exact (h3 hp).symm
      | true => exact absurd (h i h1 h2 hp) hm
  have ke : ∀ {α : Type} (zs : List α), (!zs.isEmpty) = false → zs = [] := fun zs hz => by simpa using hz
  unfold pick Opt.zero
  simp only
  rw [key 0 o.fq 0 (by omega) (by omega) (fun hp => by cases hp), key 2 o.iv 0 (by omega) (by omega) (fun hp => by simpa [presB] using hp),
    key 3 o.wk (0, 0) (by omega) (by omega) (fun hp => by simp [presB] at hp; exact Prod.ext hp.1 hp.2), key 4 o.ct 0 (by omega) (by omega) (fun hp => by simpa [presB] using hp),
    key 5 o.un (0, 0) (by omega) (by omega) (fun hp => by simp [presB, isZ] at hp; exact Prod.ext hp.1 hp.2), key 6 o.sp [] (by omega) (by omega) (fun hp => ke _ hp),
    key 7 o.mo [] (by omega) (by omega) (fun hp => ke _ hp), key 8 o.md [] (by omega) (by omega) (fun hp => ke _ hp), key 9 o.yd [] (by omega) (by omega) (fun hp => ke _ hp),
    key 10 o.wn [] (by omega) (by omega) (fun hp => ke _ hp), key 11 o.dy [] (by omega) (by omega) (fun hp => ke _ hp), key 12 o.ho [] (by omega) (by omega) (fun hp => ke _ hp),
    key 13 o.mi [] (by omega) (by omega) (fun hp => ke _ hp), key 14 o.se [] (by omega) (by omega) (fun hp => ke _ hp), key 15 o.ea [] (by omega) (by omega) (fun hp => ke _ hp)]
theorem mem_idxs (o : Opt) (i : Nat) : i ∈ idxs o ↔ (i < 16 ∧ i ≠ 1) ∧ presB o i = true := by
  unfold idxs
  rw [List.mem_filter]
  refine and_congr_left fun _ => ?_
  simp [ord]; omega
end Go.Proofs.YtcfbkkcamiephaaGreatDoor
namespace Go.Proofs.YtcfbkkcamiephaaGreatDoor
open Go.RowKit

/-! ### whole texts, read back -/
/-- the signs of a rule's text: plain ones, ',' ';' '=' -/
def textB (c : UInt8) : Bool := plainB c || c == 44 || c == 59 || c == 61
theorem textB_of {c : UInt8} (h : textB c = true) : c ≠ 58 ∧ c ≠ 10 ∧ c.toNat < 128 ∧ Lib.isSp c = false := by
  simp only [textB, Bool.or_eq_true, beq_iff_eq] at h
  rcases h with ((h | rfl) | rfl) | rfl
  · have := plain_ne h; exact ⟨this.2.2.2.1, this.2.2.2.2.1, this.2.2.2.2.2.1, this.2.2.2.2.2.2.1⟩
  · decide
  · decide
  · decide
def TX (l : List UInt8) : Prop := ∀ c ∈ l, textB c = true
theorem TX.no {l : List UInt8} (h : TX l) {x : UInt8} (hx : textB x = false) : x ∉ l := fun hc => by rw [h x hc] at hx; cases hx
theorem TX.of {v : List UInt8} (h : VOk v) : TX v := fun c hc => by
  rcases h.pl c hc with h | rfl
  · simp [textB, h]
  · decide
theorem TX.pl {v : List UInt8} (h : PL v) : TX v := fun c hc => by simp [textB, h c hc]
theorem TX.app {a b : List UInt8} (h : TX a) (k : TX b) : TX (a ++ b) := fun c hc => by
  rcases List.mem_append.1 hc with hc | hc
  · exact h c hc
  · exact k c hc
theorem TX.tx {k v : List UInt8} (hk : TX k) (hv : TX v) : TX (pTx k v) := (hk.app (fun c hc => by rw [List.mem_singleton] at hc; subst hc; decide)).app hv
theorem TX.join {L : List (List UInt8)} (h : ∀ x ∈ L, TX x) : TX (Lib.join L [59]) := fun c hc => by
  rcases join_mem hc with rfl | ⟨x, hx, h1⟩
  · decide
  · exact h x hx c h1
theorem txt_TX (o : Opt) (h : OptN o) (i : Nat) (hp : presB o i = true) : TX (txt o i) := (TX.pl (keyNm_PL i)).tx (TX.of (val_ok o i h hp))
theorem pTx_no {k v : List UInt8} (hk : PL k) (hv : VOk v) : (59 : UInt8) ∉ pTx k v := fun hc => by
  unfold pTx at hc
  rcases List.mem_append.1 hc with hc | hc
  · rcases List.mem_append.1 hc with hc | hc
    · exact hk.no (by decide) hc
    · rw [List.mem_singleton] at hc; exact absurd hc (by decide)
  · exact hv.no (by decide) (by decide) hc
theorem txt_no (o : Opt) (h : OptN o) (i : Nat) (hp : presB o i = true) : (59 : UInt8) ∉ txt o i := pTx_no (keyNm_PL i) (val_ok o i h hp)
/-- nothing to trim -/
theorem trimS_id {l : List UInt8} (h : ∀ c ∈ l, Lib.isSp c = false) : trimS l = l := by
  have key : ∀ l : List UInt8, (∀ c ∈ l, Lib.isSp c = false) → l.dropWhile Lib.isSp = l := fun l h => by
    cases l with
    | nil => rfl
    | cons x t => rw [List.dropWhile_cons_of_neg (by simp [h x (by simp)])]
  unfold trimS
  rw [key l h, key _ (fun c hc => h c (List.mem_reverse.1 hc)), List.reverse_reverse]
/-- blanks around what begins and ends otherwise -/
theorem trimS_blanks {a b l : List UInt8} (ha : ∀ c ∈ a, Lib.isSp c = true) (hb : ∀ c ∈ b, Lib.isSp c = true) {x y : UInt8} {m n : List UInt8} (hl : l = x :: m) (hr : l = n ++ [y]) (hx : Lib.isSp x = false) (hy : Lib.isSp y = false) :
    trimS (a ++ l ++ b) = l := by
  have key : ∀ a r : List UInt8, (∀ c ∈ a, Lib.isSp c = true) → (a ++ r).dropWhile Lib.isSp = r.dropWhile Lib.isSp := fun a r h => by
    induction a with
    | nil => rfl
    | cons z t ih => rw [List.cons_append, List.dropWhile_cons_of_pos (by simp [h z (by simp)]), ih (fun c hc => h c (by simp [hc]))]
  unfold trimS
  rw [List.append_assoc, key a _ ha]
  rw [show (l ++ b).dropWhile Lib.isSp = l ++ b by rw [hl, List.cons_append, List.dropWhile_cons_of_neg (by simp [hx])]]
  rw [List.reverse_append, key b.reverse _ (fun c hc => hb c (List.mem_reverse.1 hc))]
  rw [show l.reverse.dropWhile Lib.isSp = l.reverse by rw [hr, List.reverse_append]; simp [hy]]
  exact List.reverse_reverse l
theorem asc_of {l : List UInt8} (h : ∀ c ∈ l, c.toNat < 128) : ascL l = true := by
  unfold ascL; rw [List.all_eq_true]; intro c hc; simpa using h c hc
theorem noPrefix {a : List UInt8} (h : (58 : UInt8) ∉ a) : Lib.trimPrefix a rrule = a := by
  unfold Lib.trimPrefix
  rw [if_neg]
  intro hp
  unfold Lib.hasPrefix at hp
  have hp := List.isPrefixOf_iff_prefix.1 hp
  exact h (hp.subset (by decide))
theorem isPrefix (a : List UInt8) : Lib.trimPrefix (rrule ++ a) rrule = a := by
  unfold Lib.trimPrefix
  rw [if_pos]
  · exact List.drop_left ..
  · unfold Lib.hasPrefix; exact List.isPrefixOf_iff_prefix.2 (List.prefix_append _ _)
/-- What the reader makes of the last line. -/
def ruleT (a : List UInt8) (s : Int × Int) : Option Opt := partsR (Lib.trimPrefix a rrule) s
theorem optT_one {a : List UInt8} (ha : ascL a = true) (ht : trimS a = a) (h10 : (10 : UInt8) ∉ a) : optT a = ruleT a (0, 0) := by
  unfold optT optU linesT
  rw [trim_asc a ha, ht, split_no 10 a h10]
  rfl
theorem optT_two {d a : List UInt8} {s : Int × Int} (ha : ascL (d ++ 10 :: a) = true) (ht : trimS (d ++ 10 :: a) = d ++ 10 :: a) (hd : (10 : UInt8) ∉ d) (h10 : (10 : UInt8) ∉ a) (h0 : d ≠ []) (hn : lineName d = true) (hs : startT (d.drop 8) = some s) :
    optT (d ++ 10 :: a) = ruleT a s := by
  unfold optT optU linesT
  rw [trim_asc _ ha, ht, split_app 10 d a hd, split_no 10 a h10]
  simp only [restT, lineT]
  rw [if_neg h0, if_pos hn, hs]
  rfl
/-- Texts whose trimmed form is another one are read alike. -/
theorem optT_trim {l t : List UInt8} (ha : ascL l = true) (ht : trimS l = t) (hat : ascL t = true) (htt : trimS t = t) : optT l = optT t := by
  unfold optT; rw [trim_asc l ha, trim_asc t hat, ht, htt]
def joinT (o : Opt) (L : List Nat) : List UInt8 := Lib.join (L.map (txt o)) [59]
theorem joinT_TX (o : Opt) (h : OptN o) (L : List Nat) (hL : ∀ i ∈ L, presB o i = true) : TX (joinT o L) :=
  TX.join (fun x hx => by obtain ⟨i, hi, rfl⟩ := List.mem_map.1 hx; exact txt_TX o h i (hL i hi))
theorem rrL_joinT (o : Opt) : rrL o = joinT o (idxs o) := by unfold rrL joinT; rw [partsP_idxs]
theorem partsR_joinT (o : Opt) (h : OptN o) (L : List Nat) (hL : ∀ i ∈ L, presB o i = true) (h0 : 0 ∈ L) (s : Int × Int) :
    partsR (joinT o L) s = some (pick L o { Opt.zero with st := s }) := by
  unfold partsR joinT
  rw [split_join 59 _ (by intro e; rw [List.map_eq_nil_iff] at e; rw [e] at h0; cases h0) (fun x hx => by obtain ⟨i, hi, rfl⟩ := List.mem_map.1 hx; exact txt_no o h i (hL i hi)), parts_back o h L hL]
  simp [h0]
/-- The parts of an option in any order, all that are written, each as often as you like: the option comes back. -/
theorem rule_back (o : Opt) (h : OptN o) (L : List Nat) (hL : ∀ i ∈ L, presB o i = true) (hA : ∀ i, i < 16 → i ≠ 1 → presB o i = true → i ∈ L) (s : Int × Int) :
    ruleT (joinT o L) s = some { o with st := if 1 ∈ L then o.st else s } := by
  unfold ruleT
  rw [noPrefix ((joinT_TX o h L hL).no (by decide)), partsR_joinT o h L hL (hA 0 (by omega) (by omega) rfl), pick_all o L s hA]
/-- So behind RRULE:. -/
theorem rule_back2 (o : Opt) (h : OptN o) (L : List Nat) (hL : ∀ i ∈ L, presB o i = true) (hA : ∀ i, i < 16 → i ≠ 1 → presB o i = true → i ∈ L) (s : Int × Int) :
    ruleT (rrule ++ joinT o L) s = some { o with st := if 1 ∈ L then o.st else s } := by
  unfold ruleT
  rw [isPrefix, partsR_joinT o h L hL (hA 0 (by omega) (by omega) rfl), pick_all o L s hA]
theorem TX.sp {l : List UInt8} (h : TX l) : ∀ c ∈ l, Lib.isSp c = false := fun c hc => (textB_of (h c hc)).2.2.2
theorem TX.asc {l : List UInt8} (h : TX l) : ∀ c ∈ l, c.toNat < 128 := fun c hc => (textB_of (h c hc)).2.2.1
/-- A text of one line. -/
theorem one_back (o : Opt) (h : OptN o) (L : List Nat) (hL : ∀ i ∈ L, presB o i = true) (hA : ∀ i, i < 16 → i ≠ 1 → presB o i = true → i ∈ L) :
    optT (joinT o L) = some { o with st := if 1 ∈ L then o.st else (0, 0) } := by
  have hT := joinT_TX o h L hL
  rw [optT_one (asc_of hT.asc) (trimS_id hT.sp) (hT.no (by decide)), rule_back o h L hL hA]
theorem rr_sp : ∀ c ∈ rrule, Lib.isSp c = false := by decide
theorem rr_asc : ∀ c ∈ rrule, c.toNat < 128 := by decide
theorem all_app {P : UInt8 → Prop} {a b : List UInt8} (h : ∀ c ∈ a, P c) (k : ∀ c ∈ b, P c) : ∀ c ∈ a ++ b, P c := fun c hc => by
  rcases List.mem_append.1 hc with hc | hc
  · exact h c hc
  · exact k c hc
theorem one_back2 (o : Opt) (h : OptN o) (L : List Nat) (hL : ∀ i ∈ L, presB o i = true) (hA : ∀ i, i < 16 → i ≠ 1 → presB o i = true → i ∈ L) :
    optT (rrule ++ joinT o L) = some { o with st := if 1 ∈ L then o.st else (0, 0) } := by
  have hT := joinT_TX o h L hL
  rw [optT_one (asc_of (all_app rr_asc hT.asc)) (trimS_id (all_app rr_sp hT.sp)) (fun hc => by rcases List.mem_append.1 hc with hc | hc; exact absurd hc (by decide); exact hT.no (by decide) hc), rule_back2 o h L hL hA]
/-! #### the line of the start -/
/-- what may stand in a line of a start: its name, its sign, its moment -/
structure DLine (d : List UInt8) (s : Int × Int) : Prop where
  sp : ∀ c ∈ d, Lib.isSp c = false
  asc : ∀ c ∈ d, c.toNat < 128
  ne : d ≠ []
  nm : lineName d = true
  st : startT (d.drop 8) = some s
theorem DLine.n10 {d : List UInt8} {s : Int × Int} (h : DLine d s) : (10 : UInt8) ∉ d := fun hc => by have := h.sp _ hc; revert this; decide
theorem trimS_two {d a : List UInt8} (h : ∀ c ∈ d, Lib.isSp c = false) (h0 : d ≠ []) (k : ∀ c ∈ a, Lib.isSp c = false) (k0 : a ≠ []) : trimS (d ++ 10 :: a) = d ++ 10 :: a := by
  obtain ⟨x, m, hd⟩ := List.exists_cons_of_ne_nil h0
  have ha := List.dropLast_concat_getLast k0
  have := trimS_blanks (a := []) (b := []) (l := d ++ 10 :: a) (x := x) (y := a.getLast k0) (m := m ++ 10 :: a) (n := d ++ 10 :: a.dropLast) (fun c hc => by simp at hc) (fun c hc => by simp at hc) (by rw [hd]; rfl) (by rw [List.append_assoc, List.cons_append, ha])
    (h x (by rw [hd]; simp)) (k _ (List.getLast_mem k0))
  rw [List.nil_append, List.append_nil] at this
  exact this
/-- Two lines: the start's, and the rule's. -/
theorem two_back {d a : List UInt8} {s : Int × Int} (hd : DLine d s) (k : ∀ c ∈ a, Lib.isSp c = false) (ka : ∀ c ∈ a, c.toNat < 128) (k0 : a ≠ []) : optT (d ++ 10 :: a) = ruleT a s := by
  refine optT_two (asc_of (all_app hd.asc (fun c hc => ?_))) (trimS_two hd.sp hd.ne k k0) hd.n10 (fun hc => by have := k _ hc; revert this; decide) hd.ne hd.nm hd.st
  rcases List.mem_cons.1 hc with rfl | hc
  · decide
  · exact ka c hc
def dtK : List UInt8 := [68, 84, 83, 84, 65, 82, 84]
/-- A line that begins with seven signs that are DTSTART in capital letters, and a ':' or a ';'. -/
theorem lineName_of {n : List UInt8} {q : UInt8} {r : List UInt8} (hn : n.map upC = dtK) (hq : q = 58 ∨ q = 59) (hs : ∀ c ∈ n ++ q :: r, Lib.isSp c = false) (ha : ∀ c ∈ n ++ q :: r, c.toNat < 128) : lineName (n ++ q :: r) = true := by
  rw [lineName_asc _ (asc_of ha), trimS_id hs, List.map_append, hn, List.map_cons]
  have hq2 : upC q = q := by rcases hq with rfl | rfl <;> rfl
  rw [hq2]
  generalize r.map upC = R
  have e : idxA [59, 58] (dtK ++ q :: R) = 7 := by
    rcases hq with rfl | rfl <;> simp [dtK, idxA]
  unfold nmS
  rw [e, if_pos (by simp [dtK])]
  have e2 : (dtK ++ q :: R).take 7 = dtK := by simp [dtK]
  rw [e2]
  decide
theorem startT_stamp {l : List UInt8} (h : PL l) : startT l = timeT l := by
  unfold startT; rw [split_no 58 l (h.no (by decide))]
theorem startT_utc {l : List UInt8} (h : PL l) : startT ([84, 90, 73, 68, 61, 85, 84, 67] ++ 58 :: l) = timeT l := by
  unfold startT; rw [split_app 58 _ l (by decide), split_no 58 l (h.no (by decide))]
  rfl
theorem PL.sp {l : List UInt8} (h : PL l) : ∀ c ∈ l, Lib.isSp c = false := fun c hc => (plain_ne (h c hc)).2.2.2.2.2.2.1
theorem PL.asc {l : List UInt8} (h : PL l) : ∀ c ∈ l, c.toNat < 128 := fun c hc => (plain_ne (h c hc)).2.2.2.2.2.1
/-- 'DTSTART:' in letters of any kind, and a moment. -/
theorem dline {n l : List UInt8} {s : Int × Int} (hn : n.map upC = dtK) (hs : ∀ c ∈ n, Lib.isSp c = false) (ha : ∀ c ∈ n, c.toNat < 128) (hl : PL l) (ht : timeT l = some s) : DLine (n ++ 58 :: l) s := by
  have h1 : ∀ c ∈ n ++ 58 :: l, Lib.isSp c = false := all_app hs (fun c hc => by rcases List.mem_cons.1 hc with rfl | hc; decide; exact hl.sp c hc)
  have h2 : ∀ c ∈ n ++ 58 :: l, c.toNat < 128 := all_app ha (fun c hc => by rcases List.mem_cons.1 hc with rfl | hc; decide; exact hl.asc c hc)
  refine ⟨h1, h2, by simp, lineName_of hn (.inl rfl) h1 h2, ?_⟩
  have e : (n ++ 58 :: l).drop 8 = l := by
    have : n.length = 7 := by have := congrArg List.length hn; simpa [dtK] using this
    rw [List.drop_append, this, List.drop_eq_nil_of_le (by omega)]; rfl
  rw [e, startT_stamp hl, ht]
/-- 'DTSTART;TZID=UTC:' and a moment. -/
theorem dline_utc {n l : List UInt8} {s : Int × Int} (hn : n.map upC = dtK) (hs : ∀ c ∈ n, Lib.isSp c = false) (ha : ∀ c ∈ n, c.toNat < 128) (hl : PL l) (ht : timeT l = some s) : DLine (n ++ 59 :: ([84, 90, 73, 68, 61, 85, 84, 67] ++ 58 :: l)) s := by
  have u1 : ∀ c ∈ [84, 90, 73, 68, 61, 85, 84, 67] ++ 58 :: l, Lib.isSp c = false := all_app (by decide) (fun c hc => by rcases List.mem_cons.1 hc with rfl | hc; decide; exact hl.sp c hc)
  have u2 : ∀ c ∈ [84, 90, 73, 68, 61, 85, 84, 67] ++ 58 :: l, c.toNat < 128 := all_app (by decide) (fun c hc => by rcases List.mem_cons.1 hc with rfl | hc; decide; exact hl.asc c hc)
  have h1 : ∀ c ∈ n ++ 59 :: ([84, 90, 73, 68, 61, 85, 84, 67] ++ 58 :: l), Lib.isSp c = false := all_app hs (fun c hc => by rcases List.mem_cons.1 hc with rfl | hc; decide; exact u1 c hc)
  have h2 : ∀ c ∈ n ++ 59 :: ([84, 90, 73, 68, 61, 85, 84, 67] ++ 58 :: l), c.toNat < 128 := all_app ha (fun c hc => by rcases List.mem_cons.1 hc with rfl | hc; decide; exact u2 c hc)
  refine ⟨h1, h2, by simp, lineName_of hn (.inr rfl) h1 h2, ?_⟩
  have e : (n ++ 59 :: ([84, 90, 73, 68, 61, 85, 84, 67] ++ 58 :: l)).drop 8 = [84, 90, 73, 68, 61, 85, 84, 67] ++ 58 :: l := by
    have : n.length = 7 := by have := congrArg List.length hn; simpa [dtK] using this
    rw [List.drop_append, this, List.drop_eq_nil_of_le (by omega)]; rfl
  rw [e, startT_utc hl, ht]
theorem idxs_pres (o : Opt) : ∀ i ∈ idxs o, presB o i = true := fun i hi => ((mem_idxs o i).1 hi).2
theorem idxs_all (o : Opt) : ∀ i, i < 16 → i ≠ 1 → presB o i = true → i ∈ idxs o := fun i h1 h2 h3 => (mem_idxs o i).2 ⟨⟨h1, h2⟩, h3⟩
theorem idxs_one (o : Opt) : 1 ∉ idxs o := fun h => ((mem_idxs o 1).1 h).1.2 rfl
/-- READ OF WRITTEN: an option's text is read as this option. -/
theorem opt_back (o : Opt) (h : OptN o) : optT (optL o) = some o := by
  cases hz : isZ o.st with
  | true =>
    have hst : o.st = (0, 0) := by simp [isZ] at hz; exact Prod.ext hz.1 hz.2
    unfold optL
    rw [if_pos hz, rrL_joinT, one_back o h _ (idxs_pres o) (idxs_all o), if_neg (idxs_one o), ← hst]
  | false =>
    have hT := joinT_TX o h _ (idxs_pres o)
    unfold optL
    rw [if_neg (by simp [hz]), rrL_joinT]
    have e : dtL ++ rfcL (stampS o.st.1) ++ nlL ++ joinT o (idxs o) = (dtL ++ 58 :: stampS o.st.1) ++ 10 :: (rrule ++ joinT o (idxs o)) := by
      simp [rfcL, nlL, rrule, List.append_assoc]
    rw [e, two_back (dline (n := dtL) (by decide) (by decide) (by decide) (stampS_PL _ h.ok.st) (time_back _ h.ok.st)) (all_app rr_sp hT.sp) (all_app rr_asc hT.asc) (by simp [rrule]), rule_back2 o h _ (idxs_pres o) (idxs_all o), if_neg (idxs_one o)]
    have := h.st0
    simp [← this]
/-- The text without the start. -/
theorem rr_back (o : Opt) (h : OptN o) : optT (rrL o) = some { o with st := (0, 0) } := by
  rw [rrL_joinT, one_back o h _ (idxs_pres o) (idxs_all o), if_neg (idxs_one o)]
end Go.Proofs.YtcfbkkcamiephaaGreatDoor
