import Derived.Test.YtcfbkkcamiephaaGreatDoorP1
import Derived.Test.YtcfbkkcamiephaaGreatDoorE3
import Derived.Lib.TrimAscii
namespace Go.Proofs.YtcfbkkcamiephaaGreatDoor
open Go.RowKit

/-! ### the reference's numbers are Atoi's -/
def sMag (most acc : Nat) : List UInt8 → Option Nat
  | [] => some acc
  | c :: r => if c.toNat < 48 ∨ 57 < c.toNat then none else if (most - (c.toNat - 48)) / 10 < acc then none else sMag most (acc * 10 + (c.toNat - 48)) r
theorem parseUint10_ge (l : List UInt8) (acc u : Nat) (h : Lib.parseUint10 acc l = .ok u) : acc ≤ u := by
  induction l generalizing acc with
  | nil => simp only [Lib.parseUint10] at h; injection h with h; omega
  | cons c r ih =>
    simp only [Lib.parseUint10] at h
    split at h
    · split at h
      · cases h
      · split at h
        · cases h
        · have := ih _ h; omega
    · cases h
theorem sMag_eq (most : Nat) (hm : most ≤ 9223372036854775808) (hm2 : 9 ≤ most) (l : List UInt8) (acc : Nat) (ha : acc ≤ most) :
    sMag most acc l = match Lib.parseUint10 acc l with
      | .ok u => if u ≤ most then some u else none
      | _ => none := by
  induction l generalizing acc with
  | nil => simp only [sMag, Lib.parseUint10]; rw [if_pos ha]
  | cons c r ih =>
    simp only [sMag, Lib.parseUint10]
    by_cases hd : 48 ≤ c.toNat ∧ c.toNat ≤ 57
    · rw [if_neg (by omega), if_pos hd]
      by_cases hq : (most - (c.toNat - 48)) / 10 < acc
      · rw [if_pos hq]
        by_cases h1 : 1844674407370955162 ≤ acc
        · rw [if_pos h1]
        · rw [if_neg h1]
          by_cases h2 : 18446744073709551616 ≤ acc * 10 + (c.toNat - 48)
          · rw [if_pos h2]
          · rw [if_neg h2]
            cases h : Lib.parseUint10 (acc * 10 + (c.toNat - 48)) r with
            | ok u =>
              have := parseUint10_ge _ _ _ h
              have hlt : ¬ u ≤ most := by omega
              simp only [if_neg hlt]
            | range => rfl
            | _ => rfl
      · rw [if_neg hq, if_neg (by omega), if_neg (by omega)]
        exact ih _ (by omega)
    · rw [if_pos (by omega), if_neg hd]
def intS (l : List UInt8) : Option Int := match l with
  | [] => none
  | c :: r => if (if c.toNat = 43 ∨ c.toNat = 45 then r else c :: r) = [] then none else
    (sMag (if c.toNat = 45 then 9223372036854775808 else 9223372036854775807) 0 (if c.toNat = 43 ∨ c.toNat = 45 then r else c :: r)).map fun u => if c.toNat = 45 then -(u : Int) else u
theorem intS_eq (l : List UInt8) : intS l = atoiO l := by
  unfold intS atoiO Lib.atoiAll
  match l with
  | [] => rfl
  | c :: r =>
    simp only
    generalize (if c.toNat = 43 ∨ c.toNat = 45 then r else c :: r) = t
    unfold Lib.parseMag
    by_cases ht : t = []
    · rw [if_pos ht, if_pos ht]
    · rw [if_neg ht, if_neg ht]
      by_cases hn : c.toNat = 45
      · simp only [if_pos hn]
        rw [sMag_eq _ (by omega) (by omega) _ _ (by omega)]
        cases h : Lib.parseUint10 0 t with
        | ok u =>
          simp only [hn, not_true, false_and, if_false, true_and]
          by_cases hu : u ≤ 9223372036854775808
          · rw [if_pos hu, if_neg (by omega)]; rfl
          · rw [if_neg hu, if_pos (by omega)]; rfl
        | range => rfl
        | _ => rfl
      · simp only [if_neg hn]
        rw [sMag_eq _ (by omega) (by omega) _ _ (by omega)]
        cases h : Lib.parseUint10 0 t with
        | ok u =>
          simp only [hn, not_false_eq_true, false_and, if_false, true_and]
          by_cases hu : u ≤ 9223372036854775807
          · rw [if_pos hu, if_neg (by omega)]; rfl
          · rw [if_neg hu, if_pos (by omega)]; rfl
        | range => rfl
        | _ => rfl

/-! ### blanks and capital letters, at texts of ASCII -/
def ascL (l : List UInt8) : Bool := l.all fun c => decide (c.toNat < 128)
def trimS (l : List UInt8) : List UInt8 := ((l.dropWhile Lib.isSp).reverse.dropWhile Lib.isSp).reverse
theorem ascL_cons {c : UInt8} {l : List UInt8} : ascL (c :: l) = true ↔ c.toNat < 128 ∧ ascL l = true := by simp [ascL]
theorem ascL_sub {a b : List UInt8} (h : ∀ c ∈ a, c ∈ b) (hb : ascL b = true) : ascL a = true := by
  unfold ascL at *
  rw [List.all_eq_true] at *
  exact fun x hx => hb x (h x hx)
theorem trimLeft_asc (f : Nat) (l : List UInt8) (hf : l.length ≤ f) (ha : ascL l = true) : Lib.trimLeftD f l = l.dropWhile Lib.isSp := by
  induction f generalizing l with
  | zero => obtain rfl : l = [] := List.eq_nil_of_length_eq_zero (by omega); rfl
  | succ f ih =>
    match l with
    | [] => rfl
    | b :: t =>
      obtain ⟨hb, ht⟩ := ascL_cons.1 ha
      cases hs : Lib.isSp b with
      | true => rw [Lib.left_step f b t hs, ih t (by simpa using hf) ht, List.dropWhile_cons_of_pos hs]
      | false => rw [Lib.left_stop f b t hs hb, List.dropWhile_cons_of_neg (by simp [hs])]
theorem trimRight_asc (f : Nat) (l : List UInt8) (hf : l.length ≤ f) (ha : ascL l = true) : Lib.trimRightD f l = (l.reverse.dropWhile Lib.isSp).reverse := by
  induction f generalizing l with
  | zero => obtain rfl : l = [] := List.eq_nil_of_length_eq_zero (by omega); rfl
  | succ f ih =>
    by_cases hl : l = []
    · subst hl; rfl
    · obtain ⟨t, b, rfl⟩ : ∃ t b, l = t ++ [b] := ⟨l.dropLast, l.getLast hl, (List.dropLast_concat_getLast hl).symm⟩
      have hb : b.toNat < 128 := by
        have := List.all_eq_true.1 ha b (by simp)
        simpa using this
      have ht : ascL t = true := ascL_sub (by simp_all) ha
      rw [List.reverse_append]
      cases hs : Lib.isSp b with
      | true => rw [Lib.right_step f t b hs, ih t (by simp at hf; omega) ht]; simp [List.dropWhile_cons_of_pos hs]
      | false => rw [Lib.right_stop f t b hs hb]; simp [hs]
theorem ascL_dropWhile {l : List UInt8} (ha : ascL l = true) (p : UInt8 → Bool) : ascL (l.dropWhile p) = true := ascL_sub (fun _ hc => (List.dropWhile_sublist p).mem hc) ha
theorem trim_asc (l : List UInt8) (ha : ascL l = true) : Lib.trimSpaceD l = trimS l := by
  unfold Lib.trimSpaceD trimS
  rw [trimLeft_asc _ l (Nat.le_refl _) ha, trimRight_asc _ _ ((List.dropWhile_sublist _).length_le) (ascL_dropWhile ha _)]
def upC (c : UInt8) : UInt8 := if 97 ≤ c.toNat ∧ c.toNat ≤ 122 then c - 32 else c
theorem up_rune (c : UInt8) (h : c.toNat < 128) : 0 ≤ Lib.toUpperU (c.toNat : Int) ∧ Lib.encodeRune (Lib.toUpperU (c.toNat : Int)) = [upC c] := by
  have key : ∀ n : Fin 128, 0 ≤ Lib.toUpperU (n.val : Int) ∧ Lib.encodeRune (Lib.toUpperU (n.val : Int)) = [upC (UInt8.ofNat n.val)] := by decide +kernel
  have := key ⟨c.toNat, h⟩
  simpa using this
theorem upper_go (n : Nat) (l : List UInt8) (hn : l.length ≤ n) (ha : ascL l = true) : Lib.mapGoD Lib.toUpperU n l = l.map upC := by
  induction n generalizing l with
  | zero => obtain rfl : l = [] := List.eq_nil_of_length_eq_zero (by omega); rfl
  | succ n ih =>
    match l with
    | [] => rfl
    | b :: t =>
      obtain ⟨hb, ht⟩ := ascL_cons.1 ha
      obtain ⟨h0, h1⟩ := up_rune b hb
      simp only [Lib.mapGoD, Lib.decodeL_ascii b t hb]
      rw [if_neg (by simp), if_pos h0, h1]
      simp only [List.drop_succ_cons, List.drop_zero, List.map_cons]
      rw [ih t (by simpa using hn) ht]; rfl
theorem upper_asc (l : List UInt8) (ha : ascL l = true) : Lib.toUpperD l = l.map upC := upper_go _ l (Nat.le_refl _) ha

/-! ### the name of a line -/
def nmS (u : List UInt8) : List UInt8 × Bool :=
  if idxA [59, 58] u < u.length then
    (u.take (idxA [59, 58] u), if idxA [61] (u.take (idxA [59, 58] u)) < (u.take (idxA [59, 58] u)).length then idxA [61] (u.take (idxA [59, 58] u)) == 0 else decide (0 < idxA [59, 58] u))
  else ([], false)
theorem nmS_eq (u : List UInt8) : nameU u = if (nmS u).2 then some (nmS u).1 else none := by
  unfold nameU nmS
  by_cases hu : u = []
  · subst hu; rfl
  · rw [if_neg hu]
    unfold idxAI
    by_cases h1 : idxA [59, 58] u < u.length
    · rw [if_pos h1, if_pos h1]
      generalize hi : idxA [59, 58] u = i at *
      by_cases h0 : i = 0
      · subst h0; simp [idxA]
      · rw [if_neg (by omega)]
        have hlen : (u.take i).length = i := List.length_take_of_le (by omega)
        by_cases h2 : idxA [61] (u.take i) < (u.take i).length
        · simp only [if_pos h2]
          by_cases h3 : idxA [61] (u.take i) = 0
          · simp [h3]
          · rw [if_pos (by omega)]; simp [h3]
        · simp only [if_neg h2]
          rw [if_neg (by omega)]; simp; omega
    · rw [if_neg h1, if_neg h1, if_pos (by omega)]; rfl
theorem lineName_asc (d : List UInt8) (ha : ascL d = true) : lineName d = ((nmS ((trimS d).map upC)).2 && (nmS ((trimS d).map upC)).1 == [68, 84, 83, 84, 65, 82, 84]) := by
  unfold lineName nameT
  have hs : ascL (trimS d) = true := by
    rw [← trim_asc d ha]
    refine ascL_sub (fun c hc => ?_) ha
    rw [trim_asc d ha] at hc
    unfold trimS at hc
    rw [List.mem_reverse] at hc
    have h1 := (List.dropWhile_sublist _).mem hc
    rw [List.mem_reverse] at h1
    exact (List.dropWhile_sublist _).mem h1
  rw [trim_asc d ha, upper_asc _ hs, nmS_eq]
  generalize nmS ((trimS d).map upC) = p
  obtain ⟨a, b⟩ := p
  cases b <;> rfl
end Go.Proofs.YtcfbkkcamiephaaGreatDoor
