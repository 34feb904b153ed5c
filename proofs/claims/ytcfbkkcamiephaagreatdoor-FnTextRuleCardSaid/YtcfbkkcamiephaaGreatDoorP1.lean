import Derived.Test.YtcfbkkcamiephaaGreatDoorC8
import Derived.Test.YtcfbkkcamiephaaGreatDoorE3
import Derived.Lib.TrimAscii
import Derived.Test.YtcfbkkcamiephaaGreatDoorE4
import Derived.Test.YtcfbkkcamiephaaGreatDoorF6
namespace Go.Proofs.YtcfbkkcamiephaaGreatDoor
open Go.RowKit

/-! ### the reference's reading of a moment, in plain words -/
inductive Out (α : Type) where
  | right (a : α)
  | wrong
  | opn
def sDig (l : List UInt8) (a n : Nat) : Option Int := (takeD n (l.drop a)).map (·.1)
def momS (l : List UInt8) : Out Int := match sDig l 0 4, sDig l 4 2, sDig l 6 2 with
  | some y, some m, some d =>
    if m < 1 ∨ 12 < m ∨ d < 1 ∨ mdays m y < d then .wrong
    else if l.length = 8 then .right (dayNum y m d * 86400)
    else match sDig l 9 2, sDig l 11 2, sDig l 13 2 with
      | some h, some n, some x =>
        if l[8]? ≠ some 84 ∨ 23 < h ∨ 59 < n ∨ 59 < x then .wrong
        else if l.length = 15 ∨ (l.length = 16 ∧ l[15]? = some 90) then .right (dayNum y m d * 86400 + (h * 3600 + n * 60 + x))
        else if l[15]? = some 46 ∨ l[15]? = some 44 then .opn else .wrong
      | _, _, _ => .wrong
  | _, _, _ => .wrong
/-- What the reference says is what the program does, unless it is left open. -/
def Agree {α β : Type} (o : Out α) (t : Option β) (R : α → β) : Prop := match o with
  | .right a => t = some (R a)
  | .wrong => t = none
  | .opn => True
theorem sDig_drop (l : List UInt8) (a n : Nat) : sDig l a n = (takeD n (l.drop a)).map (·.1) := rfl
theorem takeD_drop {k : Nat} {l : List UInt8} {n : Int} {r : List UInt8} (h : takeD k l = some (n, r)) : r = l.drop k := (takeD_some h).2.2.2
theorem takeD_le {k : Nat} {l : List UInt8} {n : Int} {r : List UInt8} (h : takeD k l = some (n, r)) : k ≤ l.length := (takeD_some h).1
theorem sDig_some {l : List UInt8} {a n : Nat} {x : Int} {r : List UInt8} (h : takeD n (l.drop a) = some (x, r)) : sDig l a n = some x := by simp [sDig, h]
theorem sDig_none {l : List UInt8} {a n : Nat} (h : takeD n (l.drop a) = none) : sDig l a n = none := by simp [sDig, h]
theorem tail_none {y m d hh mm ss nn : Int} (h : d < 1 ∨ mdays m y < d) (ok : Bool) : parseTail y m d hh mm ss nn ok = none := by
  unfold parseTail; rw [if_pos (Or.inr h)]
theorem tail_some {y m d hh mm ss nn : Int} (h : ¬ (d < 1 ∨ mdays m y < d)) : parseTail y m d hh mm ss nn true = some (dayNum y m d * 86400 + hh * 3600 + mm * 60 + ss, nn) := by
  unfold parseTail; rw [if_neg (by simpa using h)]
theorem tail_false {y m d hh mm ss nn : Int} : parseTail y m d hh mm ss nn false = none := by
  unfold parseTail; rw [if_pos (Or.inl rfl)]
theorem frac_nil : frac [] = (0, []) := rfl
theorem frac_other {c : UInt8} {r : List UInt8} (h : c ≠ 46 ∧ c ≠ 44) : frac (c :: r) = (0, c :: r) := by
  have h1 : c.toNat ≠ 46 := fun e => h.1 (UInt8.toNat_inj.1 (by simpa using e))
  have h2 : c.toNat ≠ 44 := fun e => h.2 (UInt8.toNat_inj.1 (by simpa using e))
  unfold frac fracB
  cases r with
  | nil => rfl
  | cons a t => simp [h1, h2]
theorem moment_eq (l : List UInt8) : Agree (momS l) (timeT l) (fun n => (n, 0)) := by
  unfold momS timeT
  cases h1 : takeD 4 l with
  | none =>
    rw [sDig_none (a := 0) (by simpa using h1)]
    have : ∀ z, parseT z l = none := fun z => by simp [parseT, h1]
    simp [Agree, this]
  | some p1 =>
    obtain ⟨y, l1⟩ := p1
    obtain rfl := takeD_drop h1
    rw [sDig_some (a := 0) (by simpa using h1)]
    cases h2 : takeD 2 (l.drop 4) with
    | none =>
      rw [sDig_none h2]
      have : ∀ z, parseT z l = none := fun z => by simp [parseT, h1, h2]
      simp [Agree, this]
    | some p2 =>
      obtain ⟨m, l2⟩ := p2
      obtain rfl := takeD_drop h2
      rw [sDig_some h2]
      try dsimp only
      by_cases hm : m < 1 ∨ 12 < m
      · have : ∀ z, parseT z l = none := fun z => by simp [parseT, h1, h2, hm]
        simp only [this, ite_self]
        cases sDig l 6 2 with
        | none => rfl
        | some d => (try dsimp only); rw [if_pos (by omega)]; rfl
      · rw [List.drop_drop] at *
        cases h3 : takeD 2 (l.drop (4 + 2)) with
        | none =>
          rw [sDig_none (a := 6) h3]
          have : ∀ z, parseT z l = none := fun z => by simp [parseT, h1, h2, hm, h3]
          simp [Agree, this]
        | some p3 =>
          obtain ⟨d, l3⟩ := p3
          obtain rfl := takeD_drop h3
          rw [List.drop_drop] at *
          rw [sDig_some (a := 6) h3]
          try dsimp only
          have hl8 : 8 ≤ l.length := by have := takeD_le h3; simp at this; omega
          by_cases hd : d < 1 ∨ mdays m y < d
          · (try dsimp only)
            rw [if_pos (by omega)]
            have : ∀ z, parseT z l = none := fun z => by
              simp only [parseT, h1, h2, if_neg hm, h3, tail_none hd]
              repeat (first | rfl | split)
            simp [Agree, this]
          · (try dsimp only)
            rw [if_neg (by omega)]
            by_cases h8 : l.length = 8
            · rw [if_pos h8, if_pos h8]
              have e0 : l.drop (4 + 2 + 2) = [] := List.drop_eq_nil_of_le (by omega)
              simp only [Agree, parseT, h1, h2, if_neg hm, h3, e0]
              rw [show (([] : List UInt8) == []) = true from rfl, tail_some hd]
              simp
            · rw [if_neg h8, if_neg h8]
              have e8 : l.drop 8 = l[8] :: l.drop 9 := List.drop_eq_getElem_cons (by omega)
              have g8 : l[8]? = some l[8] := List.getElem?_eq_getElem (by omega)
              generalize hc : l[8] = c at e8 g8
              have hz : ∀ z, parseT (some z) l = if c.toNat ≠ 84 then none else match takeD 2 (l.drop 9) with
                  | none => none
                  | some (hh, l5) => if 23 < hh then none else match takeD 2 l5 with
                    | none => none
                    | some (mm, l6) => if 59 < mm then none else match takeD 2 l6 with
                      | none => none
                      | some (ss, l7) => if 59 < ss then none else parseTail y m d hh mm ss (frac l7).1 ((frac l7).2 == z) := fun z => by
                simp only [parseT, h1, h2, if_neg hm, h3, e8]
                rfl
              have hP : (if l.length = 15 then parseT (some []) l else parseT (some [90]) l) = parseT (some (if l.length = 15 then [] else [90])) l := by split <;> rfl
              rw [hP, hz, g8]
              cases h4 : takeD 2 (l.drop 9) with
              | none => rw [sDig_none h4]; simp only [ite_self]; rfl
              | some p4 =>
                obtain ⟨hh, l5⟩ := p4
                obtain rfl := takeD_drop h4
                rw [sDig_some h4]
                try dsimp only
                rw [List.drop_drop]
                by_cases hh1 : 23 < hh
                · simp only [if_pos hh1, ite_self]
                  cases sDig l 11 2 with
                  | none => rfl
                  | some n => cases sDig l 13 2 with
                    | none => rfl
                    | some x => (try dsimp only); rw [if_pos (by omega)]; rfl
                · simp only [if_neg hh1]
                  cases h5 : takeD 2 (l.drop (9 + 2)) with
                  | none => rw [sDig_none (a := 11) h5]; simp only [ite_self]; rfl
                  | some p5 =>
                    obtain ⟨mm, l6⟩ := p5
                    obtain rfl := takeD_drop h5
                    rw [sDig_some (a := 11) h5]
                    try dsimp only
                    simp only [List.drop_drop]
                    by_cases hm1 : 59 < mm
                    · simp only [if_pos hm1, ite_self]
                      cases sDig l 13 2 with
                      | none => rfl
                      | some x => (try dsimp only); rw [if_pos (by omega)]; rfl
                    · simp only [if_neg hm1]
                      cases h6 : takeD 2 (l.drop (9 + 2 + 2)) with
                      | none => rw [sDig_none (a := 13) h6]; simp only [ite_self]; rfl
                      | some p6 =>
                        obtain ⟨ss, l7⟩ := p6
                        obtain rfl := takeD_drop h6
                        rw [sDig_some (a := 13) h6]
                        try dsimp only
                        simp only [List.drop_drop]
                        by_cases hs1 : 59 < ss
                        · simp only [if_pos hs1, ite_self]
                          (try dsimp only); rw [if_pos (by omega)]; rfl
                        · simp only [if_neg hs1]
                          by_cases hT : c = 84
                          · subst hT
                            rw [if_neg (by simp; omega)]
                            rw [if_neg (show ¬ ((84 : UInt8).toNat ≠ 84) by decide)]
                            have hl15 : 15 ≤ l.length := by have := takeD_le h6; simp at this; omega
                            show Agree _ (parseTail y m d hh mm ss (frac (l.drop 15)).1 ((frac (l.drop 15)).2 == _)) _
                            by_cases h15 : l.length = 15
                            · rw [if_pos (Or.inl h15), if_pos h15, List.drop_eq_nil_of_le (by omega), frac_nil]
                              show parseTail _ _ _ _ _ _ 0 true = _
                              rw [tail_some hd]; simp; omega
                            · have e15 : l.drop 15 = l[15] :: l.drop 16 := List.drop_eq_getElem_cons (by omega)
                              have g15 : l[15]? = some l[15] := List.getElem?_eq_getElem (by omega)
                              generalize hc5 : l[15] = c5 at e15 g15
                              rw [if_neg h15, e15, g15]
                              by_cases hdot : c5 = 46 ∨ c5 = 44
                              · rw [if_neg (by rintro (h | ⟨_, h⟩); exact h15 h; simp at h; rcases hdot with h' | h' <;> rw [h] at h' <;> exact absurd h' (by decide)), if_pos (by simpa using hdot)]
                                trivial
                              · rw [frac_other ⟨fun h => hdot (Or.inl h), fun h => hdot (Or.inr h)⟩]
                                by_cases hZ : l.length = 16 ∧ c5 = 90
                                · obtain ⟨h16, rfl⟩ := hZ
                                  rw [if_pos (Or.inr ⟨h16, rfl⟩), List.drop_eq_nil_of_le (by omega)]
                                  show parseTail _ _ _ _ _ _ 0 true = _
                                  rw [tail_some hd]; simp; omega
                                · rw [if_neg (by rintro (h | ⟨h, h'⟩); exact h15 h; exact hZ ⟨h, by simpa using h'⟩), if_neg (by simpa using hdot)]
                                  have : ((c5 :: l.drop 16 : List UInt8) == [90]) = false := by
                                    rw [beq_eq_false_iff_ne]
                                    intro h
                                    injection h with ha hb
                                    exact hZ ⟨by have := congrArg List.length hb; simp at this; omega, ha⟩
                                  show parseTail _ _ _ _ _ _ 0 (_ == [90]) = none
                                  rw [this, tail_false]
                          · have hT' : c.toNat ≠ 84 := fun e => hT (UInt8.toNat_inj.1 (by simpa using e))
                            rw [if_pos (Or.inl (by simpa using hT)), if_pos hT']; rfl
end Go.Proofs.YtcfbkkcamiephaaGreatDoor
namespace Go.Proofs.YtcfbkkcamiephaaGreatDoor
open Go.RowKit

/-! ### the reference's numbers are Atoi's -/
def sMag (most acc : Nat) : List UInt8 → Option Nat
  | [] => some acc
  | c :: r => if c.toNat < 48 ∨ 57 < c.toNat then none else if (most - (c.toNat - 48)) / 10 < acc then none else sMag most (acc * 10 + (c.toNat - 48)) r
theorem parseUint10_ge (l : List UInt8) (acc u : Nat) (h : Lib.parseUint10 acc l = .ok u) : acc ≤ u := by
  induction l generalizing acc with
  | nil => simp only [Lib.parseUint10] at h; injection h with h; omega
  | cons c r ih =>
    simp only [Lib.parseUint10] at h
    split at h
    · split at h
      · cases h
      · split at h
        · cases h
        · have := ih _ h; omega
    · cases h
theorem sMag_eq (most : Nat) (hm : most ≤ 9223372036854775808) (hm2 : 9 ≤ most) (l : List UInt8) (acc : Nat) (ha : acc ≤ most) :
    sMag most acc l = match Lib.parseUint10 acc l with
      | .ok u => if u ≤ most then some u else none
      | _ => none := by
  induction l generalizing acc with
  | nil => simp only [sMag, Lib.parseUint10]; rw [if_pos ha]
  | cons c r ih =>
    simp only [sMag, Lib.parseUint10]
    by_cases hd : 48 ≤ c.toNat ∧ c.toNat ≤ 57
    · rw [if_neg (by omega), if_pos hd]
      by_cases hq : (most - (c.toNat - 48)) / 10 < acc
      · rw [if_pos hq]
        by_cases h1 : 1844674407370955162 ≤ acc
        · rw [if_pos h1]
        · rw [if_neg h1]
          by_cases h2 : 18446744073709551616 ≤ acc * 10 + (c.toNat - 48)
          · rw [if_pos h2]
          · rw [if_neg h2]
            cases h : Lib.parseUint10 (acc * 10 + (c.toNat - 48)) r with
            | ok u =>
              have := parseUint10_ge _ _ _ h
              have hlt : ¬ u ≤ most := by omega
              simp only [if_neg hlt]
            | range => rfl
            | _ => rfl
      · rw [if_neg hq, if_neg (by omega), if_neg (by omega)]
        exact ih _ (by omega)
    · rw [if_pos (by omega), if_neg hd]
def intS (l : List UInt8) : Option Int := match l with
  | [] => none
  | c :: r => if (if c.toNat = 43 ∨ c.toNat = 45 then r else c :: r) = [] then none else
    (sMag (if c.toNat = 45 then 9223372036854775808 else 9223372036854775807) 0 (if c.toNat = 43 ∨ c.toNat = 45 then r else c :: r)).map fun u => if c.toNat = 45 then -(u : Int) else u
theorem intS_eq (l : List UInt8) : intS l = atoiO l := by
  unfold intS atoiO Lib.atoiAll
  match l with
  | [] => rfl
  | c :: r =>
    simp only
    generalize (if c.toNat = 43 ∨ c.toNat = 45 then r else c :: r) = t
    unfold Lib.parseMag
    by_cases ht : t = []
    · rw [if_pos ht, if_pos ht]
    · rw [if_neg ht, if_neg ht]
      by_cases hn : c.toNat = 45
      · simp only [if_pos hn]
        rw [sMag_eq _ (by omega) (by omega) _ _ (by omega)]
        cases h : Lib.parseUint10 0 t with
        | ok u =>
          simp only [hn, not_true, false_and, if_false, true_and]
          by_cases hu : u ≤ 9223372036854775808
          · rw [if_pos hu, if_neg (by omega)]; rfl
          · rw [if_neg hu, if_pos (by omega)]; rfl
        | range => rfl
        | _ => rfl
      · simp only [if_neg hn]
        rw [sMag_eq _ (by omega) (by omega) _ _ (by omega)]
        cases h : Lib.parseUint10 0 t with
        | ok u =>
          simp only [hn, not_false_eq_true, false_and, if_false, true_and]
          by_cases hu : u ≤ 9223372036854775807
          · rw [if_pos hu, if_neg (by omega)]; rfl
          · rw [if_neg hu, if_pos (by omega)]; rfl
        | range => rfl
        | _ => rfl

/-! ### blanks and capital letters, at texts of ASCII -/
def ascL (l : List UInt8) : Bool := l.all fun c => decide (c.toNat < 128)
def trimS (l : List UInt8) : List UInt8 := ((l.dropWhile Lib.isSp).reverse.dropWhile Lib.isSp).reverse
theorem ascL_cons {c : UInt8} {l : List UInt8} : ascL (c :: l) = true ↔ c.toNat < 128 ∧ ascL l = true := by simp [ascL]
theorem ascL_sub {a b : List UInt8} (h : ∀ c ∈ a, c ∈ b) (hb : ascL b = true) : ascL a = true := by
  unfold ascL at *
  rw [List.all_eq_true] at *
  exact fun x hx => hb x (h x hx)
theorem trimLeft_asc (f : Nat) (l : List UInt8) (hf : l.length ≤ f) (ha : ascL l = true) : Lib.trimLeftD f l = l.dropWhile Lib.isSp := by
  induction f generalizing l with
  | zero => obtain rfl : l = [] := List.eq_nil_of_length_eq_zero (by omega); rfl
  | succ f ih =>
    match l with
    | [] => rfl
    | b :: t =>
      obtain ⟨hb, ht⟩ := ascL_cons.1 ha
      cases hs : Lib.isSp b with
      | true => rw [Lib.left_step f b t hs, ih t (by simpa using hf) ht, List.dropWhile_cons_of_pos hs]
      | false => rw [Lib.left_stop f b t hs hb, List.dropWhile_cons_of_neg (by simp [hs])]
theorem trimRight_asc (f : Nat) (l : List UInt8) (hf : l.length ≤ f) (ha : ascL l = true) : Lib.trimRightD f l = (l.reverse.dropWhile Lib.isSp).reverse := by
  induction f generalizing l with
  | zero => obtain rfl : l = [] := List.eq_nil_of_length_eq_zero (by omega); rfl
  | succ f ih =>
    by_cases hl : l = []
    · subst hl; rfl
    · obtain ⟨t, b, rfl⟩ : ∃ t b, l = t ++ [b] := ⟨l.dropLast, l.getLast hl, (List.dropLast_concat_getLast hl).symm⟩
      have hb : b.toNat < 128 := by
        have := List.all_eq_true.1 ha b (by simp)
        simpa using this
      have ht : ascL t = true := ascL_sub (by simp_all) ha
      rw [List.reverse_append]
      cases hs : Lib.isSp b with
      | true => rw [Lib.right_step f t b hs, ih t (by simp at hf; omega) ht]; simp [List.dropWhile_cons_of_pos hs]
      | false => rw [Lib.right_stop f t b hs hb]; simp [hs]
theorem ascL_dropWhile {l : List UInt8} (ha : ascL l = true) (p : UInt8 → Bool) : ascL (l.dropWhile p) = true := ascL_sub (fun _ hc => (List.dropWhile_sublist p).mem hc) ha
theorem trim_asc (l : List UInt8) (ha : ascL l = true) : Lib.trimSpaceD l = trimS l := by
  unfold Lib.trimSpaceD trimS
  rw [trimLeft_asc _ l (Nat.le_refl _) ha, trimRight_asc _ _ ((List.dropWhile_sublist _).length_le) (ascL_dropWhile ha _)]
def upC (c : UInt8) : UInt8 := if 97 ≤ c.toNat ∧ c.toNat ≤ 122 then c - 32 else c
theorem up_rune (c : UInt8) (h : c.toNat < 128) : 0 ≤ Lib.toUpperU (c.toNat : Int) ∧ Lib.encodeRune (Lib.toUpperU (c.toNat : Int)) = [upC c] := by
  have key : ∀ n : Fin 128, 0 ≤ Lib.toUpperU (n.val : Int) ∧ Lib.encodeRune (Lib.toUpperU (n.val : Int)) = [upC (UInt8.ofNat n.val)] := by decide +kernel
  have := key ⟨c.toNat, h⟩
  simpa using this
theorem upper_go (n : Nat) (l : List UInt8) (hn : l.length ≤ n) (ha : ascL l = true) : Lib.mapGoD Lib.toUpperU n l = l.map upC := by
  induction n generalizing l with
  | zero => obtain rfl : l = [] := List.eq_nil_of_length_eq_zero (by omega); rfl
  | succ n ih =>
    match l with
    | [] => rfl
    | b :: t =>
      obtain ⟨hb, ht⟩ := ascL_cons.1 ha
      obtain ⟨h0, h1⟩ := up_rune b hb
      simp only [Lib.mapGoD, Lib.decodeL_ascii b t hb]
      rw [if_neg (by simp), if_pos h0, h1]
      simp only [List.drop_succ_cons, List.drop_zero, List.map_cons]
      rw [ih t (by simpa using hn) ht]; rfl
theorem upper_asc (l : List UInt8) (ha : ascL l = true) : Lib.toUpperD l = l.map upC := upper_go _ l (Nat.le_refl _) ha

/-! ### the name of a line -/
def nmS (u : List UInt8) : List UInt8 × Bool :=
  if idxA [59, 58] u < u.length then
    (u.take (idxA [59, 58] u), if idxA [61] (u.take (idxA [59, 58] u)) < (u.take (idxA [59, 58] u)).length then idxA [61] (u.take (idxA [59, 58] u)) == 0 else decide (0 < idxA [59, 58] u))
  else ([], false)
theorem nmS_eq (u : List UInt8) : nameU u = if (nmS u).2 then some (nmS u).1 else none := by
  unfold nameU nmS
  by_cases hu : u = []
  · subst hu; rfl
  · rw [if_neg hu]
    unfold idxAI
    by_cases h1 : idxA [59, 58] u < u.length
    · rw [if_pos h1, if_pos h1]
      generalize hi : idxA [59, 58] u = i at *
      by_cases h0 : i = 0
      · subst h0; simp [idxA]
      · rw [if_neg (by omega)]
        have hlen : (u.take i).length = i := List.length_take_of_le (by omega)
        by_cases h2 : idxA [61] (u.take i) < (u.take i).length
        · simp only [if_pos h2]
          by_cases h3 : idxA [61] (u.take i) = 0
          · simp [h3]
          · rw [if_pos (by omega)]; simp [h3]
        · simp only [if_neg h2]
          rw [if_neg (by omega)]; simp; omega
    · rw [if_neg h1, if_neg h1, if_pos (by omega)]; rfl
theorem lineName_asc (d : List UInt8) (ha : ascL d = true) : lineName d = ((nmS ((trimS d).map upC)).2 && (nmS ((trimS d).map upC)).1 == [68, 84, 83, 84, 65, 82, 84]) := by
  unfold lineName nameT
  have hs : ascL (trimS d) = true := by
    rw [← trim_asc d ha]
    refine ascL_sub (fun c hc => ?_) ha
    rw [trim_asc d ha] at hc
    unfold trimS at hc
    rw [List.mem_reverse] at hc
    have h1 := (List.dropWhile_sublist _).mem hc
    rw [List.mem_reverse] at h1
    exact (List.dropWhile_sublist _).mem h1
  rw [trim_asc d ha, upper_asc _ hs, nmS_eq]
  generalize nmS ((trimS d).map upC) = p
  obtain ⟨a, b⟩ := p
  cases b <;> rfl
end Go.Proofs.YtcfbkkcamiephaaGreatDoor
namespace Go.Proofs.YtcfbkkcamiephaaGreatDoor
open Go.RowKit

/-! ### the reference's reading of a start, of dates, of a rule, in plain words -/
theorem splitL_one {c : UInt8} {l a : List UInt8} (h : splitL c l = [a]) : a = l := by
  by_cases hi : idx c l < l.length
  · rw [splitL_idx c l hi] at h
    have := splitL_ne c (l.drop (idx c l + 1))
    simp at h; exact absurd h.2 this
  · rw [splitL_none c l hi] at h; simpa using h.symm
theorem splitL_mem {c x : UInt8} {l p : List UInt8} (hp : p ∈ splitL c l) (hx : x ∈ p) : x ∈ l := by
  induction l generalizing p with
  | nil => simp [splitL] at hp; subst hp; simp at hx
  | cons y r ih =>
    simp only [splitL] at hp
    split at hp
    · rcases List.mem_cons.1 hp with rfl | hp
      · simp at hx
      · exact List.mem_cons_of_mem _ (ih hp hx)
    · split at hp
      · simp at hp; subst hp; simp at hx; simp [hx]
      · rename_i a t heq
        rcases List.mem_cons.1 hp with rfl | hp
        · rcases List.mem_cons.1 hx with rfl | hx
          · simp
          · exact List.mem_cons_of_mem _ (ih (p := a) (by rw [heq]; simp) hx)
        · exact List.mem_cons_of_mem _ (ih (p := p) (by rw [heq]; simp [hp]) hx)
def tzid : List UInt8 := [84, 90, 73, 68, 61]
def startS (l : List UInt8) : Out Int := match splitL 58 l with
  | [_] => momS l
  | [a, b] => if Lib.hasPrefix a tzid then (if tzOk a then momS b else .opn) else .wrong
  | _ => .wrong
theorem tzOk_prefix {a : List UInt8} (h : tzOk a = true) : Lib.hasPrefix a tzid = true := by
  unfold tzOk at h
  have : a = [84, 90, 73, 68, 61, 85, 84, 67] := by simpa using h
  subst this; rfl
theorem start_eq (l : List UInt8) : Agree (startS l) (startT l) (fun n => (n, 0)) := by
  unfold startS startT
  match hs : splitL 58 l with
  | [] => rfl
  | [a] => simp only [splitL_one hs]; exact moment_eq l
  | [a, b] =>
    simp only
    cases ht : tzOk a with
    | true =>
      rw [if_pos (tzOk_prefix ht), if_pos rfl, if_pos rfl]; exact moment_eq b
    | false =>
      simp only [Bool.false_eq_true, if_false]
      split
      · trivial
      · rfl
  | a :: b :: c :: r => rfl
def RuleD.zero : RuleD := ⟨0, false, 0, 0, 0, 0, false, 0, [], [], [], [], [], [], [], [], [], []⟩
def ofO {α : Type} : Option α → Out α
  | some a => .right a
  | none => .wrong
def momR (v : List UInt8) (f : Int → RuleD) : Out RuleD := match momS v with
  | .right n => .right (f n)
  | .wrong => .wrong
  | .opn => .opn
def partS (i : Nat) (v : List UInt8) (r : RuleD) : Out RuleD := match i with
  | 0 => ofO ((freqT v).map fun x => { r with fq := x })
  | 1 => momR v fun n => { r with st := n, hs := n != 0 }
  | 2 => ofO ((atoiO v).map fun x => { r with iv := x })
  | 3 => match dayT v with
    | none => .wrong
    | some (d, n) => if n = 0 then .right { r with wk := d } else .opn
  | 4 => ofO ((atoiO v).map fun x => { r with ct := x })
  | 5 => momR v fun n => { r with un := n, hu := n != 0 }
  | 6 => ofO ((intsT v).map fun x => { r with sp := x })
  | 7 => ofO ((intsT v).map fun x => { r with mo := x })
  | 8 => ofO ((intsT v).map fun x => { r with md := x })
  | 9 => ofO ((intsT v).map fun x => { r with yd := x })
  | 10 => ofO ((intsT v).map fun x => { r with wn := x })
  | 11 => ofO ((daysT v).map fun x => { r with dy := x })
  | 12 => ofO ((intsT v).map fun x => { r with ho := x })
  | 13 => ofO ((intsT v).map fun x => { r with mi := x })
  | 14 => ofO ((intsT v).map fun x => { r with se := x })
  | 15 => ofO ((intsT v).map fun x => { r with ea := x })
  | _ => .wrong
def partO (p : List UInt8) (s : RuleD × Bool) : Out (RuleD × Bool) := match splitL 61 p with
  | [k, v] => if v = [] then .wrong else match partS (keyI k) v s.1 with
    | .right r => .right (r, s.2 || keyI k == 0)
    | .wrong => .wrong
    | .opn => .opn
  | _ => .wrong
def partsO : List (List UInt8) → RuleD × Bool → Out (RuleD × Bool)
  | [], s => .right s
  | p :: t, s => match partO p s with
    | .right s' => partsO t s'
    | .wrong => .wrong
    | .opn => .opn
def endO : Out (RuleD × Bool) → Out RuleD
  | .right (r, b) => if b then .right r else .wrong
  | .wrong => .wrong
  | .opn => .opn
def rrule : List UInt8 := [82, 82, 85, 76, 69, 58]
def parS (l : List UInt8) : Out RuleD := if ascL l = false then .opn else match splitL 10 (trimS l) with
  | [a] => endO (partsO (splitL 59 (Lib.trimPrefix a rrule)) (RuleD.zero, false))
  | [d, a] => if lineName d then (match startS (d.drop 8) with
    | .right n => endO (partsO (splitL 59 (Lib.trimPrefix a rrule)) ({ RuleD.zero with st := n, hs := n != 0 }, false))
    | .wrong => .wrong
    | .opn => .opn) else .wrong
  | _ => .wrong
/-- The same, as a relation. -/
def AgreeR {α β : Type} (o : Out α) (t : Option β) (R : α → β → Prop) : Prop := match o with
  | .right a => ∃ b, t = some b ∧ R a b
  | .wrong => t = none
  | .opn => True
structure RelO (r : RuleD) (o : Opt) : Prop where
  eq : ruleOf o = r
  st0 : o.st.2 = 0
  un0 : o.un.2 = 0
theorem isZ_zero (n : Int) : (!isZ (n, 0)) = (n != 0) := by
  unfold isZ
  by_cases h : n = 0
  · subst h; rfl
  · have : (n == 0) = false := beq_eq_false_iff_ne.2 h
    simp [this, bne]
theorem part_agree (i : Nat) (v : List UInt8) (r : RuleD) (o : Opt) (h : RelO r o) : AgreeR (partS i v r) (partI i v o) RelO := by
  obtain ⟨rfl, h1, h2⟩ := h
  match i with
  | 0 => unfold partS partI; cases freqT v; rfl; exact ⟨_, rfl, rfl, h1, h2⟩
  | 1 =>
    unfold partS partI momR
    have := moment_eq v
    cases hm : momS v with
    | right n => rw [hm] at this; rw [this]; exact ⟨_, rfl, by unfold ruleOf; simp only [isZ_zero], rfl, h2⟩
    | wrong => rw [hm] at this; rw [this]; rfl
    | opn => trivial
  | 2 => unfold partS partI; cases atoiO v; rfl; exact ⟨_, rfl, rfl, h1, h2⟩
  | 3 =>
    unfold partS partI
    cases dayT v with
    | none => rfl
    | some p =>
      obtain ⟨d, n⟩ := p
      by_cases hn : n = 0
      · subst hn; simp only [if_true]; exact ⟨_, rfl, rfl, h1, h2⟩
      · simp only [if_neg hn]; trivial
  | 4 => unfold partS partI; cases atoiO v; rfl; exact ⟨_, rfl, rfl, h1, h2⟩
  | 5 =>
    unfold partS partI momR
    have := moment_eq v
    cases hm : momS v with
    | right n => rw [hm] at this; rw [this]; exact ⟨_, rfl, by unfold ruleOf; simp only [isZ_zero], h1, rfl⟩
    | wrong => rw [hm] at this; rw [this]; rfl
    | opn => trivial
  | 6 => unfold partS partI; cases intsT v; rfl; exact ⟨_, rfl, rfl, h1, h2⟩
  | 7 => unfold partS partI; cases intsT v; rfl; exact ⟨_, rfl, rfl, h1, h2⟩
  | 8 => unfold partS partI; cases intsT v; rfl; exact ⟨_, rfl, rfl, h1, h2⟩
  | 9 => unfold partS partI; cases intsT v; rfl; exact ⟨_, rfl, rfl, h1, h2⟩
  | 10 => unfold partS partI; cases intsT v; rfl; exact ⟨_, rfl, rfl, h1, h2⟩
  | 11 => unfold partS partI; cases daysT v; rfl; exact ⟨_, rfl, rfl, h1, h2⟩
  | 12 => unfold partS partI; cases intsT v; rfl; exact ⟨_, rfl, rfl, h1, h2⟩
  | 13 => unfold partS partI; cases intsT v; rfl; exact ⟨_, rfl, rfl, h1, h2⟩
  | 14 => unfold partS partI; cases intsT v; rfl; exact ⟨_, rfl, rfl, h1, h2⟩
  | 15 => unfold partS partI; cases intsT v; rfl; exact ⟨_, rfl, rfl, h1, h2⟩
  | (n + 16) => rfl
theorem partO_agree (p : List UInt8) (r : RuleD) (o : Opt) (b : Bool) (h : RelO r o) : AgreeR (partO p (r, b)) (partT p (o, b)) (fun a c => RelO a.1 c.1 ∧ a.2 = c.2) := by
  unfold partO partT
  match splitL 61 p with
  | [] => rfl
  | [k] => rfl
  | [k, v] =>
    simp only
    by_cases hv : v = []
    · simp only [if_pos hv]; rfl
    · simp only [if_neg hv]
      have := part_agree (keyI k) v r o h
      cases hp : partS (keyI k) v r with
      | right r2 =>
        rw [hp] at this
        obtain ⟨o2, ho, hr⟩ := this
        rw [ho]
        exact ⟨_, rfl, hr, rfl⟩
      | wrong => rw [hp] at this; have this : partI (keyI k) v o = none := this; rw [this]; rfl
      | opn => trivial
  | a :: b :: c :: t => rfl
theorem partsO_agree (l : List (List UInt8)) (r : RuleD) (o : Opt) (b : Bool) (h : RelO r o) : AgreeR (partsO l (r, b)) (partsL l (o, b)) (fun a c => RelO a.1 c.1 ∧ a.2 = c.2) := by
  induction l generalizing r o b with
  | nil => exact ⟨_, rfl, h, rfl⟩
  | cons p t ih =>
    have h1 := partO_agree p r o b h
    simp only [partsO, partsL]
    cases hp : partO p (r, b) with
    | right s =>
      rw [hp] at h1
      obtain ⟨c, hc, hr, hb⟩ := h1
      rw [hc]
      obtain ⟨r2, b2⟩ := s
      obtain ⟨o2, b3⟩ := c
      simp only at hr hb
      subst hb
      exact ih r2 o2 b2 hr
    | wrong => rw [hp] at h1; have h1 : partT p (o, b) = none := h1; rw [h1]; rfl
    | opn => trivial
theorem end_agree (l : List (List UInt8)) (r : RuleD) (o : Opt) (h : RelO r o) : AgreeR (endO (partsO l (r, false))) (match partsL l (o, false) with
    | none => none
    | some (o, b) => if b then some o else none) RelO := by
  have h1 := partsO_agree l r o false h
  cases hp : partsO l (r, false) with
  | right s =>
    rw [hp] at h1
    obtain ⟨c, hc, hr, hb⟩ := h1
    rw [hc]
    obtain ⟨r2, b2⟩ := s
    obtain ⟨o2, b3⟩ := c
    simp only at hr hb
    subst hb
    cases b2 with
    | true => exact ⟨_, rfl, hr⟩
    | false => rfl
  | wrong => rw [hp] at h1; have h1 : partsL l (o, false) = none := h1; rw [h1]; rfl
  | opn => trivial
theorem dropWhile_head {p : UInt8 → Bool} {l : List UInt8} {x : UInt8} {t : List UInt8} (h : l.dropWhile p = x :: t) : p x = false := by
  induction l with
  | nil => simp at h
  | cons y r ih =>
    cases hp : p y with
    | true => rw [List.dropWhile_cons_of_pos hp] at h; exact ih h
    | false => rw [List.dropWhile_cons_of_neg (by simp [hp])] at h; simp at h; rw [← h.1]; exact hp
theorem trimS_head {l : List UInt8} {x : UInt8} {t : List UInt8} (h : trimS l = x :: t) : Lib.isSp x = false := by
  unfold trimS at h
  have hpre : (((l.dropWhile Lib.isSp).reverse.dropWhile Lib.isSp).reverse) <+: (l.dropWhile Lib.isSp) := by
    have := List.dropWhile_suffix Lib.isSp (l := (l.dropWhile Lib.isSp).reverse)
    have h2 := List.reverse_prefix.2 this
    simpa using h2
  rw [h] at hpre
  obtain ⟨r, hr⟩ := hpre
  exact dropWhile_head (t := t ++ r) (by rw [← hr]; rfl)
theorem trimS_first {l d a : List UInt8} (h : splitL 10 (trimS l) = [d, a]) : d ≠ [] := by
  cases ht : trimS l with
  | nil => rw [ht] at h; simp [splitL] at h
  | cons x t =>
    have hx := trimS_head ht
    have h10 : x ≠ 10 := by rintro rfl; simp [Lib.isSp] at hx
    rw [ht] at h
    simp only [splitL, if_neg h10] at h
    rintro rfl
    split at h <;> simp at h
theorem zero_rel : RelO RuleD.zero Opt.zero := ⟨rfl, rfl, rfl⟩
theorem start_rel (n : Int) : RelO { RuleD.zero with st := n, hs := n != 0 } { Opt.zero with st := (n, 0) } := ⟨by unfold ruleOf RuleD.zero Opt.zero; simp only [isZ_zero]; rfl, rfl, rfl⟩
/-- What the reference makes of a text, the program makes of it, unless it is left open. -/
theorem parS_agree (l : List UInt8) : AgreeR (parS l) (optT l) RelO := by
  unfold parS
  cases ha : ascL l with
  | false => trivial
  | true =>
    simp only [Bool.true_eq_false, if_false]
    unfold optT optU linesT
    rw [trim_asc l ha]
    match hs : splitL 10 (trimS l) with
    | [] => rfl
    | [a] =>
      simp only [restT, lineT, if_true, partsR]
      exact end_agree _ _ _ zero_rel
    | [d, a] =>
      have hd := trimS_first hs
      simp only [restT, lineT, if_neg hd]
      cases hn : lineName d with
      | false => rfl
      | true =>
        simp only [if_true]
        have h1 := start_eq (d.drop 8)
        cases hst : startS (d.drop 8) with
        | right n =>
          rw [hst] at h1
          have h1 : startT (d.drop 8) = some (n, 0) := h1
          rw [h1]
          exact end_agree _ _ _ (start_rel n)
        | wrong => rw [hst] at h1; have h1 : startT (d.drop 8) = none := h1; rw [h1]; rfl
        | opn => trivial
    | a :: b :: c :: t => rfl
end Go.Proofs.YtcfbkkcamiephaaGreatDoor
namespace Go.Proofs.YtcfbkkcamiephaaGreatDoor
open Go.RowKit

/-! ### what every option that is read meets -/
theorem split_len_lt {c : UInt8} {l : List UInt8} {x : List UInt8} (h : x ∈ splitL c l) : x.length ≤ l.length := split_len h
theorem partsL_inv (P : Opt → Prop) (n : Nat) (hstep : ∀ i v o o', v.length ≤ n → P o → partI i v o = some o' → P o') (ps : List (List UInt8)) (hps : ∀ p ∈ ps, p.length ≤ n) (o : Opt) (b : Bool) (h : P o) (o' : Opt) (b' : Bool)
    (hh : partsL ps (o, b) = some (o', b')) : P o' := by
  induction ps generalizing o b with
  | nil => simp only [partsL, Option.some.injEq, Prod.mk.injEq] at hh; rw [← hh.1]; exact h
  | cons p r ih =>
    simp only [partsL] at hh
    cases hp : partT p (o, b) with
    | none => rw [hp] at hh; cases hh
    | some q =>
      rw [hp] at hh
      obtain ⟨o1, b1⟩ := q
      refine ih (fun x hx => hps x (List.mem_cons_of_mem _ hx)) o1 b1 ?_ hh
      unfold partT at hp
      match hs : splitL 61 p with
      | [] => rw [hs] at hp; cases hp
      | [k] => rw [hs] at hp; cases hp
      | [k, v] =>
        rw [hs] at hp
        simp only at hp
        by_cases hv : v = []
        · rw [if_pos hv] at hp; cases hp
        · rw [if_neg hv] at hp
          cases hpi : partI (keyI k) v o with
          | none => rw [hpi] at hp; cases hp
          | some o2 =>
            rw [hpi] at hp
            simp only [Option.map_some, Option.some.injEq, Prod.mk.injEq] at hp
            rw [← hp.1]
            exact hstep _ v o o2 (Nat.le_trans (split_len (c := 61) (by rw [hs]; simp)) (hps p (by simp))) h hpi
      | a :: b :: c :: t => rw [hs] at hp; cases hp
theorem optT_inv (P : Opt → Prop) (l : List UInt8) (h0 : ∀ s, P { Opt.zero with st := s }) (hstep : ∀ i v o o', v.length ≤ l.length → P o → partI i v o = some o' → P o') (o : Opt) (h : optT l = some o) : P o := by
  have htl := trimSpaceD_len l
  unfold optT optU at h
  cases hS : linesT (Lib.trimSpaceD l) with
  | none => rw [hS] at h; cases h
  | some da =>
    obtain ⟨d, a⟩ := da
    rw [hS] at h
    have hm := linesT_mem hS
    have hp := trimPrefix_len a [82, 82, 85, 76, 69, 58]
    simp only [restT] at h
    cases hL : lineT d with
    | none => rw [hL] at h; cases h
    | some s =>
      rw [hL] at h
      simp only [partsR] at h
      cases hq : partsL (splitL 59 (Lib.trimPrefix a [82, 82, 85, 76, 69, 58])) ({ Opt.zero with st := s }, false) with
      | none => rw [hq] at h; cases h
      | some q =>
        obtain ⟨o1, b1⟩ := q
        rw [hq] at h
        simp only at h
        cases b1 with
        | false => cases h
        | true =>
          simp only [if_true, Option.some.injEq] at h
          rw [← h]
          exact partsL_inv P l.length hstep _ (fun x hx => Nat.le_trans (split_len hx) (by omega)) _ _ (h0 s) _ _ hq
theorem freqT_in {l : List UInt8} {x : Int} (h : freqT l = some x) : 0 ≤ x ∧ x ≤ 6 := by
  rcases freq_cases l with ⟨j, hj, _, hf⟩ | ⟨_, hf⟩
  · rw [hf] at h; simp only [Option.some.injEq] at h; omega
  · rw [hf] at h; cases h
theorem daysL_len {ps : List (List UInt8)} {ds : List (Int × Int)} (h : daysL ps = some ds) : ds.length = ps.length := by
  induction ps generalizing ds with
  | nil => simp only [daysL, Option.some.injEq] at h; rw [← h]; rfl
  | cons p r ih =>
    simp only [daysL] at h
    cases hd : dayT p with
    | none => rw [hd] at h; cases h
    | some n =>
      rw [hd] at h
      cases hr : daysL r with
      | none => rw [hr] at h; cases h
      | some ds2 => rw [hr] at h; simp only [Option.map_some, Option.some.injEq] at h; rw [← h, List.length_cons, ih hr]; rfl
theorem daysT_len {l : List UInt8} {ds : List (Int × Int)} (h : daysT l = some ds) : ds.length ≤ l.length + 1 := by
  rw [daysL_len h]; exact splitL_len 44 l
structure OptRd (n : Nat) (o : Opt) : Prop where
  fq : 0 ≤ o.fq ∧ o.fq ≤ 6
  dy : o.dy.length ≤ n + 1
theorem optT_rd (l : List UInt8) (o : Opt) (h : optT l = some o) : OptRd l.length o := by
  refine optT_inv (OptRd l.length) l (fun s => ⟨by simp [Opt.zero], by simp [Opt.zero]⟩) ?_ o h
  intro i v o o' hv hP hi
  match i with
  | 0 =>
    simp only [partI] at hi
    cases hf : freqT v with
    | none => rw [hf] at hi; cases hi
    | some x => rw [hf] at hi; simp only [Option.map_some, Option.some.injEq] at hi; rw [← hi]; exact ⟨freqT_in hf, hP.dy⟩
  | 1 => simp only [partI, Option.map_eq_some_iff] at hi; obtain ⟨x, _, rfl⟩ := hi; exact ⟨hP.fq, hP.dy⟩
  | 2 => simp only [partI, Option.map_eq_some_iff] at hi; obtain ⟨x, _, rfl⟩ := hi; exact ⟨hP.fq, hP.dy⟩
  | 3 => simp only [partI, Option.map_eq_some_iff] at hi; obtain ⟨x, _, rfl⟩ := hi; exact ⟨hP.fq, hP.dy⟩
  | 4 => simp only [partI, Option.map_eq_some_iff] at hi; obtain ⟨x, _, rfl⟩ := hi; exact ⟨hP.fq, hP.dy⟩
  | 5 => simp only [partI, Option.map_eq_some_iff] at hi; obtain ⟨x, _, rfl⟩ := hi; exact ⟨hP.fq, hP.dy⟩
  | 6 => simp only [partI, Option.map_eq_some_iff] at hi; obtain ⟨x, _, rfl⟩ := hi; exact ⟨hP.fq, hP.dy⟩
  | 7 => simp only [partI, Option.map_eq_some_iff] at hi; obtain ⟨x, _, rfl⟩ := hi; exact ⟨hP.fq, hP.dy⟩
  | 8 => simp only [partI, Option.map_eq_some_iff] at hi; obtain ⟨x, _, rfl⟩ := hi; exact ⟨hP.fq, hP.dy⟩
  | 9 => simp only [partI, Option.map_eq_some_iff] at hi; obtain ⟨x, _, rfl⟩ := hi; exact ⟨hP.fq, hP.dy⟩
  | 10 => simp only [partI, Option.map_eq_some_iff] at hi; obtain ⟨x, _, rfl⟩ := hi; exact ⟨hP.fq, hP.dy⟩
  | 11 =>
    simp only [partI, Option.map_eq_some_iff] at hi
    obtain ⟨x, hx, rfl⟩ := hi
    exact ⟨hP.fq, by have := daysT_len hx; show x.length ≤ _; omega⟩
  | 12 => simp only [partI, Option.map_eq_some_iff] at hi; obtain ⟨x, _, rfl⟩ := hi; exact ⟨hP.fq, hP.dy⟩
  | 13 => simp only [partI, Option.map_eq_some_iff] at hi; obtain ⟨x, _, rfl⟩ := hi; exact ⟨hP.fq, hP.dy⟩
  | 14 => simp only [partI, Option.map_eq_some_iff] at hi; obtain ⟨x, _, rfl⟩ := hi; exact ⟨hP.fq, hP.dy⟩
  | 15 => simp only [partI, Option.map_eq_some_iff] at hi; obtain ⟨x, _, rfl⟩ := hi; exact ⟨hP.fq, hP.dy⟩
  | (n + 16) => simp only [partI] at hi; cases hi
end Go.Proofs.YtcfbkkcamiephaaGreatDoor
