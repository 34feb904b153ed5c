import Derived.Test.YtcfbkkcamiephaaGreatDoorC8
namespace Go.Proofs.YtcfbkkcamiephaaGreatDoor
open Go.RowKit

/-! ### the reference's reading of a moment, in plain words -/
inductive Out (α : Type) where
  | right (a : α)
  | wrong
  | opn
def sDig (l : List UInt8) (a n : Nat) : Option Int := (takeD n (l.drop a)).map (·.1)
def momS (l : List UInt8) : Out Int := match sDig l 0 4, sDig l 4 2, sDig l 6 2 with
  | some y, some m, some d =>
    if m < 1 ∨ 12 < m ∨ d < 1 ∨ mdays m y < d then .wrong
    else if l.length = 8 then .right (dayNum y m d * 86400)
    else match sDig l 9 2, sDig l 11 2, sDig l 13 2 with
      | some h, some n, some x =>
        if l[8]? ≠ some 84 ∨ 23 < h ∨ 59 < n ∨ 59 < x then .wrong
        else if l.length = 15 ∨ (l.length = 16 ∧ l[15]? = some 90) then .right (dayNum y m d * 86400 + (h * 3600 + n * 60 + x))
        else if l[15]? = some 46 ∨ l[15]? = some 44 then .opn else .wrong
      | _, _, _ => .wrong
  | _, _, _ => .wrong
/-- What the reference says is what the program does, unless it is left open. -/
def Agree {α β : Type} (o : Out α) (t : Option β) (R : α → β) : Prop := match o with
  | .right a => t = some (R a)
  | .wrong => t = none
  | .opn => True
theorem sDig_drop (l : List UInt8) (a n : Nat) : sDig l a n = (takeD n (l.drop a)).map (·.1) := rfl
theorem takeD_drop {k : Nat} {l : List UInt8} {n : Int} {r : List UInt8} (h : takeD k l = some (n, r)) : r = l.drop k := (takeD_some h).2.2.2
theorem takeD_le {k : Nat} {l : List UInt8} {n : Int} {r : List UInt8} (h : takeD k l = some (n, r)) : k ≤ l.length := (takeD_some h).1
theorem sDig_some {l : List UInt8} {a n : Nat} {x : Int} {r : List UInt8} (h : takeD n (l.drop a) = some (x, r)) : sDig l a n = some x := by simp [sDig, h]
theorem sDig_none {l : List UInt8} {a n : Nat} (h : takeD n (l.drop a) = none) : sDig l a n = none := by simp [sDig, h]
theorem tail_none {y m d hh mm ss nn : Int} (h : d < 1 ∨ mdays m y < d) (ok : Bool) : parseTail y m d hh mm ss nn ok = none := by
  unfold parseTail; rw [if_pos (Or.inr h)]
theorem tail_some {y m d hh mm ss nn : Int} (h : ¬ (d < 1 ∨ mdays m y < d)) : parseTail y m d hh mm ss nn true = some (dayNum y m d * 86400 + hh * 3600 + mm * 60 + ss, nn) := by
  unfold parseTail; rw [if_neg (by simpa using h)]
theorem tail_false {y m d hh mm ss nn : Int} : parseTail y m d hh mm ss nn false = none := by
  unfold parseTail; rw [if_pos (Or.inl rfl)]
theorem frac_nil : frac [] = (0, []) := rfl
theorem frac_other {c : UInt8} {r : List UInt8} (h : c ≠ 46 ∧ c ≠ 44) : frac (c :: r) = (0, c :: r) := by
  have h1 : c.toNat ≠ 46 := fun e => h.1 (UInt8.toNat_inj.1 (by simpa using e))
  have h2 : c.toNat ≠ 44 := fun e => h.2 (UInt8.toNat_inj.1 (by simpa using e))
  unfold frac fracB
  cases r with
  | nil => rfl
  | cons a t => simp [h1, h2]
theorem moment_eq (l : List UInt8) : Agree (momS l) (timeT l) (fun n => (n, 0)) := by
  unfold momS timeT
  cases h1 : takeD 4 l with
  | none =>
    rw [sDig_none (a := 0) (by simpa using h1)]
    have : ∀ z, parseT z l = none := fun z => by simp [parseT, h1]
    simp [Agree, this]
  | some p1 =>
    obtain ⟨y, l1⟩ := p1
    obtain rfl := takeD_drop h1
    rw [sDig_some (a := 0) (by simpa using h1)]
    cases h2 : takeD 2 (l.drop 4) with
    | none =>
      rw [sDig_none h2]
      have : ∀ z, parseT z l = none := fun z => by simp [parseT, h1, h2]
      simp [Agree, this]
    | some p2 =>
      obtain ⟨m, l2⟩ := p2
      obtain rfl := takeD_drop h2
      rw [sDig_some h2]
      try dsimp only
      by_cases hm : m < 1 ∨ 12 < m
      · have : ∀ z, parseT z l = none := fun z => by simp [parseT, h1, h2, hm]
        simp only [this, ite_self]
        cases sDig l 6 2 with
        | none => rfl
        | some d => (try dsimp only); rw [if_pos (by omega)]; rfl
      · rw [List.drop_drop] at *
        cases h3 : takeD 2 (l.drop (4 + 2)) with
        | none =>
          rw [sDig_none (a := 6) h3]
          have : ∀ z, parseT z l = none := fun z => by simp [parseT, h1, h2, hm, h3]
          simp [Agree, this]
        | some p3 =>
          obtain ⟨d, l3⟩ := p3
          obtain rfl := takeD_drop h3
          rw [List.drop_drop] at *
          rw [sDig_some (a := 6) h3]
          try dsimp only
          have hl8 : 8 ≤ l.length := by have := takeD_le h3; simp at this; omega
          by_cases hd : d < 1 ∨ mdays m y < d
          · (try dsimp only)
            rw [if_pos (by omega)]
            have : ∀ z, parseT z l = none := fun z => by
              simp only [parseT, h1, h2, if_neg hm, h3, tail_none hd]
              repeat (first | rfl | split)
            simp [Agree, this]
          · (try dsimp only)
            rw [if_neg (by omega)]
            by_cases h8 : l.length = 8
            · rw [if_pos h8, if_pos h8]
              have e0 : l.drop (4 + 2 + 2) = [] := List.drop_eq_nil_of_le (by omega)
              simp only [Agree, parseT, h1, h2, if_neg hm, h3, e0]
              rw [show (([] : List UInt8) == []) = true from rfl, tail_some hd]
              simp
            · rw [if_neg h8, if_neg h8]
              have e8 : l.drop 8 = l[8] :: l.drop 9 := List.drop_eq_getElem_cons (by omega)
              have g8 : l[8]? = some l[8] := List.getElem?_eq_getElem (by omega)
              generalize hc : l[8] = c at e8 g8
              have hz : ∀ z, parseT (some z) l = if c.toNat ≠ 84 then none else match takeD 2 (l.drop 9) with
                  | none => none
                  | some (hh, l5) => if 23 < hh then none else match takeD 2 l5 with
                    | none => none
                    | some (mm, l6) => if 59 < mm then none else match takeD 2 l6 with
                      | none => none
                      | some (ss, l7) => if 59 < ss then none else parseTail y m d hh mm ss (frac l7).1 ((frac l7).2 == z) := fun z => by
                simp only [parseT, h1, h2, if_neg hm, h3, e8]
                rfl
              have hP : (if l.length = 15 then parseT (some []) l else parseT (some [90]) l) = parseT (some (if l.length = 15 then [] else [90])) l := by split <;> rfl
              rw [hP, hz, g8]
              cases h4 : takeD 2 (l.drop 9) with
              | none => rw [sDig_none h4]; simp only [ite_self]; rfl
              | some p4 =>
                obtain ⟨hh, l5⟩ := p4
                obtain rfl := takeD_drop h4
                rw [sDig_some h4]
                try dsimp only
                rw [List.drop_drop]
                by_cases hh1 : 23 < hh
                · simp only [if_pos hh1, ite_self]
                  cases sDig l 11 2 with
                  | none => rfl
                  | some n => cases sDig l 13 2 with
                    | none => rfl
                    | some x => (try dsimp only); rw [if_pos (by omega)]; rfl
                · simp only [if_neg hh1]
                  cases h5 : takeD 2 (l.drop (9 + 2)) with
                  | none => rw [sDig_none (a := 11) h5]; simp only [ite_self]; rfl
                  | some p5 =>
                    obtain ⟨mm, l6⟩ := p5
                    obtain rfl := takeD_drop h5
                    rw [sDig_some (a := 11) h5]
                    try dsimp only
                    simp only [List.drop_drop]
                    by_cases hm1 : 59 < mm
                    · simp only [if_pos hm1, ite_self]
                      cases sDig l 13 2 with
                      | none => rfl
                      | some x => (try dsimp only); rw [if_pos (by omega)]; rfl
                    · simp only [if_neg hm1]
                      cases h6 : takeD 2 (l.drop (9 + 2 + 2)) with
                      | none => rw [sDig_none (a := 13) h6]; simp only [ite_self]; rfl
                      | some p6 =>
                        obtain ⟨ss, l7⟩ := p6
                        obtain rfl := takeD_drop h6
                        rw [sDig_some (a := 13) h6]
                        try dsimp only
                        simp only [List.drop_drop]
                        by_cases hs1 : 59 < ss
                        · simp only [if_pos hs1, ite_self]
                          (try dsimp only); rw [if_pos (by omega)]; rfl
                        · simp only [if_neg hs1]
                          by_cases hT : c = 84
                          · subst hT
                            rw [if_neg (by simp; omega)]
                            rw [if_neg (show ¬ ((84 : UInt8).toNat ≠ 84) by decide)]
                            have hl15 : 15 ≤ l.length := by have := takeD_le h6; simp at this; omega
                            show Agree _ (parseTail y m d hh mm ss (frac (l.drop 15)).1 ((frac (l.drop 15)).2 == _)) _
                            by_cases h15 : l.length = 15
                            · rw [if_pos (Or.inl h15), if_pos h15, List.drop_eq_nil_of_le (by omega), frac_nil]
                              show parseTail _ _ _ _ _ _ 0 true = _
                              rw [tail_some hd]; simp; omega
                            · have e15 : l.drop 15 = l[15] :: l.drop 16 := List.drop_eq_getElem_cons (by omega)
                              have g15 : l[15]? = some l[15] := List.getElem?_eq_getElem (by omega)
                              generalize hc5 : l[15] = c5 at e15 g15
                              rw [if_neg h15, e15, g15]
                              by_cases hdot : c5 = 46 ∨ c5 = 44
                              · rw [if_neg (by rintro (h | ⟨_, h⟩); exact h15 h; simp at h; rcases hdot with h' | h' <;> rw [h] at h' <;> exact absurd h' (by decide)), if_pos (by simpa using hdot)]
                                trivial
                              · rw [frac_other ⟨fun h => hdot (Or.inl h), fun h => hdot (Or.inr h)⟩]
                                by_cases hZ : l.length = 16 ∧ c5 = 90
                                · obtain ⟨h16, rfl⟩ := hZ
                                  rw [if_pos (Or.inr ⟨h16, rfl⟩), List.drop_eq_nil_of_le (by omega)]
                                  show parseTail _ _ _ _ _ _ 0 true = _
                                  rw [tail_some hd]; simp; omega
                                · rw [if_neg (by rintro (h | ⟨h, h'⟩); exact h15 h; exact hZ ⟨h, by simpa using h'⟩), if_neg (by simpa using hdot)]
                                  have : ((c5 :: l.drop 16 : List UInt8) == [90]) = false := by
                                    rw [beq_eq_false_iff_ne]
                                    intro h
                                    injection h with ha hb
                                    exact hZ ⟨by have := congrArg List.length hb; simp at this; omega, ha⟩
                                  show parseTail _ _ _ _ _ _ 0 (_ == [90]) = none
                                  rw [this, tail_false]
                          · have hT' : c.toNat ≠ 84 := fun e => hT (UInt8.toNat_inj.1 (by simpa using e))
                            rw [if_pos (Or.inl (by simpa using hT)), if_pos hT']; rfl
end Go.Proofs.YtcfbkkcamiephaaGreatDoor
