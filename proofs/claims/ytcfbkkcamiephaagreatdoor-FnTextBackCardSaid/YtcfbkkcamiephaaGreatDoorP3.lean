import Derived.Test.YtcfbkkcamiephaaGreatDoorP2
import Derived.Test.YtcfbkkcamiephaaGreatDoorE4
namespace Go.Proofs.YtcfbkkcamiephaaGreatDoor
open Go.RowKit

/-! ### the reference's reading of a start, of dates, of a rule, in plain words -/
theorem splitL_one {c : UInt8} {l a : List UInt8} (h : splitL c l = [a]) : a = l := by
  by_cases hi : idx c l < l.length
  · rw [splitL_idx c l hi] at h
    have := splitL_ne c (l.drop (idx c l + 1))
    simp at h; exact absurd h.2 this
  · rw [splitL_none c l hi] at h; simpa using h.symm
theorem splitL_mem {c x : UInt8} {l p : List UInt8} (hp : p ∈ splitL c l) (hx : x ∈ p) : x ∈ l := by
  induction l generalizing p with
  | nil => simp [splitL] at hp; subst hp; simp at hx
  | cons y r ih =>
    simp only [splitL] at hp
    split at hp
    · rcases List.mem_cons.1 hp with rfl | hp
      · simp at hx
      · exact List.mem_cons_of_mem _ (ih hp hx)
    · split at hp
      · simp at hp; subst hp; simp at hx; simp [hx]
      · rename_i a t heq
        rcases List.mem_cons.1 hp with rfl | hp
        · rcases List.mem_cons.1 hx with rfl | hx
          · simp
          · exact List.mem_cons_of_mem _ (ih (p := a) (by rw [heq]; simp) hx)
        · exact List.mem_cons_of_mem _ (ih (p := p) (by rw [heq]; simp [hp]) hx)
def tzid : List UInt8 := [84, 90, 73, 68, 61]
def startS (l : List UInt8) : Out Int := match splitL 58 l with
  | [_] => momS l
  | [a, b] => if Lib.hasPrefix a tzid then (if tzOk a then momS b else .opn) else .wrong
  | _ => .wrong
theorem tzOk_prefix {a : List UInt8} (h : tzOk a = true) : Lib.hasPrefix a tzid = true := by
  unfold tzOk at h
  have : a = [84, 90, 73, 68, 61, 85, 84, 67] := by simpa using h
  subst this; rfl
theorem start_eq (l : List UInt8) : Agree (startS l) (startT l) (fun n => (n, 0)) := by
  unfold startS startT
  match hs : splitL 58 l with
  | [] => rfl
  | [a] => simp only [splitL_one hs]; exact moment_eq l
  | [a, b] =>
    simp only
    cases ht : tzOk a with
    | true =>
      rw [if_pos (tzOk_prefix ht), if_pos rfl, if_pos rfl]; exact moment_eq b
    | false =>
      simp only [Bool.false_eq_true, if_false]
      split
      · trivial
      · rfl
  | a :: b :: c :: r => rfl
def RuleD.zero : RuleD := ⟨0, false, 0, 0, 0, 0, false, 0, [], [], [], [], [], [], [], [], [], []⟩
def ofO {α : Type} : Option α → Out α
  | some a => .right a
  | none => .wrong
def momR (v : List UInt8) (f : Int → RuleD) : Out RuleD := match momS v with
  | .right n => .right (f n)
  | .wrong => .wrong
  | .opn => .opn
def partS (i : Nat) (v : List UInt8) (r : RuleD) : Out RuleD := match i with
  | 0 => ofO ((freqT v).map fun x => { r with fq := x })
  | 1 => momR v fun n => { r with st := n, hs := n != 0 }
  | 2 => ofO ((atoiO v).map fun x => { r with iv := x })
  | 3 => match dayT v with
    | none => .wrong
    | some (d, n) => if n = 0 then .right { r with wk := d } else .opn
  | 4 => ofO ((atoiO v).map fun x => { r with ct := x })
  | 5 => momR v fun n => { r with un := n, hu := n != 0 }
  | 6 => ofO ((intsT v).map fun x => { r with sp := x })
  | 7 => ofO ((intsT v).map fun x => { r with mo := x })
  | 8 => ofO ((intsT v).map fun x => { r with md := x })
  | 9 => ofO ((intsT v).map fun x => { r with yd := x })
  | 10 => ofO ((intsT v).map fun x => { r with wn := x })
  | 11 => ofO ((daysT v).map fun x => { r with dy := x })
  | 12 => ofO ((intsT v).map fun x => { r with ho := x })
  | 13 => ofO ((intsT v).map fun x => { r with mi := x })
  | 14 => ofO ((intsT v).map fun x => { r with se := x })
  | 15 => ofO ((intsT v).map fun x => { r with ea := x })
  | _ => .wrong
def partO (p : List UInt8) (s : RuleD × Bool) : Out (RuleD × Bool) := match splitL 61 p with
  | [k, v] => if v = [] then .wrong else match partS (keyI k) v s.1 with
    | .right r => .right (r, s.2 || keyI k == 0)
    | .wrong => .wrong
    | .opn => .opn
  | _ => .wrong
def partsO : List (List UInt8) → RuleD × Bool → Out (RuleD × Bool)
  | [], s => .right s
  | p :: t, s => match partO p s with
    | .right s' => partsO t s'
    | .wrong => .wrong
    | .opn => .opn
def endO : Out (RuleD × Bool) → Out RuleD
  | .right (r, b) => if b then .right r else .wrong
  | .wrong => .wrong
  | .opn => .opn
def rrule : List UInt8 := [82, 82, 85, 76, 69, 58]
def parS (l : List UInt8) : Out RuleD := if ascL l = false then .opn else match splitL 10 (trimS l) with
  | [a] => endO (partsO (splitL 59 (Lib.trimPrefix a rrule)) (RuleD.zero, false))
  | [d, a] => if lineName d then (match startS (d.drop 8) with
    | .right n => endO (partsO (splitL 59 (Lib.trimPrefix a rrule)) ({ RuleD.zero with st := n, hs := n != 0 }, false))
    | .wrong => .wrong
    | .opn => .opn) else .wrong
  | _ => .wrong
/-- The same, as a relation. -/
def AgreeR {α β : Type} (o : Out α) (t : Option β) (R : α → β → Prop) : Prop := match o with
  | .right a => ∃ b, t = some b ∧ R a b
  | .wrong => t = none
  | .opn => True
structure RelO (r : RuleD) (o : Opt) : Prop where
  eq : ruleOf o = r
  st0 : o.st.2 = 0
  un0 : o.un.2 = 0
theorem isZ_zero (n : Int) : (!isZ (n, 0)) = (n != 0) := by
  unfold isZ
  by_cases h : n = 0
  · subst h; rfl
  · have : (n == 0) = false := beq_eq_false_iff_ne.2 h
    simp [this, bne]
theorem part_agree (i : Nat) (v : List UInt8) (r : RuleD) (o : Opt) (h : RelO r o) : AgreeR (partS i v r) (partI i v o) RelO := by
  obtain ⟨rfl, h1, h2⟩ := h
  match i with
  | 0 => unfold partS partI; cases freqT v; rfl; exact ⟨_, rfl, rfl, h1, h2⟩
  | 1 =>
    unfold partS partI momR
    have := moment_eq v
    cases hm : momS v with
    | right n => rw [hm] at this; rw [this]; exact ⟨_, rfl, by unfold ruleOf; simp only [isZ_zero], rfl, h2⟩
    | wrong => rw [hm] at this; rw [this]; rfl
    | opn => trivial
  | 2 => unfold partS partI; cases atoiO v; rfl; exact ⟨_, rfl, rfl, h1, h2⟩
  | 3 =>
    unfold partS partI
    cases dayT v with
    | none => rfl
    | some p =>
      obtain ⟨d, n⟩ := p
      by_cases hn : n = 0
      · subst hn; simp only [if_true]; exact ⟨_, rfl, rfl, h1, h2⟩
      · simp only [if_neg hn]; trivial
  | 4 => unfold partS partI; cases atoiO v; rfl; exact ⟨_, rfl, rfl, h1, h2⟩
  | 5 =>
    unfold partS partI momR
    have := moment_eq v
    cases hm : momS v with
    | right n => rw [hm] at this; rw [this]; exact ⟨_, rfl, by unfold ruleOf; simp only [isZ_zero], h1, rfl⟩
    | wrong => rw [hm] at this; rw [this]; rfl
    | opn => trivial
  | 6 => unfold partS partI; cases intsT v; rfl; exact ⟨_, rfl, rfl, h1, h2⟩
  | 7 => unfold partS partI; cases intsT v; rfl; exact ⟨_, rfl, rfl, h1, h2⟩
  | 8 => unfold partS partI; cases intsT v; rfl; exact ⟨_, rfl, rfl, h1, h2⟩
  | 9 => unfold partS partI; cases intsT v; rfl; exact ⟨_, rfl, rfl, h1, h2⟩
  | 10 => unfold partS partI; cases intsT v; rfl; exact ⟨_, rfl, rfl, h1, h2⟩
  | 11 => unfold partS partI; cases daysT v; rfl; exact ⟨_, rfl, rfl, h1, h2⟩
  | 12 => unfold partS partI; cases intsT v; rfl; exact ⟨_, rfl, rfl, h1, h2⟩
  | 13 => unfold partS partI; cases intsT v; rfl; exact ⟨_, rfl, rfl, h1, h2⟩
  | 14 => unfold partS partI; cases intsT v; rfl; exact ⟨_, rfl, rfl, h1, h2⟩
  | 15 => unfold partS partI; cases intsT v; rfl; exact ⟨_, rfl, rfl, h1, h2⟩
  | (n + 16) => rfl
theorem partO_agree (p : List UInt8) (r : RuleD) (o : Opt) (b : Bool) (h : RelO r o) : AgreeR (partO p (r, b)) (partT p (o, b)) (fun a c => RelO a.1 c.1 ∧ a.2 = c.2) := by
  unfold partO partT
  match splitL 61 p with
  | [] => rfl
  | [k] => rfl
  | [k, v] =>
    simp only
    by_cases hv : v = []
    · simp only [if_pos hv]; rfl
    · simp only [if_neg hv]
      have := part_agree (keyI k) v r o h
      cases hp : partS (keyI k) v r with
      | right r2 =>
        rw [hp] at this
        obtain ⟨o2, ho, hr⟩ := this
        rw [ho]
        exact ⟨_, rfl, hr, rfl⟩
      | wrong => rw [hp] at this; have this : partI (keyI k) v o = none := this; rw [this]; rfl
      | opn => trivial
  | a :: b :: c :: t => rfl
theorem partsO_agree (l : List (List UInt8)) (r : RuleD) (o : Opt) (b : Bool) (h : RelO r o) : AgreeR (partsO l (r, b)) (partsL l (o, b)) (fun a c => RelO a.1 c.1 ∧ a.2 = c.2) := by
  induction l generalizing r o b with
  | nil => exact ⟨_, rfl, h, rfl⟩
  | cons p t ih =>
    have h1 := partO_agree p r o b h
    simp only [partsO, partsL]
    cases hp : partO p (r, b) with
    | right s =>
      rw [hp] at h1
      obtain ⟨c, hc, hr, hb⟩ := h1
      rw [hc]
      obtain ⟨r2, b2⟩ := s
      obtain ⟨o2, b3⟩ := c
      simp only at hr hb
      subst hb
      exact ih r2 o2 b2 hr
    | wrong => rw [hp] at h1; have h1 : partT p (o, b) = none := h1; rw [h1]; rfl
    | opn => trivial
theorem end_agree (l : List (List UInt8)) (r : RuleD) (o : Opt) (h : RelO r o) : AgreeR (endO (partsO l (r, false))) (match partsL l (o, false) with
    | none => none
    | some (o, b) => if b then some o else none) RelO := by
  have h1 := partsO_agree l r o false h
  cases hp : partsO l (r, false) with
  | right s =>
    rw [hp] at h1
    obtain ⟨c, hc, hr, hb⟩ := h1
    rw [hc]
    obtain ⟨r2, b2⟩ := s
    obtain ⟨o2, b3⟩ := c
    simp only at hr hb
    subst hb
    cases b2 with
    | true => exact ⟨_, rfl, hr⟩
    | false => rfl
  | wrong => rw [hp] at h1; have h1 : partsL l (o, false) = none := h1; rw [h1]; rfl
  | opn => trivial
theorem dropWhile_head {p : UInt8 → Bool} {l : List UInt8} {x : UInt8} {t : List UInt8} (h : l.dropWhile p = x :: t) : p x = false := by
  induction l with
  | nil => simp at h
  | cons y r ih =>
    cases hp : p y with
    | true => rw [List.dropWhile_cons_of_pos hp] at h; exact ih h
    | false => rw [List.dropWhile_cons_of_neg (by simp [hp])] at h; simp at h; rw [← h.1]; exact hp
theorem trimS_head {l : List UInt8} {x : UInt8} {t : List UInt8} (h : trimS l = x :: t) : Lib.isSp x = false := by
  unfold trimS at h
  have hpre : (((l.dropWhile Lib.isSp).reverse.dropWhile Lib.isSp).reverse) <+: (l.dropWhile Lib.isSp) := by
    have := List.dropWhile_suffix Lib.isSp (l := (l.dropWhile Lib.isSp).reverse)
    have h2 := List.reverse_prefix.2 this
    simpa using h2
  rw [h] at hpre
  obtain ⟨r, hr⟩ := hpre
  exact dropWhile_head (t := t ++ r) (by rw [← hr]; rfl)
theorem trimS_first {l d a : List UInt8} (h : splitL 10 (trimS l) = [d, a]) : d ≠ [] := by
  cases ht : trimS l with
  | nil => rw [ht] at h; simp [splitL] at h
  | cons x t =>
    have hx := trimS_head ht
    have h10 : x ≠ 10 := by rintro rfl; simp [Lib.isSp] at hx
    rw [ht] at h
    simp only [splitL, if_neg h10] at h
    rintro rfl
    split at h <;> simp at h
theorem zero_rel : RelO RuleD.zero Opt.zero := ⟨rfl, rfl, rfl⟩
theorem start_rel (n : Int) : RelO { RuleD.zero with st := n, hs := n != 0 } { Opt.zero with st := (n, 0) } := ⟨by unfold ruleOf RuleD.zero Opt.zero; simp only [isZ_zero]; rfl, rfl, rfl⟩
/-- What the reference makes of a text, the program makes of it, unless it is left open. -/
theorem parS_agree (l : List UInt8) : AgreeR (parS l) (optT l) RelO := by
  unfold parS
  cases ha : ascL l with
  | false => trivial
  | true =>
    simp only [Bool.true_eq_false, if_false]
    unfold optT optU linesT
    rw [trim_asc l ha]
    match hs : splitL 10 (trimS l) with
    | [] => rfl
    | [a] =>
      simp only [restT, lineT, if_true, partsR]
      exact end_agree _ _ _ zero_rel
    | [d, a] =>
      have hd := trimS_first hs
      simp only [restT, lineT, if_neg hd]
      cases hn : lineName d with
      | false => rfl
      | true =>
        simp only [if_true]
        have h1 := start_eq (d.drop 8)
        cases hst : startS (d.drop 8) with
        | right n =>
          rw [hst] at h1
          have h1 : startT (d.drop 8) = some (n, 0) := h1
          rw [h1]
          exact end_agree _ _ _ (start_rel n)
        | wrong => rw [hst] at h1; have h1 : startT (d.drop 8) = none := h1; rw [h1]; rfl
        | opn => trivial
    | a :: b :: c :: t => rfl
end Go.Proofs.YtcfbkkcamiephaaGreatDoor
