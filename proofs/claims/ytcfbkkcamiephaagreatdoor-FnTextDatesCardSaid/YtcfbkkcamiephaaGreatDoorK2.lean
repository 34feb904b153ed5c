import Derived.Test.YtcfbkkcamiephaaGreatDoorP1
import Derived.Test.YtcfbkkcamiephaaGreatDoorR1
namespace Go.Proofs.YtcfbkkcamiephaaGreatDoor
open Go.RowKit

/-! ### THE PLAIN LAWS OF DATES WITH COMMAS BETWEEN THEM -/
def vdt : List UInt8 := [86, 65, 76, 85, 69, 61, 68, 65, 84, 69, 45, 84, 73, 77, 69]
def vd : List UInt8 := [86, 65, 76, 85, 69, 61, 68, 65, 84, 69]
def tzU : List UInt8 := [84, 90, 73, 68, 61, 85, 84, 67]
/-- may it stand ahead of the dates? -/
def parOk (x : List UInt8) : Bool := if Lib.hasPrefix x tzid then tzOk x else x == vdt || x == vd
def timesL : List (List UInt8) → Option (List (Int × Int))
  | [] => some []
  | x :: r => match timeT x with
    | none => none
    | some p => (timesL r).map fun l => p :: l
/-- What the program makes of dates. -/
def datesT (l : List UInt8) : Option (List (Int × Int)) := match splitL 58 l with
  | [a] => timesL (splitL 44 a)
  | [p, a] => if (splitL 59 p).all parOk then timesL (splitL 44 a) else none
  | _ => none
def momsO : List (List UInt8) → Out (List Int)
  | [] => .right []
  | x :: r => match momS x with
    | .right n => (match momsO r with
      | .right l => .right (n :: l)
      | .wrong => .wrong
      | .opn => .opn)
    | .wrong => .wrong
    | .opn => .opn
def parsO : List (List UInt8) → Out Unit
  | [] => .right ()
  | x :: r => if x = tzU ∨ x = vdt ∨ x = vd then parsO r else if Lib.hasPrefix x tzid then .opn else .wrong
/-- What the reference makes of them. -/
def datesO (l : List UInt8) : Out (List Int) := if ascL l = false then .opn else match splitL 58 l with
  | [a] => momsO (splitL 44 a)
  | [p, a] => (match parsO (splitL 59 p) with
    | .right _ => momsO (splitL 44 a)
    | .wrong => .wrong
    | .opn => .opn)
  | _ => .wrong
theorem moms_agree (L : List (List UInt8)) : Agree (momsO L) (timesL L) (fun l => l.map fun n => (n, 0)) := by
  induction L with
  | nil => rfl
  | cons x r ih =>
    have hx := moment_eq x
    unfold momsO timesL
    cases hm : momS x with
    | right n =>
      rw [hm] at hx
      have hx : timeT x = some (n, 0) := hx
      rw [hx]
      cases hr : momsO r with
      | right l =>
        rw [hr] at ih
        have ih : timesL r = some (l.map fun n => (n, 0)) := ih
        show (timesL r).map _ = some _
        rw [ih]; rfl
      | wrong =>
        rw [hr] at ih
        have ih : timesL r = none := ih
        show (timesL r).map _ = none
        rw [ih]; rfl
      | opn => trivial
    | wrong =>
      rw [hm] at hx
      have hx : timeT x = none := hx
      rw [hx]; rfl
    | opn => trivial
def ParsA (o : Out Unit) (b : Bool) : Prop := match o with
  | .right _ => b = true
  | .wrong => b = false
  | .opn => True
theorem pars_agree (L : List (List UInt8)) : ParsA (parsO L) (L.all parOk) := by
  induction L with
  | nil => rfl
  | cons x r ih =>
    unfold parsO
    rw [List.all_cons]
    split
    · rename_i hx
      have : parOk x = true := by rcases hx with rfl | rfl | rfl <;> decide
      rw [this, Bool.true_and]; exact ih
    · rename_i hx
      split
      · trivial
      · rename_i hp
        have : parOk x = false := by
          unfold parOk
          rw [if_neg hp]
          simp only [Bool.or_eq_false_iff, beq_eq_false_iff_ne]
          exact ⟨fun e => hx (.inr (.inl e)), fun e => hx (.inr (.inr e))⟩
        rw [this]; rfl
theorem dates_agree (l : List UInt8) : Agree (datesO l) (datesT l) (fun l => l.map fun n => (n, 0)) := by
  unfold datesO datesT
  split
  · trivial
  · match splitL 58 l with
    | [] => rfl
    | [a] => exact moms_agree _
    | [p, a] =>
      have hp := pars_agree (splitL 59 p)
      simp only
      cases ho : parsO (splitL 59 p) with
      | right u =>
        rw [ho] at hp
        have hp : (splitL 59 p).all parOk = true := hp
        rw [if_pos hp]
        exact moms_agree _
      | wrong =>
        rw [ho] at hp
        have hp : (splitL 59 p).all parOk = false := hp
        rw [if_neg (by simp [hp])]; rfl
      | opn => trivial
    | a :: b :: c :: r => rfl
/-! #### moments in their forms -/
theorem zero_clock (s : Int) (h : InTime s) (hd : (stampS s).drop 8 = [84, 48, 48, 48, 48, 48, 48, 90]) : s % 86400 = 0 := by
  have c := civ_of s h
  have hy := yearS_in s h
  have c1 := c.m0; have c2 := c.m1; have c3 := c.d0; have c4 := c.d1; have c5 := mdays_bd (monS s) (yearS s)
  have c6 := c.h0; have c7 := c.h1; have c8 := c.n0; have c9 := c.n1; have c10 := c.s0; have c11 := c.s1
  have e : stampS s = (padL 4 (yearS s) ++ (padL 2 (monS s) ++ padL 2 (dayS s))) ++ (84 :: (padL 2 (s % 86400 / 3600) ++ (padL 2 (s % 86400 / 60 % 60) ++ (padL 2 (s % 86400 % 60) ++ [90])))) := by
    unfold stampS stampL; simp only [List.append_assoc, List.cons_append, List.nil_append]
  have hlen : (padL 4 (yearS s) ++ (padL 2 (monS s) ++ padL 2 (dayS s))).length = 8 := by
    simp only [List.length_append, padL_len4 _ hy.1 hy.2, padL_len2 (monS s) (by omega) (by omega), padL_len2 (dayS s) (by omega) (by omega)]
  rw [e, List.drop_left' hlen] at hd
  injection hd with _ hd
  have l1 := padL_len2 (s % 86400 / 3600) (by omega) (by omega)
  have l2 := padL_len2 (s % 86400 / 60 % 60) (by omega) (by omega)
  have l3 := padL_len2 (s % 86400 % 60) (by omega) (by omega)
  obtain ⟨e1, hd⟩ := List.append_inj (s₂ := [48, 48]) (t₂ := [48, 48, 48, 48, 90]) hd (by rw [l1]; rfl)
  obtain ⟨e2, hd⟩ := List.append_inj (s₂ := [48, 48]) (t₂ := [48, 48, 90]) hd (by rw [l2]; rfl)
  obtain ⟨e3, hd⟩ := List.append_inj (s₂ := [48, 48]) (t₂ := [90]) hd (by rw [l3]; rfl)
  have n1 := (padL_spec 2 (s % 86400 / 3600) (by omega)).2
  have n2 := (padL_spec 2 (s % 86400 / 60 % 60) (by omega)).2
  have n3 := (padL_spec 2 (s % 86400 % 60) (by omega)).2
  have z : numFrom 0 [48, 48] = 0 := by decide
  rw [e1, z] at n1
  rw [e2, z] at n2
  rw [e3, z] at n3
  omega
/-- A moment in one of its forms. -/
def formT (n : Int) (f : Nat) : List UInt8 := if f % 3 = 1 then (stampS n).take 15 else if f % 3 = 2 ∧ (stampS n).drop 8 = [84, 48, 48, 48, 48, 48, 48, 90] then (stampS n).take 8 else stampS n
theorem form_back (n : Int) (h : InTime n) (f : Nat) : timeT (formT n f) = some (n, 0) ∧ PL (formT n f) := by
  have hp := stampS_PL n h
  unfold formT
  split
  · exact ⟨time_bare n h, fun c hc => hp c (List.mem_of_mem_take hc)⟩
  · split
    · rename_i hh
      exact ⟨time_date n h (zero_clock n h hh.2), fun c hc => hp c (List.mem_of_mem_take hc)⟩
    · exact ⟨time_back n h, hp⟩
theorem form_len (n : Int) (h : InTime n) (f : Nat) : (formT n f).length ≤ 16 := by
  have hl := stampS_len n h
  unfold formT
  split
  · rw [List.length_take]; omega
  · split
    · rw [List.length_take]; omega
    · omega
theorem times_map {α : Type} (L : List α) (g : α → List UInt8) (k : α → Int × Int) (h : ∀ i ∈ L, timeT (g i) = some (k i)) : timesL (L.map g) = some (L.map k) := by
  induction L with
  | nil => rfl
  | cons x r ih =>
    simp only [List.map_cons, timesL]
    rw [h x (by simp), ih (fun i hi => h i (by simp [hi]))]; rfl
theorem dates_split {L : List (List UInt8)} (hne : L ≠ []) (hp : ∀ x ∈ L, PL x) : datesT (Lib.join L [44]) = timesL L ∧ ∀ P : List UInt8, (58 : UInt8) ∉ P → (splitL 59 P).all parOk = true → datesT (P ++ 58 :: Lib.join L [44]) = timesL L := by
  have h58 : (58 : UInt8) ∉ Lib.join L [44] := fun hc => by
    rcases join_mem hc with h | ⟨x, hx, h⟩
    · exact absurd h (by decide)
    · exact (hp x hx).no (by decide) h
  have hs : splitL 44 (Lib.join L [44]) = L := split_join 44 L hne (fun x hx => (hp x hx).no (by decide))
  constructor
  · unfold datesT
    rw [split_no 58 _ h58]
    simp only [hs]
  · intro P h1 h2
    unfold datesT
    rw [split_app 58 P _ h1, split_no 58 _ h58]
    simp only [hs, if_pos h2]
/-- what stands in front of dates -/
def frontL : Nat → List UInt8
  | 2 => vdt ++ [58]
  | 3 => tzU ++ [58]
  | 4 => vdt ++ 59 :: tzU ++ [58]
  | 5 => tzU ++ 59 :: vd ++ [58]
  | _ => []
def gForm (ns : List Int) (fs : List Nat) (i : Nat) : List UInt8 := formT (ns.getD i 0) (fs.getD i 0)
/-- Dates in their forms are read as these dates. -/
theorem dates_back (ns : List Int) (fs : List Nat) (h0 : ns ≠ []) (h : ∀ n ∈ ns, InTime n) (f : Nat) :
    datesT (frontL f ++ Lib.join ((List.range ns.length).map (gForm ns fs)) [44]) = some (ns.map fun n => (n, 0)) := by
  have hin : ∀ i, i < ns.length → InTime (ns.getD i 0) := fun i hi => by
    rw [List.getD_eq_getElem?_getD, List.getElem?_eq_getElem hi]; exact h _ (List.getElem_mem hi)
  have ht : timesL ((List.range ns.length).map (gForm ns fs)) = some (ns.map fun n => (n, 0)) := by
    rw [times_map (List.range ns.length) (gForm ns fs) (fun i => (ns.getD i 0, 0)) (fun i hi => (form_back _ (hin i (List.mem_range.1 hi)) _).1)]
    congr 1
    refine List.ext_getElem (by simp) (fun i h1 h2 => ?_)
    have hi : i < ns.length := by simpa using h1
    simp [List.getD_eq_getElem?_getD, List.getElem?_eq_getElem hi]
  have hne : (List.range ns.length).map (gForm ns fs) ≠ [] := by
    intro e
    have := congrArg List.length e
    simp at this
    exact h0 this
  obtain ⟨k1, k2⟩ := dates_split hne (fun x hx => by
    obtain ⟨i, hi, rfl⟩ := List.mem_map.1 hx
    exact (form_back _ (hin i (List.mem_range.1 hi)) _).2)
  have hf : ∀ P : List UInt8, (58 : UInt8) ∉ P → (splitL 59 P).all parOk = true → datesT (P ++ [58] ++ Lib.join ((List.range ns.length).map (gForm ns fs)) [44]) = some (ns.map fun n => (n, 0)) := fun P a b => by
    rw [List.append_assoc, List.singleton_append, k2 P a b, ht]
  match f with
  | 0 => exact k1.trans ht
  | 1 => exact k1.trans ht
  | 2 => exact hf vdt (by decide) (by decide)
  | 3 => exact hf tzU (by decide) (by decide)
  | 4 => exact hf (vdt ++ 59 :: tzU) (by decide) (by decide)
  | 5 => exact hf (tzU ++ 59 :: vd) (by decide) (by decide)
  | (n + 6) => exact k1.trans ht
end Go.Proofs.YtcfbkkcamiephaaGreatDoor
