import Derived.Test.YtcfbkkcamiephaaGreatDoorP3
import Derived.Test.YtcfbkkcamiephaaGreatDoorF6
namespace Go.Proofs.YtcfbkkcamiephaaGreatDoor
open Go.RowKit

/-! ### what every option that is read meets -/
theorem split_len_lt {c : UInt8} {l : List UInt8} {x : List UInt8} (h : x ∈ splitL c l) : x.length ≤ l.length := split_len h
theorem partsL_inv (P : Opt → Prop) (n : Nat) (hstep : ∀ i v o o', v.length ≤ n → P o → partI i v o = some o' → P o') (ps : List (List UInt8)) (hps : ∀ p ∈ ps, p.length ≤ n) (o : Opt) (b : Bool) (h : P o) (o' : Opt) (b' : Bool)
    (hh : partsL ps (o, b) = some (o', b')) : P o' := by
  induction ps generalizing o b with
  | nil => simp only [partsL, Option.some.injEq, Prod.mk.injEq] at hh; rw [← hh.1]; exact h
  | cons p r ih =>
    simp only [partsL] at hh
    cases hp : partT p (o, b) with
    | none => rw [hp] at hh; cases hh
    | some q =>
      rw [hp] at hh
      obtain ⟨o1, b1⟩ := q
      refine ih (fun x hx => hps x (List.mem_cons_of_mem _ hx)) o1 b1 ?_ hh
      unfold partT at hp
      match hs : splitL 61 p with
      | [] => rw [hs] at hp; cases hp
      | [k] => rw [hs] at hp; cases hp
      | [k, v] =>
        rw [hs] at hp
        simp only at hp
        by_cases hv : v = []
        · rw [if_pos hv] at hp; cases hp
        · rw [if_neg hv] at hp
          cases hpi : partI (keyI k) v o with
          | none => rw [hpi] at hp; cases hp
          | some o2 =>
            rw [hpi] at hp
            simp only [Option.map_some, Option.some.injEq, Prod.mk.injEq] at hp
            rw [← hp.1]
            exact hstep _ v o o2 (Nat.le_trans (split_len (c := 61) (by rw [hs]; simp)) (hps p (by simp))) h hpi
      | a :: b :: c :: t => rw [hs] at hp; cases hp
theorem optT_inv (P : Opt → Prop) (l : List UInt8) (h0 : ∀ s, P { Opt.zero with st := s }) (hstep : ∀ i v o o', v.length ≤ l.length → P o → partI i v o = some o' → P o') (o : Opt) (h : optT l = some o) : P o := by
  have htl := trimSpaceD_len l
  unfold optT optU at h
  cases hS : linesT (Lib.trimSpaceD l) with
  | none => rw [hS] at h; cases h
  | some da =>
    obtain ⟨d, a⟩ := da
    rw [hS] at h
    have hm := linesT_mem hS
    have hp := trimPrefix_len a [82, 82, 85, 76, 69, 58]
    simp only [restT] at h
    cases hL : lineT d with
    | none => rw [hL] at h; cases h
    | some s =>
      rw [hL] at h
      simp only [partsR] at h
      cases hq : partsL (splitL 59 (Lib.trimPrefix a [82, 82, 85, 76, 69, 58])) ({ Opt.zero with st := s }, false) with
      | none => rw [hq] at h; cases h
      | some q =>
        obtain ⟨o1, b1⟩ := q
        rw [hq] at h
        simp only at h
        cases b1 with
        | false => cases h
        | true =>
          simp only [if_true, Option.some.injEq] at h
          rw [← h]
          exact partsL_inv P l.length hstep _ (fun x hx => Nat.le_trans (split_len hx) (by omega)) _ _ (h0 s) _ _ hq
theorem freqT_in {l : List UInt8} {x : Int} (h : freqT l = some x) : 0 ≤ x ∧ x ≤ 6 := by
  rcases freq_cases l with ⟨j, hj, _, hf⟩ | ⟨_, hf⟩
  · rw [hf] at h; simp only [Option.some.injEq] at h; omega
  · rw [hf] at h; cases h
theorem daysL_len {ps : List (List UInt8)} {ds : List (Int × Int)} (h : daysL ps = some ds) : ds.length = ps.length := by
  induction ps generalizing ds with
  | nil => simp only [daysL, Option.some.injEq] at h; rw [← h]; rfl
  | cons p r ih =>
    simp only [daysL] at h
    cases hd : dayT p with
    | none => rw [hd] at h; cases h
    | some n =>
      rw [hd] at h
      cases hr : daysL r with
      | none => rw [hr] at h; cases h
      | some ds2 => rw [hr] at h; simp only [Option.map_some, Option.some.injEq] at h; rw [← h, List.length_cons, ih hr]; rfl
theorem daysT_len {l : List UInt8} {ds : List (Int × Int)} (h : daysT l = some ds) : ds.length ≤ l.length + 1 := by
  rw [daysL_len h]; exact splitL_len 44 l
structure OptRd (n : Nat) (o : Opt) : Prop where
  fq : 0 ≤ o.fq ∧ o.fq ≤ 6
  dy : o.dy.length ≤ n + 1
theorem optT_rd (l : List UInt8) (o : Opt) (h : optT l = some o) : OptRd l.length o := by
  refine optT_inv (OptRd l.length) l (fun s => ⟨by simp [Opt.zero], by simp [Opt.zero]⟩) ?_ o h
  intro i v o o' hv hP hi
  match i with
  | 0 =>
    simp only [partI] at hi
    cases hf : freqT v with
    | none => rw [hf] at hi; cases hi
    | some x => rw [hf] at hi; simp only [Option.map_some, Option.some.injEq] at hi; rw [← hi]; exact ⟨freqT_in hf, hP.dy⟩
  | 1 => simp only [partI, Option.map_eq_some_iff] at hi; obtain ⟨x, _, rfl⟩ := hi; exact ⟨hP.fq, hP.dy⟩
  | 2 => simp only [partI, Option.map_eq_some_iff] at hi; obtain ⟨x, _, rfl⟩ := hi; exact ⟨hP.fq, hP.dy⟩
  | 3 => simp only [partI, Option.map_eq_some_iff] at hi; obtain ⟨x, _, rfl⟩ := hi; exact ⟨hP.fq, hP.dy⟩
  | 4 => simp only [partI, Option.map_eq_some_iff] at hi; obtain ⟨x, _, rfl⟩ := hi; exact ⟨hP.fq, hP.dy⟩
  | 5 => simp only [partI, Option.map_eq_some_iff] at hi; obtain ⟨x, _, rfl⟩ := hi; exact ⟨hP.fq, hP.dy⟩
  | 6 => simp only [partI, Option.map_eq_some_iff] at hi; obtain ⟨x, _, rfl⟩ := hi; exact ⟨hP.fq, hP.dy⟩
  | 7 => simp only [partI, Option.map_eq_some_iff] at hi; obtain ⟨x, _, rfl⟩ := hi; exact ⟨hP.fq, hP.dy⟩
  | 8 => simp only [partI, Option.map_eq_some_iff] at hi; obtain ⟨x, _, rfl⟩ := hi; exact ⟨hP.fq, hP.dy⟩
  | 9 => simp only [partI, Option.map_eq_some_iff] at hi; obtain ⟨x, _, rfl⟩ := hi; exact ⟨hP.fq, hP.dy⟩
  | 10 => simp only [partI, Option.map_eq_some_iff] at hi; obtain ⟨x, _, rfl⟩ := hi; exact ⟨hP.fq, hP.dy⟩
  | 11 =>
    simp only [partI, Option.map_eq_some_iff] at hi
    obtain ⟨x, hx, rfl⟩ := hi
    exact ⟨hP.fq, by have := daysT_len hx; show x.length ≤ _; omega⟩
  | 12 => simp only [partI, Option.map_eq_some_iff] at hi; obtain ⟨x, _, rfl⟩ := hi; exact ⟨hP.fq, hP.dy⟩
  | 13 => simp only [partI, Option.map_eq_some_iff] at hi; obtain ⟨x, _, rfl⟩ := hi; exact ⟨hP.fq, hP.dy⟩
  | 14 => simp only [partI, Option.map_eq_some_iff] at hi; obtain ⟨x, _, rfl⟩ := hi; exact ⟨hP.fq, hP.dy⟩
  | 15 => simp only [partI, Option.map_eq_some_iff] at hi; obtain ⟨x, _, rfl⟩ := hi; exact ⟨hP.fq, hP.dy⟩
  | (n + 16) => simp only [partI] at hi; cases hi
end Go.Proofs.YtcfbkkcamiephaaGreatDoor
