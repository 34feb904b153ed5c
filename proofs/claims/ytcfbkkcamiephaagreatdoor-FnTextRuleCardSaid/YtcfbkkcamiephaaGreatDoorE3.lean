import Derived.Test.YtcfbkkcamiephaaGreatDoorE2
namespace Go.Proofs.YtcfbkkcamiephaaGreatDoor
open Go.RowKit

/-! ### a name of ASCII is no longer than the line -/
theorem enc_first (r : Int) (h : 0 ≤ r) : (∃ b, Lib.encodeRune r = [b]) ∨ ∃ b t, Lib.encodeRune r = b :: t ∧ 128 ≤ b.toNat := by
  unfold Lib.encodeRune Lib.encodeRuneZ
  split
  · left; exact ⟨_, rfl⟩
  · right
    split
    · refine ⟨_, _, rfl, ?_⟩
      have : 192 ≤ (192 + r / 64).toNat ∧ (192 + r / 64).toNat < 256 := by omega
      simp [Nat.toUInt8, UInt8.toNat_ofNat', Nat.mod_eq_of_lt this.2]; omega
    · split
      · refine ⟨_, _, rfl, ?_⟩
        have : 128 ≤ (224 + r / 4096).toNat ∧ (224 + r / 4096).toNat < 256 := by omega
        simp [Nat.toUInt8, UInt8.toNat_ofNat', Nat.mod_eq_of_lt this.2]; omega
      · split
        · refine ⟨_, _, rfl, ?_⟩
          have : 128 ≤ (240 + r / 262144).toNat ∧ (240 + r / 262144).toNat < 256 := by omega
          simp [Nat.toUInt8, UInt8.toNat_ofNat', Nat.mod_eq_of_lt this.2]; omega
        · exact ⟨_, _, rfl, by decide⟩
theorem mapGoD_asc (f : Int → Int) (n : Nat) (l : List UInt8) (k : Nat) (h : ∀ i, i < k → ∃ b, (Lib.mapGoD f n l)[i]? = some b ∧ b.toNat < 128) : k ≤ l.length := by
  induction n generalizing l k with
  | zero =>
    cases k with
    | zero => omega
    | succ k => obtain ⟨b, hb, _⟩ := h 0 (by omega); simp [Lib.mapGoD] at hb
  | succ n ih =>
    cases k with
    | zero => omega
    | succ k =>
      simp only [Lib.mapGoD] at h
      by_cases hl : l = []
      · obtain ⟨b, hb, _⟩ := h 0 (by omega); rw [if_pos hl] at hb; simp at hb
      · rw [if_neg hl] at h
        have hw := Lib.decodeL_width l
        have hpos := List.length_pos_iff.2 hl
        by_cases hf : 0 ≤ f (Lib.decodeL l).1
        · rw [if_pos hf] at h
          rcases enc_first _ hf with ⟨b, he⟩ | ⟨b, t, he, hb⟩
          · rw [he] at h
            have := ih (l.drop (Lib.decodeL l).2) k (fun i hi => by simpa using h (i + 1) (by omega))
            rw [List.length_drop] at this
            omega
          · rw [he] at h
            obtain ⟨c, hc, hlt⟩ := h 0 (by omega)
            simp at hc; subst hc; omega
        · rw [if_neg hf] at h
          have := ih (l.drop (Lib.decodeL l).2) (k + 1) (fun i hi => by simpa using h i hi)
          rw [List.length_drop] at this
          omega
theorem idxA_hit {cs u : List UInt8} (h : idxA cs u < u.length) : ∃ b, u[idxA cs u]? = some b ∧ b ∈ cs := by
  induction u with
  | nil => simp at h
  | cons x r ih =>
    unfold idxA at h ⊢
    split
    · rename_i hx; exact ⟨x, rfl, by simpa using hx⟩
    · rename_i hx
      rw [if_neg hx] at h
      obtain ⟨b, hb, hm⟩ := ih (by simp at h; omega)
      exact ⟨b, by simpa using hb, hm⟩
theorem lineName_len (d : List UInt8) (h : lineName d = true) : 8 ≤ d.length := by
  unfold lineName nameT at h
  generalize ht : Lib.trimSpaceD d = t at h
  have htl : t.length ≤ d.length := by rw [← ht]; exact trimSpaceD_len d
  refine Nat.le_trans ?_ htl
  unfold Lib.toUpperD Lib.mapD at h
  refine mapGoD_asc Lib.toUpperU t.length t 8 ?_
  generalize Lib.mapGoD Lib.toUpperU t.length t = u at h ⊢
  unfold nameU at h
  split at h
  · simp at h
  · rename_i x hx
    have hx7 : x = [68, 84, 83, 84, 65, 82, 84] := by simpa using h
    split at hx
    · simp at hx
    · split at hx
      · simp at hx
      · rename_i h1
        split at hx
        · simp at hx
        · simp only [Option.some.injEq] at hx
          obtain ⟨_, hlt⟩ := idxAI_take h1
          obtain ⟨b, hb, hm⟩ := idxA_hit hlt
          have h7 : idxA [59, 58] u = 7 := by
            have := congrArg List.length hx
            rw [hx7, List.length_take] at this
            simp at this; omega
          rw [h7] at hb hx
          intro i hi
          by_cases hi7 : i < 7
          · have : u[i]? = x[i]? := by rw [← hx, List.getElem?_take, if_pos hi7]
            rw [this, hx7]
            rcases (show i = 0 ∨ i = 1 ∨ i = 2 ∨ i = 3 ∨ i = 4 ∨ i = 5 ∨ i = 6 by omega) with rfl | rfl | rfl | rfl | rfl | rfl | rfl <;> exact ⟨_, rfl, by decide⟩
          · obtain rfl : i = 7 := by omega
            refine ⟨b, hb, ?_⟩
            rcases List.mem_cons.1 hm with rfl | hm
            · decide
            · rcases List.mem_cons.1 hm with rfl | hm
              · decide
              · simp at hm

/-! ### StrToROptionInLocation -/
def optU (t : List UInt8) : Option Opt := match linesT t with
  | none => none
  | some (d, a) => restT d (Lib.trimPrefix a [82, 82, 85, 76, 69, 58])
def optT (l : List UInt8) : Option Opt := optU (Lib.trimSpaceD l)
theorem linesT_mem {t d a : List UInt8} (h : linesT t = some (d, a)) : d.length ≤ t.length ∧ a.length ≤ t.length := by
  unfold linesT at h
  split at h
  · rename_i a0 hs
    simp only [Option.some.injEq, Prod.mk.injEq] at h
    obtain ⟨rfl, rfl⟩ := h
    exact ⟨by simp, split_len (c := 10) (by rw [hs]; simp)⟩
  · rename_i d0 a0 hs
    simp only [Option.some.injEq, Prod.mk.injEq] at h
    obtain ⟨rfl, rfl⟩ := h
    exact ⟨split_len (c := 10) (by rw [hs]; simp), split_len (c := 10) (by rw [hs]; simp)⟩
  · simp at h
theorem trimPrefix_len (l p : List UInt8) : (Lib.trimPrefix l p).length ≤ l.length := by
  unfold Lib.trimPrefix
  split
  · rw [List.length_drop]; omega
  · exact Nat.le_refl _
set_option maxRecDepth 100000 in
set_option maxHeartbeats 1600000 in
theorem opt_lines (l t : List UInt8) (w : World) (hG : Good w)
    (h1 : Hid (∀ w, Good w → Calls Tryz.prog 113 #[.string (mkS l)] w fun e w' => e = .returned (.string (mkS t)) ∧ Below w.heap.size w w'))
    (h2 : Hid (∀ w, Calls Tryz.prog 107 #[.string (mkS t), .string ⟨#[10]⟩] w (SplitPost w ((splitL 10 t).map mkS))))
    (hq1 : (((splitL 10 t).length : Int) == 1) = false) (hq2 : (((splitL 10 t).length : Int) == 2) = false) :
    Calls Tryz.prog 92 #[.string (mkS l), .agg #[]] w (OptPost w none) := by
  go_enter Tryz.func92, Tryz.ntmps92
  go_wp2_with (first
    | (go_at_call 113; go_must (refine (h1.out _ (hG.alloc _)).mono ?_; rintro e w1 ⟨rfl, hb1⟩))
    | (go_at_call 107; go_must (refine (h2.out _).mono ?_; rintro e w2 ⟨g, cc, rfl, hg, hrow, hb2⟩; rw [List.length_map]))
    | (go_at_call 108; go_must (refine (errNew_any _ _).mono ?_; rintro e w6 ⟨T6, p6, rfl, hb6⟩)))
  go_ret2
  have HB2 : Below w.heap.size w w2 := ((Below.refl _ _).alloc (Nat.le_refl _) _).trans ((hb1.trans (hb2.mono hb1.size)).mono (by simp))
  exact opt_no rfl rfl (HB2.trans (hb6.mono HB2.size))
theorem opt_any (l : List UInt8) (w : World) (hG : Good w) (hl : l.length ≤ 1000000) : Calls Tryz.prog 92 #[.string (mkS l), .agg #[]] w (OptPost w (optT l)) := by
  have htl := trimSpaceD_len l
  have h1 : Hid (∀ w, Good w → Calls Tryz.prog 113 #[.string (mkS l)] w fun e w' => e = .returned (.string (mkS (Lib.trimSpaceD l))) ∧ Below w.heap.size w w') := fun w hG => trim_any l w (by omega) hG
  unfold optT
  generalize Lib.trimSpaceD l = t at *
  have h2 : Hid (∀ w, Calls Tryz.prog 107 #[.string (mkS t), .string ⟨#[10]⟩] w (SplitPost w ((splitL 10 t).map mkS))) := fun w => splitC_any t 10 w (by omega)
  cases hS : linesT t with
  | none =>
    have hne := splitL_ne 10 t
    have hn1 : ((splitL 10 t).length ≠ 1) ∧ (splitL 10 t).length ≠ 2 := by
      unfold linesT at hS
      split at hS
      · simp at hS
      · simp at hS
      · rename_i h1 h2
        constructor
        · intro h
          match hh : splitL 10 t, h with
          | [a], _ => exact h1 a hh
        · intro h
          match hh : splitL 10 t, h with
          | [a, b], _ => exact h2 a b hh
    have hU : optU t = none := by unfold optU; rw [hS]
    rw [hU]
    exact opt_lines l t w hG h1 h2 (by rw [beq_eq_false_iff_ne]; omega) (by rw [beq_eq_false_iff_ne]; omega)
  | some da =>
    obtain ⟨d, a⟩ := da
    have hm := linesT_mem hS
    have hp := trimPrefix_len a [82, 82, 85, 76, 69, 58]
    have hU : optU t = restT d (Lib.trimPrefix a [82, 82, 85, 76, 69, 58]) := by unfold optU; rw [hS]
    rw [hU]
    exact opt_walk l t d a (Lib.trimPrefix a [82, 82, 85, 76, 69, 58]) w hG _ h1 h2 (Lib.hid hS) (fun w hG => name_any d w (by omega) hG) (fun w => start_any (d.drop 8) w (by rw [List.length_drop]; omega)) (Lib.hid rfl) (Lib.hid ⟨by omega, lineName_len d⟩) (Lib.hid rfl)
theorem utc_any (w : World) : Calls Tryz.prog 78 #[] w fun e w' => e = .returned (.agg #[]) ∧ w' = w.alloc (.cells #[] 120) := by
  go_enter Tryz.func78, Tryz.ntmps78
  go_wp2
  exact bodyPost_ret (v := .agg #[]) (by simp [results, Tryz.results78, go_sem]) rfl ⟨rfl, rfl⟩
/-- StrToROption. -/
theorem opt59_any (l : List UInt8) (w : World) (hG : Good w) (hl : l.length ≤ 1000000) : Calls Tryz.prog 59 #[.string (mkS l)] w (OptPost w (optT l)) := by
  have h := opt_any l
  generalize optT l = R at *
  have H : Hid (∀ w, Good w → Calls Tryz.prog 92 #[.string (mkS l), .agg #[]] w (OptPost w R)) := fun w hG => h w hG hl
  clear h
  go_enter Tryz.func59, Tryz.ntmps59
  cases R with
  | none =>
    go_wp2_with (first
      | (go_at_call 92; go_must (refine (H.out _ (hG.alloc _)).mono ?_; rintro e w1 ⟨hb, T, p, rfl⟩))
      | (go_at_call 78; go_must (refine (utc_any _).mono ?_; rintro e w0 ⟨rfl, rfl⟩)))
    go_ret2
    exact opt_no rfl rfl (((Below.refl _ _).alloc (Nat.le_refl _) _).trans (hb.mono (by simp)))
  | some o =>
    go_wp2_with (first
      | (go_at_call 92; go_must (refine (H.out _ (hG.alloc _)).mono ?_; rintro e w1 ⟨hb, N, rfl, ho⟩))
      | (go_at_call 78; go_must (refine (utc_any _).mono ?_; rintro e w0 ⟨rfl, rfl⟩)))
    go_ret2
    exact opt_ok rfl rfl (((Below.refl _ _).alloc (Nat.le_refl _) _).trans (hb.mono (by simp))) ho
end Go.Proofs.YtcfbkkcamiephaaGreatDoor
