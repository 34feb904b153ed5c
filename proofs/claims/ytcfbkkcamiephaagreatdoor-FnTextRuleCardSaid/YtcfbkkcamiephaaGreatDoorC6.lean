import Derived.Test.YtcfbkkcamiephaaGreatDoorC4
import Derived.Test.YtcfbkkcamiephaaGreatDoorC5
namespace Go.Proofs.YtcfbkkcamiephaaGreatDoor
open Go.RowKit
set_option maxRecDepth 100000 in
set_option maxHeartbeats 1600000 in
theorem parse_d (l l1 l2 l3 : List UInt8) (y m d : Int) (w : World) (hl : l.length ≤ 1000000000) (h1 : takeD 4 l = some (y, l1)) (h2 : takeD 2 l1 = some (m, l2)) (m1 : 1 ≤ m) (m2 : m ≤ 12) (h3 : takeD 2 l2 = some (d, l3)) (R : Option (Int × Int)) (hR : parseTail y m d 0 0 0 0 (l3 == []) = R) :
    Calls Tryz.prog 145 #[.string ⟨#[50, 48, 48, 54, 48, 49, 48, 50]⟩, .string (mkS l)] w (ParsePost w R) := by
  obtain ⟨y0, y1⟩ := takeD_bd h1
  obtain ⟨d0, d1⟩ := takeD_bd h3
  have hl1 : l1.length ≤ 1000000000 := Nat.le_trans (takeD_len h1) hl
  have H1 := Lib.hid h1; clear h1
  have hl2 : l2.length ≤ 1000000000 := Nat.le_trans (takeD_len h2) hl1
  have H2 := Lib.hid h2; clear h2
  have hl3 : l3.length ≤ 1000000000 := Nat.le_trans (takeD_len h3) hl2
  have H3 := Lib.hid h3; clear h3
  have HR := Lib.hid hR; clear hR
  have hL : (mkS l3).toList = l3 := by rw [Lib.toList_data]; rfl
  go_enter Tryz.func145, Tryz.ntmps145
  go_wp2_with (first | (go_at_call 167; (with_reducible refine (dig4y l l1 y _ hl H1.out).mono ?_); rintro e w' ⟨rfl, ⟨q1, rfl⟩⟩) | (go_at_call 167; (with_reducible refine (dig2y l1 l2 m _ hl1 H2.out).mono ?_); rintro e w' ⟨rfl, ⟨q2, rfl⟩⟩) | (go_at_call 167; (with_reducible refine (dig2y l2 l3 d _ hl2 H3.out).mono ?_); rintro e w' ⟨rfl, ⟨q3, rfl⟩⟩) | (go_at_call 160; refine (monthDays_any m y _).mono ?_; rintro e w' ⟨rfl, rfl⟩) | (go_at_call 134; refine (date_any y m d 0 0 0 _ (by omega) (by omega) m1 m2 (by omega) (by omega) (by omega) (by omega) (by omega) (by omega) (by omega) (by omega) 0 (by omega) (by omega)).mono ?_; rintro e w4 ⟨rfl, hb4⟩; have hc4 := cell_below hb4 (a := ⟨w.heap.size, 0, none⟩) (v := .int .i64 0) (by simp); have hd4 := cell_below hb4 (a := ⟨w.heap.size, 1, none⟩) (v := .int .i64 0) (by simp); have hf4 := frozen_below hb4 (a := ⟨w.heap.size, 0, none⟩) (by simp <;> omega) (by simp); have hg4 := frozen_below hb4 (a := ⟨w.heap.size, 1, none⟩) (by simp <;> omega) (by simp)) | (go_at_call 108; go_in))
  all_goals first
    | (refine bodyPost_ret (v := .tuple #[.agg #[.int .i64 0, .int .i64 0], .iface 194 (.pointer (some ⟨w.heap.size + 1, 0, none⟩))]) (by simp [results, Tryz.results145, go_sem]) rfl (post_fail (HR.out.symm.trans (parseTail_none ?_)) ⟨_, _, rfl, ?_⟩)
       · first | (left; simpa using ‹¬ _ = _›) | (right; omega)
       · repeat (first | exact Below.refl _ _ | refine Below.setCell ?_ (by simp) _ | refine below_drewN ?_ _ | refine Below.alloc ?_ (by simp) _))
    | (refine bodyPost_ret (v := .tuple #[.agg #[.int .i64 (dayNum y m d * 86400 + 0 * 3600 + 0 * 60 + 0), .int .i64 0], .nilIface]) (by simp [results, Tryz.results145, go_sem, hc4, hd4]) rfl (post_ok (HR.out.symm.trans (parseTail_some (by simp [*]) (by omega) (by omega))) rfl ?_)
       refine Below.setCell (Below.setCell (Below.trans ?_ (hb4.mono (by simp; omega))) (by simp) _) (by simp) _
       repeat (first | exact Below.refl _ _ | refine Below.setCell ?_ (by simp) _ | refine below_drewN ?_ _ | refine Below.alloc ?_ (by simp) _))

theorem fail_post {w : World} {R : Option (Int × Int)} {f : FuncId} {vs : Array Value} (hR : R = none) (h : Calls Tryz.prog f vs w (ParseFail w)) : Calls Tryz.prog f vs w (ParsePost w R) :=
  h.mono fun _ _ hp => post_fail hR hp
theorem parse_date (l : List UInt8) (w : World) (hl : l.length ≤ 1000000000) :
    Calls Tryz.prog 145 #[.string ⟨#[50, 48, 48, 54, 48, 49, 48, 50]⟩, .string (mkS l)] w (ParsePost w (parseT none l)) := by
  cases h1 : takeD 4 l with
  | none => exact fail_post (by simp [parseT, h1]) (parse_f1 _ l w hl h1)
  | some p =>
    obtain ⟨y, l1⟩ := p
    cases h2 : takeD 2 l1 with
    | none => exact fail_post (by simp [parseT, h1, h2]) (parse_f2 _ l l1 y w hl h1 h2)
    | some p =>
      obtain ⟨m, l2⟩ := p
      by_cases m1 : m < 1
      · exact fail_post (by simp [parseT, h1, h2, m1]) (parse_f2a _ l l1 l2 y m w hl h1 h2 m1)
      · by_cases m2 : 12 < m
        · exact fail_post (by simp [parseT, h1, h2, m2]) (parse_f2b _ l l1 l2 y m w hl h1 h2 m2)
        · cases h3 : takeD 2 l2 with
          | none => exact fail_post (by simp [parseT, h1, h2, h3]) (parse_f3 _ l l1 l2 y m w hl h1 h2 (by omega) (by omega) h3)
          | some p =>
            obtain ⟨d, l3⟩ := p
            refine parse_d l l1 l2 l3 y m d w hl h1 h2 (by omega) (by omega) h3 _ ?_
            simp only [parseT, h1, h2, h3]
            rw [if_neg (by omega)]
theorem frac_no {l : List UInt8} (h : fracB l = false) : frac l = (0, l) := by unfold frac; rw [h]; rfl
theorem parse_time (L L7 : ByteArray) (z l : List UInt8) (w : World) (hl : l.length ≤ 1000000000) (hL : Lay L L7 z) :
    Calls Tryz.prog 145 #[.string L, .string (mkS l)] w (ParsePost w (parseT (some z) l)) := by
  cases h1 : takeD 4 l with
  | none => exact fail_post (by simp [parseT, h1]) (parse_f1 _ l w hl h1)
  | some p =>
    obtain ⟨y, l1⟩ := p
    cases h2 : takeD 2 l1 with
    | none => exact fail_post (by simp [parseT, h1, h2]) (parse_f2 _ l l1 y w hl h1 h2)
    | some p =>
      obtain ⟨m, l2⟩ := p
      by_cases m1 : m < 1
      · exact fail_post (by simp [parseT, h1, h2, m1]) (parse_f2a _ l l1 l2 y m w hl h1 h2 m1)
      by_cases m2 : 12 < m
      · exact fail_post (by simp [parseT, h1, h2, m2]) (parse_f2b _ l l1 l2 y m w hl h1 h2 m2)
      cases h3 : takeD 2 l2 with
      | none => exact fail_post (by simp [parseT, h1, h2, h3]) (parse_f3 _ l l1 l2 y m w hl h1 h2 (by omega) (by omega) h3)
      | some p =>
        obtain ⟨d, l3⟩ := p
        have m1' : 1 ≤ m := by omega
        have m2' : m ≤ 12 := by omega
        have hmm : ¬ (m < 1 ∨ 12 < m) := by omega
        cases l3 with
        | nil => exact fail_post (by simp only [parseT, h1, h2, h3]; rw [if_neg hmm]) (parse_t0 L L7 z l l1 l2 y m d w hl hL h1 h2 m1' m2' h3)
        | cons t l4 =>
          by_cases ht : t.toNat = 84
          · have ht' : ¬ (t.toNat ≠ 84) := by omega
            cases h4 : takeD 2 l4 with
            | none => exact fail_post (by simp only [parseT, h1, h2, h3, h4]; rw [if_neg hmm, if_neg ht']) (parse_t2 L L7 z l l1 l2 y m d t l4 w hl hL h1 h2 m1' m2' h3 ht h4)
            | some p =>
              obtain ⟨hh, l5⟩ := p
              by_cases hb : 23 < hh
              · exact fail_post (by simp only [parseT, h1, h2, h3, h4]; rw [if_neg hmm, if_neg ht', if_pos hb]) (parse_t3 L L7 z l l1 l2 y m d t l4 l5 hh w hl hL h1 h2 m1' m2' h3 ht h4 hb)
              have hb' : hh ≤ 23 := by omega
              cases h5 : takeD 2 l5 with
              | none => exact fail_post (by simp only [parseT, h1, h2, h3, h4, h5]; rw [if_neg hmm, if_neg ht', if_neg hb]) (parse_t4 L L7 z l l1 l2 y m d t l4 l5 hh w hl hL h1 h2 m1' m2' h3 ht h4 hb' h5)
              | some p =>
                obtain ⟨mm, l6⟩ := p
                by_cases mb : 59 < mm
                · exact fail_post (by simp only [parseT, h1, h2, h3, h4, h5]; rw [if_neg hmm, if_neg ht', if_neg hb, if_pos mb]) (parse_t5 L L7 z l l1 l2 y m d t l4 l5 l6 hh mm w hl hL h1 h2 m1' m2' h3 ht h4 hb' h5 mb)
                have mb' : mm ≤ 59 := by omega
                cases h6 : takeD 2 l6 with
                | none => exact fail_post (by simp only [parseT, h1, h2, h3, h4, h5, h6]; rw [if_neg hmm, if_neg ht', if_neg hb, if_neg mb]) (parse_t6 L L7 z l l1 l2 y m d t l4 l5 l6 hh mm w hl hL h1 h2 m1' m2' h3 ht h4 hb' h5 mb' h6)
                | some p =>
                  obtain ⟨ss, l7⟩ := p
                  by_cases sb : 59 < ss
                  · exact fail_post (by simp only [parseT, h1, h2, h3, h4, h5, h6]; rw [if_neg hmm, if_neg ht', if_neg hb, if_neg mb, if_pos sb]) (parse_t7 L L7 z l l1 l2 y m d t l4 l5 l6 l7 hh mm ss w hl hL h1 h2 m1' m2' h3 ht h4 hb' h5 mb' h6 sb)
                  have sb' : ss ≤ 59 := by omega
                  have hR : parseT (some z) l = parseTail y m d hh mm ss (frac l7).1 ((frac l7).2 == z) := by
                    simp only [parseT, h1, h2, h3, h4, h5, h6]; rw [if_neg hmm, if_neg ht', if_neg hb, if_neg mb, if_neg sb]
                  rw [hR]
                  match l7, h6 with
                  | [], h6 => exact parse_t8a L L7 z l l1 l2 y m d t l4 l5 l6 hh mm ss w hl hL h1 h2 m1' m2' h3 ht h4 hb' h5 mb' h6 sb' _ rfl
                  | [p], h6 => exact parse_t8b L L7 z l l1 l2 y m d t l4 l5 l6 p hh mm ss w hl hL h1 h2 m1' m2' h3 ht h4 hb' h5 mb' h6 sb' _ rfl
                  | p :: c :: r, h6 =>
                    by_cases hp : p.toNat = 46
                    · by_cases c1 : c.toNat < 48
                      · rw [frac_no (by simp [fracB, isD]; omega)]
                        exact parse_t8d1 L L7 z l l1 l2 y m d t l4 l5 l6 p c r hh mm ss w hl hL h1 h2 m1' m2' h3 ht h4 hb' h5 mb' h6 sb' hp c1 _ rfl
                      · by_cases c2 : 57 < c.toNat
                        · rw [frac_no (by simp [fracB, isD]; omega)]
                          exact parse_t8d2 L L7 z l l1 l2 y m d t l4 l5 l6 p c r hh mm ss w hl hL h1 h2 m1' m2' h3 ht h4 hb' h5 mb' h6 sb' hp c2 _ rfl
                        · have hf : frac (p :: c :: r) = nanoFrom 0 100000000 (c :: r) := if_pos (by simp [fracB, isD, hp]; omega)
                          rw [hf]
                          exact parse_t9a L L7 z l l1 l2 y m d t l4 l5 l6 p c r hh mm ss w hl hL h1 h2 m1' m2' h3 ht h4 hb' h5 mb' h6 sb' hp (by omega) (by omega) _ _ rfl _ rfl
                    · by_cases hq : p.toNat = 44
                      · by_cases c1 : c.toNat < 48
                        · rw [frac_no (by simp [fracB, isD]; omega)]
                          exact parse_t8e1 L L7 z l l1 l2 y m d t l4 l5 l6 p c r hh mm ss w hl hL h1 h2 m1' m2' h3 ht h4 hb' h5 mb' h6 sb' hp hq c1 _ rfl
                        · by_cases c2 : 57 < c.toNat
                          · rw [frac_no (by simp [fracB, isD]; omega)]
                            exact parse_t8e2 L L7 z l l1 l2 y m d t l4 l5 l6 p c r hh mm ss w hl hL h1 h2 m1' m2' h3 ht h4 hb' h5 mb' h6 sb' hp hq c2 _ rfl
                          · have hf : frac (p :: c :: r) = nanoFrom 0 100000000 (c :: r) := if_pos (by simp [fracB, isD, hq]; omega)
                            rw [hf]
                            exact parse_t9b L L7 z l l1 l2 y m d t l4 l5 l6 p c r hh mm ss w hl hL h1 h2 m1' m2' h3 ht h4 hb' h5 mb' h6 sb' hp hq (by omega) (by omega) _ _ rfl _ rfl
                      · rw [frac_no (by simp [fracB, hp, hq])]
                        exact parse_t8c L L7 z l l1 l2 y m d t l4 l5 l6 p c r hh mm ss w hl hL h1 h2 m1' m2' h3 ht h4 hb' h5 mb' h6 sb' hp hq _ rfl
          · exact fail_post (by simp only [parseT, h1, h2, h3]; rw [if_neg hmm, if_pos ht]) (parse_t1 L L7 z l l1 l2 y m d t l4 w hl hL h1 h2 m1' m2' h3 ht)

/-! ### the results of the readers of moments, in one form -/
def TimeRes (R : Option (Int × Int)) (s n : Int) (ev : Value) : Prop := match R with
  | none => s = 0 ∧ n = 0 ∧ ∃ T p, ev = .iface T (.pointer (some p))
  | some (a, b) => s = a ∧ n = b ∧ ev = .nilIface
def TPost (w : World) (R : Option (Int × Int)) (e : Ending) (w' : World) : Prop :=
  ∃ s n ev, e = .returned (.tuple #[.agg #[.int .i64 s, .int .i64 n], ev]) ∧ Below w.heap.size w w' ∧ TimeRes R s n ev
theorem TPost.of {w : World} {R : Option (Int × Int)} {e : Ending} {w' : World} (h : ParsePost w R e w') : TPost w R e w' := by
  cases R with
  | none => obtain ⟨T, p, he, hb⟩ := h; exact ⟨0, 0, _, he, hb, rfl, rfl, T, p, rfl⟩
  | some x => obtain ⟨a, b⟩ := x; obtain ⟨he, hb⟩ := h; exact ⟨a, b, _, he, hb, rfl, rfl, rfl⟩
theorem lay15 : Lay ⟨#[50, 48, 48, 54, 48, 49, 48, 50, 84, 49, 53, 48, 52, 48, 53]⟩ ⟨#[84, 49, 53, 48, 52, 48, 53]⟩ [] := ⟨by decide, by rfl, by rw [Lib.toList_data]; rfl, by decide, by rfl⟩
theorem lay16 : Lay ⟨#[50, 48, 48, 54, 48, 49, 48, 50, 84, 49, 53, 48, 52, 48, 53, 90]⟩ ⟨#[84, 49, 53, 48, 52, 48, 53, 90]⟩ [90] := ⟨by decide, by rfl, by rw [Lib.toList_data]; rfl, by decide, by rfl⟩
