import Derived.Test.YtcfbkkcamiephaaGreatDoorP1
import Derived.Laws.IdiomStrings
import Derived.Test.YtcfbkkcamiephaaGreatDoorT2
import Derived.Test.YtcfbkkcamiephaaGreatDoorR1
namespace Go.Proofs.YtcfbkkcamiephaaGreatDoor
open Go.RowKit

/-! ### the reference: blanks around a text -/
theorem isSp_nat (c : UInt8) : Lib.isSp c = ((c.toNat : Int) == 32 || (decide ((9 : Int) ≤ c.toNat) && decide ((c.toNat : Int) ≤ 13))) := by
  have key : ∀ n : Fin 256, Lib.isSp (UInt8.ofNat n.1) = ((n.1 : Int) == 32 || (decide ((9 : Int) ≤ n.1) && decide ((n.1 : Int) ≤ 13))) := by decide +kernel
  have := key ⟨c.toNat, c.toNat_lt⟩
  simpa using this
set_option maxRecDepth 100000 in
set_option maxHeartbeats 400000 in
/-- textTrim$1. -/
theorem blank_any (c : UInt8) (w : World) : Calls Tryz.prog 86 #[.int .u8 c.toNat] w fun e w' => e = .returned (.bool (Lib.isSp c)) ∧ w = w' := by
  have H := Lib.hid (isSp_nat c)
  have h256 : (c.toNat : Int) < 256 := by have := c.toNat_lt; omega
  have h0 : (0 : Int) ≤ (c.toNat : Int) := by omega
  generalize (c.toNat : Int) = n at *
  by_cases h32 : n = 32
  · have hb : (n == 32) = true := by simpa using h32
    have HR : Hid (Lib.isSp c = true) := Lib.hid (by rw [H.out, hb]; rfl)
    clear h32
    go_enter Tryz.func86, Tryz.ntmps86
    go_wp2
    go_ret
    exact ⟨by rw [HR.out]; rfl, rfl⟩
  · have hb : (n == 32) = false := by simpa using h32
    by_cases h9 : 9 ≤ n
    · by_cases h13 : n ≤ 13
      · have HR : Hid (Lib.isSp c = true) := Lib.hid (by rw [H.out, hb, decide_eq_true h9, decide_eq_true h13]; rfl)
        have hc : decide (9 ≤ n) = true := decide_eq_true h9
        have hd : decide (n ≤ 13) = true := decide_eq_true h13
        clear h32
        go_enter Tryz.func86, Tryz.ntmps86
        go_wp2
        go_ret
        exact ⟨by rw [HR.out]; rfl, rfl⟩
      · have HR : Hid (Lib.isSp c = false) := Lib.hid (by rw [H.out, hb, decide_eq_true h9, decide_eq_false h13]; rfl)
        have hc : decide (9 ≤ n) = true := decide_eq_true h9
        have hd : decide (n ≤ 13) = false := decide_eq_false h13
        clear h32
        go_enter Tryz.func86, Tryz.ntmps86
        go_wp2
        go_ret
        exact ⟨by rw [HR.out]; rfl, rfl⟩
    · have HR : Hid (Lib.isSp c = false) := Lib.hid (by rw [H.out, hb, decide_eq_false h9]; rfl)
      have hc : decide (9 ≤ n) = false := decide_eq_false h9
      clear h32
      go_enter Tryz.func86, Tryz.ntmps86
      go_wp2
      go_ret
      exact ⟨by rw [HR.out]; rfl, rfl⟩
theorem blank_yes (c : UInt8) (h : Lib.isSp c = true) (w : World) : Calls Tryz.prog 86 #[.int .u8 c.toNat] w fun e w' => e = .returned (.bool true) ∧ w = w' := by
  have := blank_any c w; rw [h] at this; exact this
theorem blank_not (c : UInt8) (h : Lib.isSp c = false) (w : World) : Calls Tryz.prog 86 #[.int .u8 c.toNat] w fun e w' => e = .returned (.bool false) ∧ w = w' := by
  have := blank_any c w; rw [h] at this; exact this
def strSz : Value → Nat
  | .string b => b.size
  | _ => 0
theorem strSz_mk (x : List UInt8) : strSz (.string (mkS x)) = x.length := size_mkS x
theorem idx_bt2 (l : List UInt8) (k : Nat) (h : k < l.length) (h2 : k < (mkS l).size) : (mkS l)[k] = l[k] := (fun _ => rfl) h
theorem last_at (n : List UInt8) (q : UInt8) (h : n.length < (mkS (n ++ [q])).size) : (mkS (n ++ [q]))[n.length] = q := (idx_bt2 _ _ (by simp) h).trans (List.getElem_concat_length rfl _)
set_option maxRecDepth 100000 in
set_option maxHeartbeats 1600000 in
/-- textTrim. -/
theorem trimS_any (l : List UInt8) (w : World) (hl : l.length ≤ 1000000000) : Calls Tryz.prog 55 #[.string (mkS l)] w fun e w' => e = .returned (.string (mkS (trimS l))) ∧ w = w' := by
  generalize hT : trimS l = T
  have HT := Lib.hid hT
  clear hT
  go_enter Tryz.func55, Tryz.ntmps55
  go_wp2
  go_loop [0] (fun s => ∃ x : List UInt8, x.length ≤ l.length ∧ s = .string (mkS x) ∧ Hid (l.dropWhile Lib.isSp = x.dropWhile Lib.isSp)) (fun s => strSz s)
  case atStart => exact ⟨l, Nat.le_refl _, rfl, Lib.hid rfl⟩
  case round =>
    obtain ⟨x, hx, rfl, HX⟩ := hrel
    have hc : (∃ t r, x = t :: r ∧ Lib.isSp t = true) ∨ x = [] ∨ ∃ t r, x = t :: r ∧ Lib.isSp t = false := by
      cases x with
      | nil => exact .inr (.inl rfl)
      | cons t r => cases h : Lib.isSp t; exact .inr (.inr ⟨t, r, rfl, h⟩); exact .inl ⟨t, r, rfl, h⟩
    rcases hc with ⟨t, r, rfl, ht⟩ | hc
    · have z := size_mkS (t :: r)
      rw [List.length_cons] at z hx
      have t1 := toList_mkS (t :: r)
      have x0 : (mkS (t :: r))[0]'(by rw [z]; omega) = t := rfl
      have e1 := extract1_mkS t r
      have H86 := Lib.hid (blank_yes t ht)
      have HN : Hid (l.dropWhile Lib.isSp = r.dropWhile Lib.isSp) := Lib.hid (by rw [HX.out, List.dropWhile_cons_of_pos ht])
      clear ht
      go_wp2_with (first | (go_at_call 86; go_must (refine (H86.out _).mono ?_; rintro e w1 ⟨rfl, rfl⟩)) | (fail))
      go_round
      case rel => exact ⟨r, by omega, rfl, HN⟩
      case measure => rw [strSz_mk, strSz_mk]; simp
    · have HM : Hid (l.dropWhile Lib.isSp = x) := Lib.hid (by
        rw [HX.out]
        rcases hc with rfl | ⟨t, r, rfl, ht⟩
        · rfl
        · rw [List.dropWhile_cons_of_neg (by simp [ht])])
      have HT2 : Hid (T = (x.reverse.dropWhile Lib.isSp).reverse) := Lib.hid (by rw [← HT.out, ← HM.out]; rfl)
      have hx2 : x.length ≤ 1000000000 := by omega
      clear HX HM HT
      rcases hc with rfl | ⟨t, r, rfl, ht⟩
      · have t1 := toList_mkS []
        go_wp2_with (fail)
        clear t1
        go_loop [0] (fun s => ∃ y : List UInt8, y.length ≤ 1000000000 ∧ s = .string (mkS y) ∧ Hid (T = (y.reverse.dropWhile Lib.isSp).reverse)) (fun s => strSz s)
        case atStart => exact ⟨_, hx2, rfl, HT2⟩
        case round =>
          clear HT2 hx2
          obtain ⟨y, hy, rfl, HY⟩ := hrel
          rcases List.eq_nil_or_concat y with rfl | ⟨n, q, rfl⟩
          · have t1 := toList_mkS []
            have HR : Hid (T = []) := Lib.hid (by rw [HY.out]; rfl)
            go_wp2_with (fail)
            go_ret
            exact ⟨by rw [HR.out]; rfl, rfl⟩
          · rw [List.concat_eq_append] at *
            have z := size_mkS (n ++ [q])
            rw [List.length_append, List.length_singleton] at z hy
            have t1 := toList_mkS (n ++ [q])
            have hne : (n ++ [q]).isEmpty = false := by simp
            have x0 : (mkS (n ++ [q]))[n.length]'(by rw [z]; omega) = q := last_at n q _
            have e1 : (mkS (n ++ [q])).extract 0 n.length = mkS n := by rw [extract_mkS, mkS_data]; simp
            cases hq : Lib.isSp q with
            | true =>
              have H86 := Lib.hid (blank_yes q hq)
              have HN : Hid (T = (n.reverse.dropWhile Lib.isSp).reverse) := Lib.hid (by rw [HY.out, List.reverse_append]; simp [hq])
              clear hq
              go_wp2_with (first | (go_at_call 86; go_must (refine (H86.out _).mono ?_; rintro e w1 ⟨rfl, rfl⟩)) | (fail))
              go_round
              case rel => exact ⟨n, by omega, rfl, HN⟩
              case measure => rw [strSz_mk, strSz_mk]; simp
            | false =>
              have H86 := Lib.hid (blank_not q hq)
              have HR : Hid (T = n ++ [q]) := Lib.hid (by rw [HY.out, List.reverse_append]; simp [hq])
              clear hq
              go_wp2_with (first | (go_at_call 86; go_must (refine (H86.out _).mono ?_; rintro e w1 ⟨rfl, rfl⟩)) | (fail))
              go_ret
              exact ⟨by rw [HR.out]; rfl, rfl⟩
      · have z := size_mkS (t :: r)
        rw [List.length_cons] at z
        have t1 := toList_mkS (t :: r)
        have x0 : (mkS (t :: r))[0]'(by rw [z]; omega) = t := rfl
        have H86 := Lib.hid (blank_not t ht)
        clear ht
        go_wp2_with (first | (go_at_call 86; go_must (refine (H86.out _).mono ?_; rintro e w1 ⟨rfl, rfl⟩)) | (fail))
        clear z t1 x0 H86
        go_loop [0] (fun s => ∃ y : List UInt8, y.length ≤ 1000000000 ∧ s = .string (mkS y) ∧ Hid (T = (y.reverse.dropWhile Lib.isSp).reverse)) (fun s => strSz s)
        case atStart => exact ⟨_, hx2, rfl, HT2⟩
        case round =>
          clear HT2 hx2
          obtain ⟨y, hy, rfl, HY⟩ := hrel
          rcases List.eq_nil_or_concat y with rfl | ⟨n, q, rfl⟩
          · have t1 := toList_mkS []
            have HR : Hid (T = []) := Lib.hid (by rw [HY.out]; rfl)
            go_wp2_with (fail)
            go_ret
            exact ⟨by rw [HR.out]; rfl, rfl⟩
          · rw [List.concat_eq_append] at *
            have z := size_mkS (n ++ [q])
            rw [List.length_append, List.length_singleton] at z hy
            have t1 := toList_mkS (n ++ [q])
            have hne : (n ++ [q]).isEmpty = false := by simp
            have x0 : (mkS (n ++ [q]))[n.length]'(by rw [z]; omega) = q := last_at n q _
            have e1 : (mkS (n ++ [q])).extract 0 n.length = mkS n := by rw [extract_mkS, mkS_data]; simp
            cases hq : Lib.isSp q with
            | true =>
              have H86 := Lib.hid (blank_yes q hq)
              have HN : Hid (T = (n.reverse.dropWhile Lib.isSp).reverse) := Lib.hid (by rw [HY.out, List.reverse_append]; simp [hq])
              clear hq
              go_wp2_with (first | (go_at_call 86; go_must (refine (H86.out _).mono ?_; rintro e w1 ⟨rfl, rfl⟩)) | (fail))
              go_round
              case rel => exact ⟨n, by omega, rfl, HN⟩
              case measure => rw [strSz_mk, strSz_mk]; simp
            | false =>
              have H86 := Lib.hid (blank_not q hq)
              have HR : Hid (T = n ++ [q]) := Lib.hid (by rw [HY.out, List.reverse_append]; simp [hq])
              clear hq
              go_wp2_with (first | (go_at_call 86; go_must (refine (H86.out _).mono ?_; rintro e w1 ⟨rfl, rfl⟩)) | (fail))
              go_ret
              exact ⟨by rw [HR.out]; rfl, rfl⟩
end Go.Proofs.YtcfbkkcamiephaaGreatDoor
namespace Go.Proofs.YtcfbkkcamiephaaGreatDoor
open Go.RowKit

theorem add_pl (b o i : Nat) : (⟨b, o, none⟩ : Addr).add i = ⟨b, o + i, none⟩ := by unfold Addr.add; split <;> simp_all
/-! ### the reference: capital letters -/
structure ByteRow (w wr : World) (x : List UInt8) : Prop where
  below : Below w.heap.size w wr
  lt : w.heap.size < wr.heap.size
  cell : ∀ j (h : j < x.length), wr.cell? ⟨w.heap.size, j, none⟩ = some (.int .u8 (x[j].toNat : Int))
  frozen : ∀ j, j < x.length → wr.frozen? ⟨w.heap.size, j, none⟩ = false
theorem byteRow_new (w : World) (l : List UInt8) (cap : Nat) : ByteRow w (w.drew.alloc (.cells (bytesRow (mkS l) cap) 5 ((bytesRow (mkS l) cap).size, (bytesRow (mkS l) cap).size + 1))) l := by
  have hz : l.length ≤ (bytesRow (mkS l) cap).size := by unfold bytesRow; simp [mkS]
  refine ⟨((Below.refl _ _).drew).alloc (by simp) _, by simp, fun j h => ?_, fun j h => ?_⟩
  · have h1 := World.cell?_alloc_mark w.drew (bytesRow (mkS l) cap) 5 ((bytesRow (mkS l) cap).size, (bytesRow (mkS l) cap).size + 1) j
    have h2 := bytesRow_at (mkS l) cap j (by simpa [mkS] using h)
    rw [h2] at h1
    exact h1
  · have h1 := World.frozen?_alloc_mark w.drew (bytesRow (mkS l) cap) 5 (bytesRow (mkS l) cap).size ((bytesRow (mkS l) cap).size + 1) j
    refine h1.trans ?_
    rw [decide_eq_false (by omega), Bool.false_and]
theorem ByteRow.set {w wr : World} {x : List UInt8} (h : ByteRow w wr x) (k : Nat) (hk : k < x.length) (c : UInt8) : ByteRow w (wr.setCell ⟨w.heap.size, k, none⟩ (.int .u8 (c.toNat : Int))) (x.set k c) := by
  refine ⟨h.below.setCell (by simp) _, by simpa [World.setCell] using h.lt, fun j hj => ?_, fun j hj => ?_⟩
  · rw [List.length_set] at hj
    by_cases he : k = j
    · subst he
      rw [World.cell?_setCell_same _ _ _ (h.cell k hk)]; simp
    · rw [World.cell?_setCell_other _ _ _ _ (by simp), h.cell j hj, List.getElem_set_ne he]
  · rw [List.length_set] at hj
    rw [World.frozen?_setCell]; exact h.frozen j hj
theorem up_set (l : List UInt8) (k : Nat) (hk : k < l.length) : ((l.take k).map upC ++ l.drop k).set k (upC l[k]) = (l.take (k + 1)).map upC ++ l.drop (k + 1) := by
  have hl : ((l.take k).map upC).length = k := by simp; omega
  rw [List.set_append_right _ _ (by omega), hl, Nat.sub_self, List.drop_eq_getElem_cons hk, List.set_cons_zero, List.take_succ_eq_append_getElem hk, List.map_append]
  simp
theorem up_same (l : List UInt8) (k : Nat) (hk : k < l.length) (h : upC l[k] = l[k]) : (l.take k).map upC ++ l.drop k = (l.take (k + 1)).map upC ++ l.drop (k + 1) := by
  rw [← up_set l k hk, h]
  have hl : ((l.take k).map upC).length = k := by simp; omega
  rw [List.set_append_right _ _ (by omega), hl, Nat.sub_self, List.drop_eq_getElem_cons hk, List.set_cons_zero]
theorem up_at (l : List UInt8) (k : Nat) (hk : k < l.length) : k < ((l.take k).map upC ++ l.drop k).length ∧ ∀ h, ((l.take k).map upC ++ l.drop k)[k]'h = l[k] := by
  have hl : ((l.take k).map upC).length = k := by simp; omega
  refine ⟨by rw [List.length_append, hl, List.length_drop]; omega, fun h => ?_⟩
  rw [List.getElem_append_right (by omega), List.getElem_drop]
  congr 1; omega
theorem upC_low {c : UInt8} (h : 97 ≤ c.toNat ∧ c.toNat ≤ 122) : ((upC c).toNat : Int) = (c.toNat : Int) - 32 := by
  unfold upC; rw [if_pos h, UInt8.toNat_sub_of_le _ _ (by rw [UInt8.le_iff_toNat_le]; simp; omega)]; simp; omega
set_option maxRecDepth 100000 in
set_option maxHeartbeats 1600000 in
/-- textUpper. -/
theorem upperS_any (l : List UInt8) (w : World) (hl : l.length ≤ 1000000000) : Calls Tryz.prog 87 #[.string (mkS l)] w fun e w' => e = .returned (.string (mkS (l.map upC))) ∧ Below w.heap.size w w' := by
  have zl := size_mkS l
  have hconv := run_bytes_of_string (P := Tryz.prog) w 9 37 5 (mkS l) Tryz.underlying9 Tryz.underlying37 Tryz.underlying5
  have hrow := byteRow_new w l (grownCap w (mkS l).size 0 5)
  have hcap := grownCap_ge w (mkS l).size 0 5
  rw [zl] at hconv hrow hcap
  generalize w.drew.alloc (.cells (bytesRow (mkS l) (grownCap w l.length 0 5)) 5 ((bytesRow (mkS l) (grownCap w l.length 0 5)).size, (bytesRow (mkS l) (grownCap w l.length 0 5)).size + 1)) = W1 at hconv hrow
  generalize grownCap w l.length 0 5 = cap at hconv hcap
  have HR := Lib.hid hrow
  clear hrow
  go_enter Tryz.func87, Tryz.ntmps87
  go_wp2_with (fail)
  clear hconv
  go_loopw [10] (fun i wr => ∃ k : Nat, k ≤ l.length ∧ i = .int .i64 k ∧ Hid (ByteRow w wr ((l.take k).map upC ++ l.drop k))) (fun i _ => l.length - (intOf i).toNat)
  case atStart => exact ⟨0, by omega, rfl, Lib.hid (by simpa using HR.out)⟩
  case round =>
    clear HR
    obtain ⟨k, hk, rfl, HR⟩ := hrel
    by_cases hlt : k < l.length
    · obtain ⟨hk2, hat⟩ := up_at l k hlt
      have hc : wr.cell? ⟨w.heap.size, k, none⟩ = some (.int .u8 (l[k].toNat : Int)) := by rw [HR.out.cell k hk2, hat]
      have hf := HR.out.frozen k hk2
      have h256 : (l[k].toNat : Int) < 256 := by have := l[k].toNat_lt; omega
      by_cases hlow : 97 ≤ l[k].toNat ∧ l[k].toNat ≤ 122
      · have hv := upC_low hlow
        have HN : Hid (ByteRow w (wr.setCell ⟨w.heap.size, k, none⟩ (.int .u8 ((l[k].toNat : Int) - 32))) ((l.take (k + 1)).map upC ++ l.drop (k + 1))) := Lib.hid (by rw [← hv, ← up_set l k hlt]; exact HR.out.set k hk2 _)
        have d1 : decide ((97 : Int) ≤ (l[k].toNat : Int)) = true := by simp; omega
        have d2 : decide ((l[k].toNat : Int) ≤ 122) = true := by simp; omega
        have hsub : IntKind.u8.wrap ((l[k].toNat : Int) - 32) = (l[k].toNat : Int) - 32 := IntWalk.u8_in _ (by omega)
        clear hv hlow hat hk2
        generalize (l[k].toNat : Int) = n at *
        go_wp2
        go_roundw
        case rel => exact ⟨k + 1, by omega, by go_num, HN⟩
        case measure => simp [intOf]; omega
      · have hs : upC l[k] = l[k] := by unfold upC; rw [if_neg hlow]
        have HN : Hid (ByteRow w wr ((l.take (k + 1)).map upC ++ l.drop (k + 1))) := Lib.hid (by rw [← up_same l k hlt hs]; exact HR.out)
        clear hs hat hk2
        by_cases h97 : 97 ≤ l[k].toNat
        · have d1 : decide ((97 : Int) ≤ (l[k].toNat : Int)) = true := by simp; omega
          have d2 : decide ((l[k].toNat : Int) ≤ 122) = false := by simp; omega
          clear hlow
          generalize (l[k].toNat : Int) = n at *
          go_wp2
          go_roundw
          case rel => exact ⟨k + 1, by omega, by go_num, HN⟩
          case measure => simp [intOf]; omega
        · have d1 : decide ((97 : Int) ≤ (l[k].toNat : Int)) = false := by simp; omega
          clear hlow
          generalize (l[k].toNat : Int) = n at *
          go_wp2
          go_roundw
          case rel => exact ⟨k + 1, by omega, by go_num, HN⟩
          case measure => simp [intOf]; omega
    · obtain rfl : k = l.length := by omega
      have hrow := HR.out
      rw [List.take_length, List.drop_length, List.append_nil] at hrow
      have hback := run_convert_bytes_back (P := Tryz.prog) wr 37 9 5 ⟨w.heap.size, 0, none⟩ cap (l.map upC) Tryz.underlying37 Tryz.underlying5 Tryz.underlying9 (fun j hj => by rw [add_pl, Nat.zero_add]; exact hrow.cell j hj)
      rw [List.length_map] at hback
      have HB := Lib.hid hrow.below
      clear hrow HR
      go_wp2
      go_ret
      exact ⟨rfl, HB.out⟩
/-! ### the reference: the name of a line -/
theorem nm_none {u : List UInt8} {n : Nat} (h : idxA [59, 58] u = n) (hn : u.length ≤ n) : nmS u = ([], false) := by unfold nmS; rw [h, if_neg (by omega)]
theorem nm_eq {u : List UInt8} {n m : Nat} (h : idxA [59, 58] u = n) (hn : n < u.length) (hm : idxA [61] (u.take n) = m) (hl : m < (u.take n).length) : nmS u = (u.take n, m == 0) := by unfold nmS; rw [h, if_pos hn, hm, if_pos hl]
theorem nm_no {u : List UInt8} {n m : Nat} (h : idxA [59, 58] u = n) (hn : n < u.length) (hm : idxA [61] (u.take n) = m) (hl : (u.take n).length ≤ m) : nmS u = (u.take n, decide (0 < n)) := by unfold nmS; rw [h, if_pos hn, hm, if_neg (by omega)]
def NmPost (w : World) (R : List UInt8 × Bool) (e : Ending) (w' : World) : Prop := e = .returned (.tuple #[.string (mkS R.1), .bool R.2]) ∧ Below w.heap.size w w'
theorem nm_ok {w w' : World} {R : List UInt8 × Bool} {a : List UInt8} {b : Bool} {e : Ending} (h : R = (a, b)) (he : e = .returned (.tuple #[.string (mkS a), .bool b])) (hb : Below w.heap.size w w') : NmPost w R e w' := by rw [h]; exact ⟨he, hb⟩
theorem byte_ne {c : UInt8} {k : Nat} (h : c ≠ UInt8.ofNat k) (hk : k < 256) : ((c.toNat : Int) == (k : Int)) = false := by
  rw [beq_eq_false_iff_ne]; intro e
  exact h (UInt8.toNat_inj.1 (by rw [UInt8.toNat_ofNat']; omega))
set_option maxRecDepth 100000 in
set_option maxHeartbeats 1600000 in
/-- textName. -/
theorem nameS_any (l : List UInt8) (w : World) (hl : l.length ≤ 1000000000) : Calls Tryz.prog 56 #[.string (mkS l)] w (NmPost w (nmS ((trimS l).map upC))) := by
  have H55 := Lib.hid (fun w => trimS_any l w hl)
  have htl : (trimS l).length ≤ l.length := by
    unfold trimS
    rw [List.length_reverse]
    have h1 := (List.dropWhile_sublist Lib.isSp (l := (l.dropWhile Lib.isSp).reverse)).length_le
    have h2 := (List.dropWhile_sublist Lib.isSp (l := l)).length_le
    rw [List.length_reverse] at h1
    omega
  have H87 := Lib.hid (fun w => upperS_any (trimS l) w (by omega))
  have hul : ((trimS l).map upC).length ≤ 1000000000 := by rw [List.length_map]; omega
  generalize (trimS l).map upC = u at *
  have zu := size_mkS u
  have hn1 := idxA_le [59, 58] u
  have hn2 : ∀ k, k < idxA [59, 58] u → (hk : k < u.length) → u[k] ≠ 59 ∧ u[k] ≠ 58 := fun k h1 hk => by
    have := idxA_before [59, 58] u k h1 hk
    simpa using this
  have hn3 : (h : idxA [59, 58] u < u.length) → u[idxA [59, 58] u] = 59 ∨ u[idxA [59, 58] u] = 58 := fun h => by simpa using idxA_at [59, 58] u h
  generalize hN : idxA [59, 58] u = n at *
  have HN := Lib.hid hN
  have HN2 := Lib.hid hn2
  have HN3 := Lib.hid hn3
  clear hN hn2 hn3 htl
  generalize hR : nmS u = R
  have HR := Lib.hid hR
  clear hR
  go_enter Tryz.func56, Tryz.ntmps56
  go_wp2_with (first
    | (go_at_call 55; go_must (refine (H55.out _).mono ?_; rintro e w1 ⟨rfl, rfl⟩))
    | (go_at_call 87; go_must (refine (H87.out _).mono ?_; rintro e w2 ⟨rfl, hb2⟩; have HB2 := Lib.hid hb2; clear hb2))
    | (fail))
  clear H55 H87
  go_loop [12] (fun i => ∃ k : Nat, k ≤ n ∧ i = .int .i64 k) (fun i => u.length + 1 - (intOf i).toNat)
  case atStart => exact ⟨0, by omega, rfl⟩
  case round =>
    obtain ⟨k, hk, rfl⟩ := hrel
    by_cases hlt : k < n
    · have hku : k < u.length := by omega
      have hx := idx_bt u k hku (by rw [zu]; exact hku)
      obtain ⟨h1, h2⟩ := HN2.out k hlt hku
      have b1 : ((u[k].toNat : Int) == 59) = false := byte_ne (k := 59) h1 (by decide)
      have b2 : ((u[k].toNat : Int) == 58) = false := byte_ne (k := 58) h2 (by decide)
      clear h1 h2
      generalize u[k] = c at *
      go_wp2
      go_round
      case rel => exact ⟨k + 1, by omega, by go_num⟩
      case measure => simp [intOf]; omega
    · obtain rfl : k = n := by omega
      clear hlt hk
      by_cases hku : k < u.length
      · have hx := idx_bt u k hku (by rw [zu]; exact hku)
        have hq : u[k] = 59 ∨ u[k] = 58 := HN3.out hku
        have hex : (mkS u).extract 0 k = mkS (u.take k) := by rw [extract_mkS, mkS_data]; simp
        have zt : (mkS (u.take k)).size = k := by rw [size_mkS, List.length_take]; omega
        have hm1 := idxA_le [61] (u.take k)
        have hm2 : ∀ j, j < idxA [61] (u.take k) → (hj : j < (u.take k).length) → (u.take k)[j] ≠ 61 := fun j h1 hj => by
          have := idxA_before [61] (u.take k) j h1 hj
          simpa using this
        have hm3 : (h : idxA [61] (u.take k) < (u.take k).length) → (u.take k)[idxA [61] (u.take k)] = 61 := fun h => by simpa using idxA_at [61] (u.take k) h
        have htk : (u.take k).length = k := by rw [List.length_take]; omega
        have he := fun m hm hl => nm_eq (m := m) HN.out hku hm hl
        have hno := fun m hm hl => nm_no (m := m) HN.out hku hm hl
        generalize hM : idxA [61] (u.take k) = m at *
        have HE := Lib.hid (he m rfl)
        have HNO := Lib.hid (hno m rfl)
        have HM2 := Lib.hid hm2
        have HM3 := Lib.hid hm3
        rw [htk] at hm1
        have HTK := Lib.hid htk
        clear hM hm2 hm3 he hno htk
        have hcc : ((u[k].toNat : Int) == 59) = true ∨ (((u[k].toNat : Int) == 59) = false ∧ ((u[k].toNat : Int) == 58) = true) := by
          rcases hq with h | h
          · exact .inl (by rw [h]; rfl)
          · exact .inr ⟨by rw [h]; rfl, by rw [h]; rfl⟩
        clear hq
        generalize u[k] = c at *
        rcases hcc with b1 | ⟨b1, b2⟩
        all_goals
          go_wp2_with (fail)
          go_loop [30] (fun i => ∃ j : Nat, j ≤ m ∧ i = .int .i64 j) (fun i => k + 1 - (intOf i).toNat)
          case atStart => exact ⟨0, by omega, rfl⟩
          case round =>
            obtain ⟨j, hj, rfl⟩ := hrel
            by_cases hjm : j < m
            · have hjk : j < k := by omega
              have hjl : j < (u.take k).length := by rw [HTK.out]; exact hjk
              have hy := idx_bt (u.take k) j hjl (by rw [zt]; exact hjk)
              have h1 : (((u.take k)[j].toNat : Int) == 61) = false := byte_ne (k := 61) (HM2.out j hjm hjl) (by decide)
              generalize (u.take k)[j] = d at *
              go_wp2
              go_round
              case rel => exact ⟨j + 1, by omega, by go_num⟩
              case measure => simp [intOf]; omega
            · obtain rfl : j = m := by omega
              clear hjm hj
              by_cases hjk : j < k
              · have hjl : j < (u.take k).length := by rw [HTK.out]; exact hjk
                have hy := idx_bt (u.take k) j hjl (by rw [zt]; exact hjk)
                have h1 : (((u.take k)[j].toNat : Int) == 61) = true := by rw [HM3.out hjl]; rfl
                have HF := Lib.hid (HE.out hjl)
                have h0 : (((j : Nat) : Int) == 0) = (j == 0) := by rw [Bool.eq_iff_iff]; simp
                generalize hb : (j == 0) = b at *
                clear hb
                generalize (u.take k)[j] = d at *
                go_wp2
                go_ret2
                exact nm_ok (HR.out.symm.trans HF.out) rfl HB2.out
              · have HF := Lib.hid (HNO.out (by rw [HTK.out]; omega))
                go_wp2
                go_ret2
                exact nm_ok (HR.out.symm.trans HF.out) rfl HB2.out
      · have HF := Lib.hid (nm_none HN.out (by omega))
        go_wp2
        go_ret2
        exact nm_ok (HR.out.symm.trans HF.out) rfl HB2.out
end Go.Proofs.YtcfbkkcamiephaaGreatDoor
namespace Go.Proofs.YtcfbkkcamiephaaGreatDoor
open Go.RowKit


/-! ### the reference: numbers -/
theorem int_minus {r : List UInt8} (h : r ≠ []) : intS (45 :: r) = (sMag 9223372036854775808 0 r).map fun u => -(u : Int) := by
  unfold intS; simp only; rw [if_pos (Or.inr (by decide)), if_neg h, if_pos (show (45 : UInt8).toNat = 45 by decide)]; congr 1
theorem int_plus {r : List UInt8} (h : r ≠ []) : intS (43 :: r) = (sMag 9223372036854775807 0 r).map fun u => (u : Int) := by
  unfold intS; simp only; rw [if_pos (Or.inl (by decide)), if_neg h, if_neg (show ¬ (43 : UInt8).toNat = 45 by decide)]; congr 1
theorem int_bare {c : UInt8} {r : List UInt8} (h : c.toNat ≠ 43 ∧ c.toNat ≠ 45) : intS (c :: r) = (sMag 9223372036854775807 0 (c :: r)).map fun u => (u : Int) := by
  unfold intS; simp only
  rw [if_neg (show ¬ (c.toNat = 43 ∨ c.toNat = 45) by omega), if_neg (by simp), if_neg h.2]
  congr 1; funext u; rw [if_neg h.2]
theorem int_sign {c : UInt8} (h : c.toNat = 43 ∨ c.toNat = 45) : intS [c] = none := by
  unfold intS; simp only; rw [if_pos h, if_pos rfl]
theorem neg_conv (n : Nat) (h : n ≤ 9223372036854775808) : IntKind.i64.wrap (IntKind.u64.wrap (-(n : Int))) = -(n : Int) := by
  rw [IntKind.wrap_i64, IntKind.wrap_u64]
  omega
set_option maxRecDepth 100000 in
set_option maxHeartbeats 6400000 in
/-- textInt. -/
theorem intS_any (l : List UInt8) (w : World) (hl : l.length ≤ 1000000000) : Calls Tryz.prog 89 #[.string (mkS l)] w (DigPost w (intS l)) := by
  generalize hRES : intS l = RES
  have hc : l = [] ∨ (∃ c, l = [c] ∧ (c = 45 ∨ c = 43)) ∨ (∃ r, l = 45 :: r ∧ r ≠ []) ∨ (∃ r, l = 43 :: r ∧ r ≠ []) ∨ ∃ c r, l = c :: r ∧ c.toNat ≠ 43 ∧ c.toNat ≠ 45 := by
    cases l with
    | nil => exact .inl rfl
    | cons c r =>
      by_cases h45 : c = 45
      · subst h45
        cases r with
        | nil => exact .inr (.inl ⟨_, rfl, .inl rfl⟩)
        | cons a t => exact .inr (.inr (.inl ⟨_, rfl, by simp⟩))
      · by_cases h43 : c = 43
        · subst h43
          cases r with
          | nil => exact .inr (.inl ⟨_, rfl, .inr rfl⟩)
          | cons a t => exact .inr (.inr (.inr (.inl ⟨_, rfl, by simp⟩)))
        · exact .inr (.inr (.inr (.inr ⟨c, r, rfl, fun h => h43 (UInt8.toNat_inj.1 (by simpa using h)), fun h => h45 (UInt8.toNat_inj.1 (by simpa using h))⟩)))
  rcases hc with rfl | ⟨c, rfl, hc⟩ | ⟨x, rfl, hx0⟩ | ⟨x, rfl, hx0⟩ | ⟨c, r, rfl, hc⟩
  · have HR : Hid (RES = none) := Lib.hid (by rw [← hRES]; rfl)
    clear hRES
    have t1 := toList_mkS []
    go_enter Tryz.func89, Tryz.ntmps89
    go_wp2
    go_ret2
    exact dig_fail HR.out rfl
  · have HR : Hid (RES = none) := Lib.hid (by rw [← hRES, int_sign (by rcases hc with rfl | rfl; exact .inr rfl; exact .inl rfl)])
    clear hRES
    have z := size_mkS [c]
    have t1 := toList_mkS [c]
    have t2 := toList_mkS []
    have x0 : (mkS [c])[0]'(by rw [z]; simp) = c := rfl
    have e1 : (mkS [c]).extract 1 1 = mkS [] := extract1_mkS c []
    rcases hc with rfl | rfl
    · go_enter Tryz.func89, Tryz.ntmps89
      go_wp2
      go_ret2
      exact dig_fail HR.out rfl
    · go_enter Tryz.func89, Tryz.ntmps89
      go_wp2
      go_ret2
      exact dig_fail HR.out rfl
  · rw [int_minus hx0] at hRES
    obtain ⟨M, hM⟩ : ∃ M : Nat, M = 9223372036854775808 := ⟨_, rfl⟩
    rw [← hM] at hRES
    have HF : Hid (RES = (sMag M 0 x).map fun u => -(u : Int)) := Lib.hid hRES.symm
    clear hRES
    have z := size_mkS (45 :: x)
    rw [List.length_cons] at z hl
    have t1 := toList_mkS (45 :: x)
    have x0 : (mkS (45 :: x))[0]'(by rw [z]; omega) = 45 := rfl
    have e1 := extract1_mkS 45 x
    have t2 := toList_mkS x
    have zx := size_mkS x
    have hx1 : x.isEmpty = false := by simpa using hx0
    clear hx0
    go_enter Tryz.func89, Tryz.ntmps89
    have hM9 : (9 : Int) ≤ (M : Int) := by omega
    have hM1 : (M : Int) ≤ 9223372036854775808 := by omega
    have HM := Lib.hid hM
    clear hM
    go_upto_if 28 with fail
    go_cut [5] from 29 to 30 (fun s5 wx => s5 = .int .u64 (M : Int) ∧ wx = w)
    case first =>
      go_wp2
      go_meet
      exact ⟨by rw [HM.out]; rfl, rfl⟩
    case rest =>
    obtain ⟨rfl, rfl⟩ := hcut
    go_wp2_with (fail)
    go_loop [33, 6] (fun i n => ∃ k acc : Nat, k ≤ x.length ∧ i = .int .i64 k ∧ n = .int .u64 (acc : Int) ∧ acc ≤ M ∧ Hid (sMag M 0 x = sMag M acc (x.drop k))) (fun i _ => x.length - (intOf i).toNat)
    case atStart => exact ⟨0, 0, by omega, rfl, rfl, by omega, Lib.hid rfl⟩
    case round =>
      obtain ⟨k, acc, hk, rfl, rfl, hacc, HS⟩ := hrel
      by_cases hlt : k < x.length
      · have hx := idx_bt x k hlt (by rw [zx]; exact hlt)
        have HD := Lib.hid (List.drop_eq_getElem_cons hlt)
        have h256 : (x[k].toNat : Int) < 256 := by have := x[k].toNat_lt; omega
        generalize x[k] = c at *
        by_cases hd : 48 ≤ c.toNat ∧ c.toNat ≤ 57
        · obtain ⟨D, hD⟩ : ∃ D : Nat, D = c.toNat - 48 := ⟨_, rfl⟩
          have hDn : (c.toNat : Int) - 48 = (D : Int) := by omega
          have hD9 : (D : Int) ≤ 9 := by omega
          have e1 : decide ((c.toNat : Int) < 48) = false := by simp; omega
          have e2 : decide ((57 : Int) < (c.toNat : Int)) = false := by simp; omega
          have hsub : IntKind.u8.wrap ((c.toNat : Int) - 48) = (D : Int) := by rw [hDn]; exact IntWalk.u8_in _ (by omega)
          have HST : Hid (sMag M acc (x.drop k) = if (M - D) / 10 < acc then none else sMag M (acc * 10 + D) (x.drop (k + 1))) := Lib.hid (by
            rw [HD.out]; simp only [sMag]; rw [if_neg (by omega), ← hD])
          clear hD hDn hd
          by_cases hbig : (M - D) / 10 < acc
          · have HN : Hid (RES = none) := Lib.hid (by rw [HF.out, HS.out, HST.out, if_pos hbig]; rfl)
            have e3 : decide (((M : Int) - (D : Int)) / 10 < (acc : Int)) = true := by simp; omega
            clear hbig HST
            go_wp2
            go_ret2
            exact dig_fail HN.out rfl
          · have HN : Hid (sMag M 0 x = sMag M (acc * 10 + D) (x.drop (k + 1))) := Lib.hid (by rw [HS.out, HST.out, if_neg hbig])
            have e3 : decide (((M : Int) - (D : Int)) / 10 < (acc : Int)) = false := by simp; omega
            have hle : acc * 10 + D ≤ M := by omega
            clear hbig HST
            go_wp2
            go_round
            case rel => exact ⟨k + 1, acc * 10 + D, by omega, by go_num, by go_num, hle, HN⟩
            case measure => simp [intOf]; omega
        · have HN : Hid (RES = none) := Lib.hid (by rw [HF.out, HS.out, HD.out]; simp only [sMag]; rw [if_pos (by omega)]; rfl)
          clear HD
          by_cases h1 : c.toNat < 48
          · have e1 : decide ((c.toNat : Int) < 48) = true := by simp; omega
            clear hd h1
            go_wp2
            go_ret2
            exact dig_fail HN.out rfl
          · have e1 : decide ((c.toNat : Int) < 48) = false := by simp; omega
            have e2 : decide ((57 : Int) < (c.toNat : Int)) = true := by simp; omega
            clear hd h1
            go_wp2
            go_ret2
            exact dig_fail HN.out rfl
      · obtain rfl : k = x.length := by omega
        have HN : Hid (RES = some (-(acc : Int))) := Lib.hid (by rw [HF.out, HS.out, List.drop_length]; rfl)
        have hcv : IntKind.i64.wrap (IntKind.u64.wrap (-(acc : Int))) = -(acc : Int) := neg_conv acc (by omega)
        go_wp2
        go_ret2
        exact dig_ok HN.out rfl
  · rw [int_plus hx0] at hRES
    obtain ⟨M, hM⟩ : ∃ M : Nat, M = 9223372036854775807 := ⟨_, rfl⟩
    rw [← hM] at hRES
    have HF : Hid (RES = (sMag M 0 x).map fun u => (u : Int)) := Lib.hid hRES.symm
    clear hRES
    have z := size_mkS (43 :: x)
    rw [List.length_cons] at z hl
    have t1 := toList_mkS (43 :: x)
    have x0 : (mkS (43 :: x))[0]'(by rw [z]; omega) = 43 := rfl
    have e1 := extract1_mkS 43 x
    have t2 := toList_mkS x
    have zx := size_mkS x
    have hx1 : x.isEmpty = false := by simpa using hx0
    clear hx0
    go_enter Tryz.func89, Tryz.ntmps89
    have hM9 : (9 : Int) ≤ (M : Int) := by omega
    have hM1 : (M : Int) ≤ 9223372036854775808 := by omega
    have HM := Lib.hid hM
    clear hM
    go_upto_if 28 with fail
    go_cut [5] from 29 to 30 (fun s5 wx => s5 = .int .u64 (M : Int) ∧ wx = w)
    case first =>
      go_wp2
      go_meet
      exact ⟨by rw [HM.out]; rfl, rfl⟩
    case rest =>
    obtain ⟨rfl, rfl⟩ := hcut
    go_wp2_with (fail)
    go_loop [33, 6] (fun i n => ∃ k acc : Nat, k ≤ x.length ∧ i = .int .i64 k ∧ n = .int .u64 (acc : Int) ∧ acc ≤ M ∧ Hid (sMag M 0 x = sMag M acc (x.drop k))) (fun i _ => x.length - (intOf i).toNat)
    case atStart => exact ⟨0, 0, by omega, rfl, rfl, by omega, Lib.hid rfl⟩
    case round =>
      obtain ⟨k, acc, hk, rfl, rfl, hacc, HS⟩ := hrel
      by_cases hlt : k < x.length
      · have hx := idx_bt x k hlt (by rw [zx]; exact hlt)
        have HD := Lib.hid (List.drop_eq_getElem_cons hlt)
        have h256 : (x[k].toNat : Int) < 256 := by have := x[k].toNat_lt; omega
        generalize x[k] = c at *
        by_cases hd : 48 ≤ c.toNat ∧ c.toNat ≤ 57
        · obtain ⟨D, hD⟩ : ∃ D : Nat, D = c.toNat - 48 := ⟨_, rfl⟩
          have hDn : (c.toNat : Int) - 48 = (D : Int) := by omega
          have hD9 : (D : Int) ≤ 9 := by omega
          have e1 : decide ((c.toNat : Int) < 48) = false := by simp; omega
          have e2 : decide ((57 : Int) < (c.toNat : Int)) = false := by simp; omega
          have hsub : IntKind.u8.wrap ((c.toNat : Int) - 48) = (D : Int) := by rw [hDn]; exact IntWalk.u8_in _ (by omega)
          have HST : Hid (sMag M acc (x.drop k) = if (M - D) / 10 < acc then none else sMag M (acc * 10 + D) (x.drop (k + 1))) := Lib.hid (by
            rw [HD.out]; simp only [sMag]; rw [if_neg (by omega), ← hD])
          clear hD hDn hd
          by_cases hbig : (M - D) / 10 < acc
          · have HN : Hid (RES = none) := Lib.hid (by rw [HF.out, HS.out, HST.out, if_pos hbig]; rfl)
            have e3 : decide (((M : Int) - (D : Int)) / 10 < (acc : Int)) = true := by simp; omega
            clear hbig HST
            go_wp2
            go_ret2
            exact dig_fail HN.out rfl
          · have HN : Hid (sMag M 0 x = sMag M (acc * 10 + D) (x.drop (k + 1))) := Lib.hid (by rw [HS.out, HST.out, if_neg hbig])
            have e3 : decide (((M : Int) - (D : Int)) / 10 < (acc : Int)) = false := by simp; omega
            have hle : acc * 10 + D ≤ M := by omega
            clear hbig HST
            go_wp2
            go_round
            case rel => exact ⟨k + 1, acc * 10 + D, by omega, by go_num, by go_num, hle, HN⟩
            case measure => simp [intOf]; omega
        · have HN : Hid (RES = none) := Lib.hid (by rw [HF.out, HS.out, HD.out]; simp only [sMag]; rw [if_pos (by omega)]; rfl)
          clear HD
          by_cases h1 : c.toNat < 48
          · have e1 : decide ((c.toNat : Int) < 48) = true := by simp; omega
            clear hd h1
            go_wp2
            go_ret2
            exact dig_fail HN.out rfl
          · have e1 : decide ((c.toNat : Int) < 48) = false := by simp; omega
            have e2 : decide ((57 : Int) < (c.toNat : Int)) = true := by simp; omega
            clear hd h1
            go_wp2
            go_ret2
            exact dig_fail HN.out rfl
      · obtain rfl : k = x.length := by omega
        have HN : Hid (RES = some (acc : Int)) := Lib.hid (by rw [HF.out, HS.out, List.drop_length]; rfl)
        have hcv : IntKind.i64.wrap (acc : Int) = (acc : Int) := IntWalk.i64_in _ (by have := HM.out; omega)
        go_wp2
        go_ret2
        exact dig_ok HN.out rfl
  · rw [int_bare hc] at hRES
    obtain ⟨x, hxe⟩ : ∃ x, x = c :: r := ⟨_, rfl⟩
    rw [← hxe] at hRES
    obtain ⟨M, hM⟩ : ∃ M : Nat, M = 9223372036854775807 := ⟨_, rfl⟩
    rw [← hM] at hRES
    have HF : Hid (RES = (sMag M 0 x).map fun u => (u : Int)) := Lib.hid hRES.symm
    clear hRES
    have zx := size_mkS x
    have hl0 : 0 < x.length := by rw [hxe]; simp
    have t1 := toList_mkS x
    have x0 : (mkS x)[0]'(by rw [zx]; omega) = c := by subst hxe; rfl
    have hx1 : x.isEmpty = false := by rw [hxe]; rfl
    have hl2 : x.length ≤ 1000000000 := by rw [hxe]; exact hl
    rw [← hxe]
    clear hxe hl
    have b1 : ((c.toNat : Int) == 45) = false := by rw [beq_eq_false_iff_ne]; omega
    have b2 : ((c.toNat : Int) == 43) = false := by rw [beq_eq_false_iff_ne]; omega
    clear hc
    go_enter Tryz.func89, Tryz.ntmps89
    have hM9 : (9 : Int) ≤ (M : Int) := by omega
    have hM1 : (M : Int) ≤ 9223372036854775808 := by omega
    have HM := Lib.hid hM
    clear hM
    go_upto_if 28 with fail
    go_cut [5] from 29 to 30 (fun s5 wx => s5 = .int .u64 (M : Int) ∧ wx = w)
    case first =>
      go_wp2
      go_meet
      exact ⟨by rw [HM.out]; rfl, rfl⟩
    case rest =>
    obtain ⟨rfl, rfl⟩ := hcut
    go_wp2_with (fail)
    go_loop [33, 6] (fun i n => ∃ k acc : Nat, k ≤ x.length ∧ i = .int .i64 k ∧ n = .int .u64 (acc : Int) ∧ acc ≤ M ∧ Hid (sMag M 0 x = sMag M acc (x.drop k))) (fun i _ => x.length - (intOf i).toNat)
    case atStart => exact ⟨0, 0, by omega, rfl, rfl, by omega, Lib.hid rfl⟩
    case round =>
      obtain ⟨k, acc, hk, rfl, rfl, hacc, HS⟩ := hrel
      by_cases hlt : k < x.length
      · have hx := idx_bt x k hlt (by rw [zx]; exact hlt)
        have HD := Lib.hid (List.drop_eq_getElem_cons hlt)
        have h256 : (x[k].toNat : Int) < 256 := by have := x[k].toNat_lt; omega
        generalize x[k] = c at *
        by_cases hd : 48 ≤ c.toNat ∧ c.toNat ≤ 57
        · obtain ⟨D, hD⟩ : ∃ D : Nat, D = c.toNat - 48 := ⟨_, rfl⟩
          have hDn : (c.toNat : Int) - 48 = (D : Int) := by omega
          have hD9 : (D : Int) ≤ 9 := by omega
          have e1 : decide ((c.toNat : Int) < 48) = false := by simp; omega
          have e2 : decide ((57 : Int) < (c.toNat : Int)) = false := by simp; omega
          have hsub : IntKind.u8.wrap ((c.toNat : Int) - 48) = (D : Int) := by rw [hDn]; exact IntWalk.u8_in _ (by omega)
          have HST : Hid (sMag M acc (x.drop k) = if (M - D) / 10 < acc then none else sMag M (acc * 10 + D) (x.drop (k + 1))) := Lib.hid (by
            rw [HD.out]; simp only [sMag]; rw [if_neg (by omega), ← hD])
          clear hD hDn hd
          by_cases hbig : (M - D) / 10 < acc
          · have HN : Hid (RES = none) := Lib.hid (by rw [HF.out, HS.out, HST.out, if_pos hbig]; rfl)
            have e3 : decide (((M : Int) - (D : Int)) / 10 < (acc : Int)) = true := by simp; omega
            clear hbig HST
            go_wp2
            go_ret2
            exact dig_fail HN.out rfl
          · have HN : Hid (sMag M 0 x = sMag M (acc * 10 + D) (x.drop (k + 1))) := Lib.hid (by rw [HS.out, HST.out, if_neg hbig])
            have e3 : decide (((M : Int) - (D : Int)) / 10 < (acc : Int)) = false := by simp; omega
            have hle : acc * 10 + D ≤ M := by omega
            clear hbig HST
            go_wp2
            go_round
            case rel => exact ⟨k + 1, acc * 10 + D, by omega, by go_num, by go_num, hle, HN⟩
            case measure => simp [intOf]; omega
        · have HN : Hid (RES = none) := Lib.hid (by rw [HF.out, HS.out, HD.out]; simp only [sMag]; rw [if_pos (by omega)]; rfl)
          clear HD
          by_cases h1 : c.toNat < 48
          · have e1 : decide ((c.toNat : Int) < 48) = true := by simp; omega
            clear hd h1
            go_wp2
            go_ret2
            exact dig_fail HN.out rfl
          · have e1 : decide ((c.toNat : Int) < 48) = false := by simp; omega
            have e2 : decide ((57 : Int) < (c.toNat : Int)) = true := by simp; omega
            clear hd h1
            go_wp2
            go_ret2
            exact dig_fail HN.out rfl
      · obtain rfl : k = x.length := by omega
        have HN : Hid (RES = some (acc : Int)) := Lib.hid (by rw [HF.out, HS.out, List.drop_length]; rfl)
        have hcv : IntKind.i64.wrap (acc : Int) = (acc : Int) := IntWalk.i64_in _ (by have := HM.out; omega)
        go_wp2
        go_ret2
        exact dig_ok HN.out rfl
end Go.Proofs.YtcfbkkcamiephaaGreatDoor
namespace Go.Proofs.YtcfbkkcamiephaaGreatDoor
open Go.RowKit

/-! ### the reference: weekdays -/
theorem ix_day (k : Nat) (hk : k < 7) (W : World) : (Instr.index 96 (.agg #[.string (mkS (dayL 0)), .string (mkS (dayL 1)), .string (mkS (dayL 2)), .string (mkS (dayL 3)), .string (mkS (dayL 4)), .string (mkS (dayL 5)), .string (mkS (dayL 6))]) (.int .i64 (k : Int))).run Tryz.prog W = .ok (.string (mkS (dayL k))) W := by
  rcases (show k = 0 ∨ k = 1 ∨ k = 2 ∨ k = 3 ∨ k = 4 ∨ k = 5 ∨ k = 6 by omega) with rfl | rfl | rfl | rfl | rfl | rfl | rfl
  · exact ix96_0 _ _ _ _ _ _ _ _
  · exact ix96_1 _ _ _ _ _ _ _ _
  · exact ix96_2 _ _ _ _ _ _ _ _
  · exact ix96_3 _ _ _ _ _ _ _ _
  · exact ix96_4 _ _ _ _ _ _ _ _
  · exact ix96_5 _ _ _ _ _ _ _ _
  · exact ix96_6 _ _ _ _ _ _ _ _
theorem day_cases (l : List UInt8) : (∃ j : Nat, j < 7 ∧ l = dayL j ∧ dayI l = some j) ∨ ((∀ j, j < 7 → (l == dayL j) = false) ∧ dayI l = none) := by
  have h : ∀ j, (mkS l = dayNm j) ↔ l = dayL j := fun j => by
    rw [dayL_nm]; exact ⟨mkS_inj, fun h => by rw [h]⟩
  by_cases hh : ∃ j : Nat, j < 7 ∧ l = dayL j
  · obtain ⟨j, hj, rfl⟩ := hh
    exact .inl ⟨j, hj, rfl, dayI_L j (by omega)⟩
  · right
    have hn : ∀ j, j < 7 → l ≠ dayL j := fun j hj e => hh ⟨j, hj, e⟩
    refine ⟨fun j hj => by simpa using hn j hj, ?_⟩
    unfold dayI
    simp only [h]
    rw [if_neg (hn 0 (by omega)), if_neg (hn 1 (by omega)), if_neg (hn 2 (by omega)), if_neg (hn 3 (by omega)), if_neg (hn 4 (by omega)), if_neg (hn 5 (by omega)), if_neg (hn 6 (by omega))]
theorem dayL_inj {i j : Nat} (hi : i < 7) (hj : j < 7) (h : dayL i = dayL j) : i = j := by
  have : ∀ a : Fin 7, ∀ b : Fin 7, dayL a.1 = dayL b.1 → a = b := by decide
  exact Fin.mk.inj (this ⟨i, hi⟩ ⟨j, hj⟩ h)
def DaySPost (w : World) (R : Option (Int × Int)) (e : Ending) (w' : World) : Prop := ∃ d n, e = .returned (.tuple #[.agg #[.int .i64 d, .int .i64 n], .bool R.isSome]) ∧ Below w.heap.size w w' ∧ ∀ x, R = some x → x = (d, n)
theorem dayS_no {w w' : World} {R : Option (Int × Int)} {e : Ending} {d n : Int} (h : R = none) (he : e = .returned (.tuple #[.agg #[.int .i64 d, .int .i64 n], .bool false])) (hb : Below w.heap.size w w') : DaySPost w R e w' := by
  rw [h]; exact ⟨d, n, he, hb, fun x hx => by cases hx⟩
theorem dayS_ok {w w' : World} {R : Option (Int × Int)} {e : Ending} {d n : Int} (h : R = some (d, n)) (he : e = .returned (.tuple #[.agg #[.int .i64 d, .int .i64 n], .bool true])) (hb : Below w.heap.size w w') : DaySPost w R e w' := by
  rw [h]; exact ⟨d, n, he, hb, fun x hx => by cases hx; rfl⟩
set_option maxRecDepth 100000 in
set_option maxHeartbeats 6400000 in
/-- textDay. -/
theorem dayS_any (l : List UInt8) (w : World) (hG : DayNms w) (hl : l.length ≤ 1000000000) : Calls Tryz.prog 90 #[.string (mkS l)] w (DaySPost w (dayT l)) := by
  have zl := size_mkS l
  have hw0 : 0 < w.heap.size := World.block_lt_of_cell? w _ (hG.dn 0 (by omega))
  have hne : (0 : Nat) ≠ w.heap.size := by omega
  have hB : Below w.heap.size w (w.alloc (.cells #[.int .i64 0, .int .i64 0] 59)) := (Below.refl _ _).alloc (Nat.le_refl _) _
  have c0 : w.cell? ⟨0, 0, none⟩ = some (.string (mkS (dayL 0))) := (hG.dn 0 (by omega)).trans (by rw [dayL_nm])
  have c1 : w.cell? ⟨0, 1, none⟩ = some (.string (mkS (dayL 1))) := (hG.dn 1 (by omega)).trans (by rw [dayL_nm])
  have c2 : w.cell? ⟨0, 2, none⟩ = some (.string (mkS (dayL 2))) := (hG.dn 2 (by omega)).trans (by rw [dayL_nm])
  have c3 : w.cell? ⟨0, 3, none⟩ = some (.string (mkS (dayL 3))) := (hG.dn 3 (by omega)).trans (by rw [dayL_nm])
  have c4 : w.cell? ⟨0, 4, none⟩ = some (.string (mkS (dayL 4))) := (hG.dn 4 (by omega)).trans (by rw [dayL_nm])
  have c5 : w.cell? ⟨0, 5, none⟩ = some (.string (mkS (dayL 5))) := (hG.dn 5 (by omega)).trans (by rw [dayL_nm])
  have c6 : w.cell? ⟨0, 6, none⟩ = some (.string (mkS (dayL 6))) := (hG.dn 6 (by omega)).trans (by rw [dayL_nm])
  clear hG
  generalize hR : dayT l = R
  have HB := Lib.hid hB
  clear hB
  rcases Nat.lt_or_ge l.length 2 with h2 | h2
  · have HR : Hid (R = none) := Lib.hid (by rw [← hR]; unfold dayT; rw [if_pos h2])
    have hd : decide ((l.length : Int) < 2) = true := by simp; omega
    clear hR h2
    go_enter Tryz.func90, Tryz.ntmps90
    go_wp2
    refine bodyPost_ret (v := .tuple #[.agg #[.int .i64 0, .int .i64 0], .bool false]) (by simp [results, Tryz.results90, go_sem]) rfl (dayS_no HR.out rfl ?_)
    repeat (first | exact Below.refl _ _ | refine Below.setCell ?_ (by simp) _ | refine Below.alloc ?_ (by first | (simp; done) | (simp; omega)) _)
  have hd : decide ((l.length : Int) < 2) = false := by simp; omega
  have e1 := extract_tail2 l h2
  have e2 := extract_head2 l (l.length - 2)
  have hsb : (((l.length - 2 : Nat) : Nat) : Int) = (l.length : Int) - 2 := by omega
  have htl : (l.drop (l.length - 2)).length = 2 := by rw [List.length_drop]; omega
  have tt := toList_mkS (l.drop (l.length - 2))
  have hcs := day_cases (l.drop (l.length - 2))
  have hRR : R = match dayI (l.drop (l.length - 2)) with
    | none => none
    | some d => if 2 < l.length then (match atoiO (l.take (l.length - 2)) with
      | none => none
      | some n => some ((d : Int), n)) else some ((d : Int), 0) := by rw [← hR]; unfold dayT; rw [if_neg (by omega)]; rfl
  have hint := fun w => intS_any (l.take (l.length - 2)) w (by rw [List.length_take]; omega)
  rw [intS_eq] at hint
  clear hR htl
  generalize l.drop (l.length - 2) = y at *
  generalize l.take (l.length - 2) = x at *
  obtain ⟨m, hm⟩ : ∃ m : Nat, l.length = m + 2 := ⟨l.length - 2, by omega⟩
  rw [hm] at zl hd e1 e2 hl
  rw [hm] at hRR
  simp only [Nat.add_sub_cancel] at e1 e2
  clear h2 hsb hm
  have CLS := True.intro
  rcases hcs with ⟨j, hj, hy, hdi⟩ | ⟨hno, hdi⟩
  · rw [hdi] at hRR
    simp only at hRR
    have HQ : Hid (∀ k, k < j → (y == dayL k) = false) := Lib.hid (fun k hk => by
      rw [hy, beq_eq_false_iff_ne]; intro e; have := dayL_inj hj (by omega) e; omega)
    have HE : Hid ((y == dayL j) = true) := Lib.hid (by rw [hy]; simp)
    clear hdi hy CLS
    obtain ⟨J, hJ⟩ : ∃ J : Nat, J = j := ⟨j, rfl⟩
    subst hJ
    by_cases hm0 : m = 0
    · subst hm0
      rw [if_neg (by omega)] at hRR
      have HR := Lib.hid hRR
      clear hRR hint e2
      go_enter Tryz.func90, Tryz.ntmps90
      go_wp2_with (fail)
      go_loop [13] (fun i => ∃ k : Nat, k ≤ J ∧ i = .int .i64 k) (fun i => 8 - (intOf i).toNat)
      case atStart => exact ⟨0, by omega, rfl⟩
      case round =>
        obtain ⟨k, hk, rfl⟩ := hrel
        by_cases hlt : k < J
        · have hk7 : k < 7 := by omega
          have hix := ix_day k hk7
          have tk := toList_mkS (dayL k)
          have hq : (y == dayL k) = false := HQ.out k hlt
          go_wp2
          go_round
          case rel => exact ⟨k + 1, by omega, by go_num⟩
          case measure => simp [intOf]; omega
        · obtain rfl : k = J := by omega
          clear hlt hk
          have hix := ix_day k hj
          have tk := toList_mkS (dayL k)
          have hq : (y == dayL k) = true := HE.out
          go_wp2_with (fail)
          refine bodyPost_ret (v := .tuple #[.agg #[.int .i64 (k : Int), .int .i64 0], .bool true]) (by simp [results, Tryz.results90, go_sem]) rfl (dayS_ok HR.out rfl ?_)
          repeat (first | exact HB.out | exact Below.refl _ _ | refine Below.setCell ?_ (by simp) _ | refine Below.alloc ?_ (by first | (simp; done) | (simp; omega)) _)
    · rw [if_pos (by omega)] at hRR
      have h2e : (((m : Int) + 2) == 2) = false := by rw [beq_eq_false_iff_ne]; omega
      clear hm0
      cases hA : atoiO x with
      | none =>
        rw [hA] at hint hRR
        have HR := Lib.hid hRR
        have H89 := Lib.hid hint
        clear hRR hint hA
        go_enter Tryz.func90, Tryz.ntmps90
        go_wp2_with (fail)
        go_loop [13] (fun i => ∃ k : Nat, k ≤ J ∧ i = .int .i64 k) (fun i => 8 - (intOf i).toNat)
        case atStart => exact ⟨0, by omega, rfl⟩
        case round =>
          obtain ⟨k, hk, rfl⟩ := hrel
          by_cases hlt : k < J
          · have hk7 : k < 7 := by omega
            have hix := ix_day k hk7
            have tk := toList_mkS (dayL k)
            have hq : (y == dayL k) = false := HQ.out k hlt
            go_wp2
            go_round
            case rel => exact ⟨k + 1, by omega, by go_num⟩
            case measure => simp [intOf]; omega
          · obtain rfl : k = J := by omega
            clear hlt hk
            have hix := ix_day k hj
            have tk := toList_mkS (dayL k)
            have hq : (y == dayL k) = true := HE.out
            go_wp2_with (first
              | (go_at_call 89; go_must (refine (H89.out _).mono ?_; rintro e w1 ⟨rfl, rfl⟩))
              | (fail))
            refine bodyPost_ret (v := .tuple #[.agg #[.int .i64 (k : Int), .int .i64 0], .bool false]) (by simp [results, Tryz.results90, go_sem]) rfl (dayS_no HR.out rfl ?_)
            repeat (first | exact HB.out | exact Below.refl _ _ | refine Below.setCell ?_ (by simp) _ | refine Below.alloc ?_ (by first | (simp; done) | (simp; omega)) _)
      | some n =>
        rw [hA] at hint hRR
        have HR := Lib.hid hRR
        have H89 := Lib.hid hint
        clear hRR hint hA
        go_enter Tryz.func90, Tryz.ntmps90
        go_wp2_with (fail)
        go_loop [13] (fun i => ∃ k : Nat, k ≤ J ∧ i = .int .i64 k) (fun i => 8 - (intOf i).toNat)
        case atStart => exact ⟨0, by omega, rfl⟩
        case round =>
          obtain ⟨k, hk, rfl⟩ := hrel
          by_cases hlt : k < J
          · have hk7 : k < 7 := by omega
            have hix := ix_day k hk7
            have tk := toList_mkS (dayL k)
            have hq : (y == dayL k) = false := HQ.out k hlt
            go_wp2
            go_round
            case rel => exact ⟨k + 1, by omega, by go_num⟩
            case measure => simp [intOf]; omega
          · obtain rfl : k = J := by omega
            clear hlt hk
            have hix := ix_day k hj
            have tk := toList_mkS (dayL k)
            have hq : (y == dayL k) = true := HE.out
            go_wp2_with (first
              | (go_at_call 89; go_must (refine (H89.out _).mono ?_; rintro e w1 ⟨rfl, rfl⟩))
              | (fail))
            refine bodyPost_ret (v := .tuple #[.agg #[.int .i64 (k : Int), .int .i64 n], .bool true]) (by simp [results, Tryz.results90, go_sem]) rfl (dayS_ok HR.out rfl ?_)
            repeat (first | exact HB.out | exact Below.refl _ _ | refine Below.setCell ?_ (by simp) _ | refine Below.alloc ?_ (by first | (simp; done) | (simp; omega)) _)
  · rw [hdi] at hRR
    have HR := Lib.hid hRR
    have HQ : Hid (∀ k, k < 7 → (y == dayL k) = false) := Lib.hid hno
    obtain ⟨J, hJ⟩ : ∃ J : Nat, J = 7 := ⟨7, rfl⟩
    rw [← hJ] at HQ
    clear hRR hint hno hdi CLS
    go_enter Tryz.func90, Tryz.ntmps90
    go_wp2_with (fail)
    go_loop [13] (fun i => ∃ k : Nat, k ≤ J ∧ i = .int .i64 k) (fun i => 8 - (intOf i).toNat)
    case atStart => exact ⟨0, by omega, rfl⟩
    case round =>
      obtain ⟨k, hk, rfl⟩ := hrel
      by_cases hlt : k < J
      · have hk7 : k < 7 := by omega
        have hix := ix_day k hk7
        have tk := toList_mkS (dayL k)
        have hq : (y == dayL k) = false := HQ.out k hlt
        go_wp2
        go_round
        case rel => exact ⟨k + 1, by omega, by go_num⟩
        case measure => simp [intOf]; omega
      · obtain rfl : k = J := by omega
        subst hJ
        clear hlt hk
        go_wp2_with (fail)
        refine bodyPost_ret (v := .tuple #[.agg #[.int .i64 0, .int .i64 0], .bool false]) (by simp [results, Tryz.results90, go_sem]) rfl (dayS_no HR.out rfl ?_)
        repeat (first | exact HB.out | exact Below.refl _ _ | refine Below.setCell ?_ (by simp) _ | refine Below.alloc ?_ (by first | (simp; done) | (simp; omega)) _)
theorem dayS_none (l : List UInt8) (w : World) (hG : DayNms w) (hl : l.length ≤ 1000000000) (h : dayT l = none) : Calls Tryz.prog 90 #[.string (mkS l)] w fun e w' => ∃ d n, e = .returned (.tuple #[.agg #[.int .i64 d, .int .i64 n], .bool false]) ∧ Below w.heap.size w w' :=
  (dayS_any l w hG hl).mono fun e w' ⟨d, n, he, hb, _⟩ => by rw [h] at he; exact ⟨d, n, he, hb⟩
theorem dayS_some (l : List UInt8) (w : World) (hG : DayNms w) (hl : l.length ≤ 1000000000) (d n : Int) (h : dayT l = some (d, n)) : Calls Tryz.prog 90 #[.string (mkS l)] w fun e w' => e = .returned (.tuple #[.agg #[.int .i64 d, .int .i64 n], .bool true]) ∧ Below w.heap.size w w' :=
  (dayS_any l w hG hl).mono fun e w' ⟨d', n', he, hb, hx⟩ => by
    have := hx _ h
    injection this with h1 h2
    rw [h] at he; subst h1; subst h2; exact ⟨he, hb⟩
end Go.Proofs.YtcfbkkcamiephaaGreatDoor
namespace Go.Proofs.YtcfbkkcamiephaaGreatDoor
open Go.RowKit

theorem add_pl0 (b i : Nat) : (⟨b, 0, none⟩ : Addr).add i = ⟨b, i, none⟩ := by rw [add_pl, Nat.zero_add]
/-! ### the reference: numbers with commas between them -/
def intV (z : Int) : Value := .int .i64 z
theorem ints_own {w : World} {B N : Nat} {v : Value} {zs : List Int} (h : w.ownsRow B 3 1 v zs.length (zs.map intV)) (hN : N < B) : IntsN w N v zs := by
  have h' := h
  obtain ⟨h1, h2⟩ := h
  rcases h2 with ⟨hv, h0⟩ | ⟨g, cap, cur, hv, hb, hh, hc, hm, hs, ht⟩
  · exact .inl ⟨List.eq_nil_of_length_eq_zero h0, hv⟩
  · refine .inr ⟨g, cap, hv, hc, by omega, (Array.getElem?_eq_some_iff.1 hh).1, fun i p hp => ?_⟩
    have hcell := h'.cells (g := g) (by rw [hv]; rfl)
    rw [← add_pl0 g i]
    exact hcell i _ (by rw [List.getElem?_map, hp]; rfl)
theorem Tryz.info3s : (Tryz.prog.info? 3).map (fun i => (i.zero, i.size, i.bytes)) = some (some (.int .i64 0), 1, 8) := by kernel_rfl
def IntsSPost (w : World) (R : Option (List Int)) (e : Ending) (w' : World) : Prop := Below w.heap.size w w' ∧ match R with
  | none => e = .returned (.tuple #[.slice none 0 0, .bool false])
  | some xs => ∃ v, e = .returned (.tuple #[v, .bool true]) ∧ w'.ownsRow w.heap.size 3 1 v xs.length (xs.map intV)
theorem intsS_no {w w' : World} {R : Option (List Int)} {e : Ending} (h : R = none) (he : e = .returned (.tuple #[.slice none 0 0, .bool false])) (hb : Below w.heap.size w w') : IntsSPost w R e w' := by
  rw [h]; exact ⟨hb, he⟩
theorem intsS_ok {w w' : World} {R : Option (List Int)} {xs : List Int} {e : Ending} {v : Value} (h : R = some xs) (he : e = .returned (.tuple #[v, .bool true])) (hb : Below w.heap.size w w') (ho : w'.ownsRow w.heap.size 3 1 v xs.length (xs.map intV)) : IntsSPost w R e w' := by
  rw [h]; exact ⟨hb, v, he, ho⟩
theorem own_base {w : World} {B C : Nat} {e : TypeId} {k : Nat} {v : Value} {n : Nat} {xs : List Value} (h : w.ownsRow B e k v n xs) (hC : C ≤ B) : w.ownsRow C e k v n xs := by
  obtain ⟨h1, h2⟩ := h
  refine ⟨h1, ?_⟩
  rcases h2 with h2 | ⟨g, cap, cur, hv, hb, hr⟩
  · exact .inl h2
  · exact .inr ⟨g, cap, cur, hv, Nat.le_trans hC hb, hr⟩
set_option maxRecDepth 100000 in
set_option maxHeartbeats 1600000 in
/-- textIntList. -/
theorem intsS_walk (l : List UInt8) (ps : List (List UInt8)) (R : Option (List Int)) (hR : intsL ps = R) (w : World) (hps : ps.length ≤ 1000000001) (hpl : ∀ p ∈ ps, p.length ≤ 1000000000)
    (hsp : ∀ w, Calls Tryz.prog 54 #[.string (mkS l), .int .u8 44] w (SplitPost w (ps.map mkS))) :
    Calls Tryz.prog 91 #[.string (mkS l)] w (IntsSPost w R) := by
  have HR := Lib.hid hR; clear hR
  have H := Lib.hid hsp; clear hsp
  have HP := Lib.hid hpl; clear hpl
  go_enter Tryz.func91, Tryz.ntmps91
  go_wp2_with (first
    | (go_at_call 54; go_must (refine (H.out _).mono ?_; rintro e w1 ⟨g, cc, rfl, hg, hrow, hb1⟩; rw [List.length_map]))
    | (fail))
  obtain ⟨N1, hN1⟩ : ∃ N1 : Nat, N1 = w1.heap.size := ⟨_, rfl⟩
  have HN1 := Lib.hid hN1
  have hNw : w.heap.size ≤ N1 := by rw [hN1]; exact hb1.size
  have HB1 := Lib.hid hb1
  have HROW := Lib.hid hrow
  clear hb1 hrow hN1
  go_loopw [4, 12] (fun v i wr => ∃ (k : Nat) (ns : List Int), k ≤ ps.length ∧ i = .int .i64 k ∧ ns.length = k ∧ wr.ownsRow N1 3 1 v ns.length (ns.map intV) ∧ Hid (intsL ps = (intsL (ps.drop k)).map (ns ++ ·)) ∧ Below N1 w1 wr) (fun _ i _ => ps.length - (intOf i).toNat)
  case atStart => exact ⟨0, [], by omega, rfl, rfl, World.ownsRow_nil _ _ _ _, by unfold Hid; simp, Below.refl _ _⟩
  case round =>
    obtain ⟨k, ns, hk, rfl, hns, hown, hT, hb⟩ := hrel
    have hs : StrRow wr g cc (ps.map mkS) := HROW.out.below (by rw [← HN1.out]; exact hb)
    have hbz : N1 ≤ wr.heap.size := by rw [HN1.out]; exact hb.size
    have HBW : Hid (Below w.heap.size w wr) := Lib.hid (HB1.out.trans (hb.mono hNw))
    by_cases hlt : k < ps.length
    · have hcell := hs.cell k (mkS ps[k]) (by simp [hlt])
      have hT2 := hT.out
      rw [List.drop_eq_getElem_cons hlt] at hT2
      simp only [intsL] at hT2
      have hat := fun w => intS_any ps[k] w (HP.out _ (List.getElem_mem hlt))
      rw [intS_eq] at hat
      generalize ps[k] = p at hcell hT2 hat
      have hlk : ns.length ≤ 1000000000000 := by omega
      cases hA : atoiO p with
      | none =>
        rw [hA] at hT2 hat
        have HAT := Lib.hid hat
        have HT2 : Hid (intsL ps = none) := Lib.hid hT2
        have HNS := Lib.hid hns
        clear hat hA hT hT2 hns
        go_wp2_with (first
          | (go_at_call 89; go_must (refine (HAT.out _).mono ?_; rintro e w3 ⟨rfl, rfl⟩))
          | (fail))
        go_ret2
        exact intsS_no (HR.out.symm.trans HT2.out) rfl HBW.out
      | some x =>
        rw [hA] at hT2 hat
        have HAT := Lib.hid hat
        have HT2 : Hid (intsL ps = (intsL (ps.drop (k + 1))).map ((ns ++ [x]) ++ ·)) := Lib.hid (by
          rw [hT2]; simp [Option.map_map, Function.comp_def])
        have HNS := Lib.hid hns
        clear hat hA hT hT2 hns
        go_wp2_with (first
          | (go_at_call 89; go_must (refine (HAT.out _).mono ?_; rintro e w3 ⟨rfl, rfl⟩))
          | (at_builtin; go_must (refine app1 N1 _ _ 23 (.int .i64 0) 8 Tryz.underlying23 Tryz.info3s rfl rfl hown hb hbz hlk (by omega) rfl rfl rfl rfl ?_); intro v' w3 hown' hb3 hsz3)
          | (fail))
        go_roundw
        case rel => exact ⟨k + 1, ns ++ [x], by omega, by go_num, by rw [List.length_append, HNS.out]; rfl, by rw [List.map_append, List.length_append]; exact hown', HT2, hb3⟩
        case measure => simp [intOf]; omega
    · obtain rfl : k = ps.length := by omega
      have HT2 : Hid (intsL ps = some ns) := Lib.hid (by rw [hT.out, List.drop_length]; simp [intsL])
      clear hT hns
      go_wp2
      go_ret2
      exact intsS_ok (HR.out.symm.trans HT2.out) rfl HBW.out (own_base hown hNw)
theorem intsS_any (l : List UInt8) (w : World) (hl : l.length ≤ 1000000000) : Calls Tryz.prog 91 #[.string (mkS l)] w (IntsSPost w (intsT l)) :=
  intsS_walk l (splitL 44 l) _ rfl w (Nat.le_trans (splitL_len 44 l) (by omega)) (fun _ hp => Nat.le_trans (split_len hp) hl) (fun w => splitS_any l 44 w hl)
end Go.Proofs.YtcfbkkcamiephaaGreatDoor
