import Derived.Test.YtcfbkkcamiephaaGreatDoorB1
namespace Go.Proofs.YtcfbkkcamiephaaGreatDoor
open Go.RowKit

/-! ### digits -/
def isD (c : UInt8) : Bool := decide (48 ≤ c.toNat) && decide (c.toNat ≤ 57)
def numFrom (a : Int) : List UInt8 → Int
  | [] => a
  | c :: r => numFrom (10 * a + ((c.toNat : Int) - 48)) r
def takeD (k : Nat) (l : List UInt8) : Option (Int × List UInt8) := if k ≤ l.length ∧ (l.take k).all isD = true then some (numFrom 0 (l.take k), l.drop k) else none
theorem numFrom_snoc (a : Int) (l : List UInt8) (c : UInt8) : numFrom a (l ++ [c]) = 10 * numFrom a l + ((c.toNat : Int) - 48) := by
  induction l generalizing a with
  | nil => rfl
  | cons x r ih => exact ih _
theorem numFrom_bd (a : Int) (l : List UInt8) (h : l.all isD = true) (h0 : 0 ≤ a) : a ≤ numFrom a l ∧ numFrom a l < (a + 1) * 10 ^ l.length := by
  induction l generalizing a with
  | nil => simp [numFrom]; omega
  | cons x r ih =>
    simp [isD] at h
    obtain ⟨⟨h1, h2⟩, h3⟩ := h
    have := ih (10 * a + ((x.toNat : Int) - 48)) (by simpa [isD] using h3) (by omega)
    simp only [numFrom, List.length_cons, Int.pow_succ]
    refine ⟨by omega, Int.lt_of_lt_of_le this.2 ?_⟩
    rw [Int.mul_comm (10 ^ r.length) 10, ← Int.mul_assoc]
    exact Int.mul_le_mul_of_nonneg_right (by omega) (Int.le_of_lt (Int.pow_pos (by omega)))
theorem takeD_some {k : Nat} {l : List UInt8} {n : Int} {r : List UInt8} (h : takeD k l = some (n, r)) : k ≤ l.length ∧ (l.take k).all isD = true ∧ n = numFrom 0 (l.take k) ∧ r = l.drop k := by
  unfold takeD at h
  split at h
  · rename_i g; simp at h; exact ⟨g.1, g.2, h.1.symm, h.2.symm⟩
  · cases h
theorem takeD_none {k : Nat} {l : List UInt8} (h : takeD k l = none) (hk : k ≤ l.length) : ¬ (l.take k).all isD = true := by
  unfold takeD at h
  split at h
  · cases h
  · rename_i g; exact fun h => g ⟨hk, h⟩
theorem takeD_bd {k : Nat} {l : List UInt8} {n : Int} {r : List UInt8} (h : takeD k l = some (n, r)) : 0 ≤ n ∧ n < 10 ^ k := by
  obtain ⟨h1, h2, rfl, _⟩ := takeD_some h
  have := numFrom_bd 0 _ h2 (by omega)
  rw [List.length_take_of_le h1] at this
  simpa using this
theorem all_take_at {l : List UInt8} {k j : Nat} (h : (l.take k).all isD = true) (hj : j < k) (hl : j < l.length) : 48 ≤ l[j].toNat ∧ l[j].toNat ≤ 57 := by
  have := List.all_eq_true.1 h l[j] (by rw [List.mem_take_iff_getElem]; exact ⟨j, by omega, rfl⟩)
  simpa [isD] using this
theorem all_take_succ {l : List UInt8} {j : Nat} (hl : j < l.length) : (l.take (j + 1)).all isD = ((l.take j).all isD && isD l[j]) := by
  rw [List.take_succ_eq_append_getElem hl, List.all_append]; simp
theorem idx_bt (l : List UInt8) (k : Nat) (h : k < l.length) (h2 : k < (mkS l).size) : (mkS l)[k] = l[k] := (fun _ => rfl) h
theorem numFrom_take {l : List UInt8} {j : Nat} (hl : j < l.length) : numFrom 0 (l.take (j + 1)) = 10 * numFrom 0 (l.take j) + ((l[j].toNat : Int) - 48) := by
  rw [List.take_succ_eq_append_getElem hl, numFrom_snoc]

set_option maxRecDepth 100000 in
set_option maxHeartbeats 400000 in
theorem dig_yes (l r : List UInt8) (k : Nat) (n : Int) (w : World) (hk : k ≤ 4) (hl : l.length ≤ 1000000000) (h : takeD k l = some (n, r)) :
    Calls Tryz.prog 167 #[.string (mkS l), .int .i64 k] w fun e w' => e = .returned (.tuple #[.int .i64 n, .string (mkS r), .bool true]) ∧ ∃ q, w' = w.drewN q := by
  obtain ⟨hkl, hall, hn, hr⟩ := takeD_some h
  have HN := Lib.hid hn
  have HR := Lib.hid hr
  have HAll := Lib.hid hall
  have hsz := size_mkS l
  clear h hn hr hall
  have h2 : ¬ l.length < k := by omega
  go_enter Tryz.func167, Tryz.ntmps167
  go_wp2
  go_loop [7, 8] (fun o i => ∃ j : Nat, j ≤ k ∧ i = .int .i64 j ∧ o = .int .i64 (numFrom 0 (l.take j))) (fun _ i => k - (intOf i).toNat)
  case atStart => exact ⟨0, by omega, rfl, rfl⟩
  case round =>
    obtain ⟨j, hj, rfl, rfl⟩ := hrel
    by_cases hlt : j < k
    · have hx := idx_bt l j (by omega) (by rw [hsz]; omega)
      obtain ⟨d1, d2⟩ := all_take_at HAll.out hlt (by omega)
      have hsn := numFrom_take (l := l) (j := j) (by omega)
      have ha : (l.take j).all isD = true := by
        have := HAll.out
        rw [List.all_eq_true] at this ⊢
        exact fun x hx => this x ((List.take_sublist_take_left (by omega)).mem hx)
      obtain ⟨b1, b2⟩ := numFrom_bd 0 _ ha (by omega)
      have b3 : numFrom 0 (l.take j) < 10000 := by
        rw [List.length_take_of_le (by omega)] at b2
        have : (10 : Int) ^ j ≤ 10 ^ 4 := by
          rcases (show j = 0 ∨ j = 1 ∨ j = 2 ∨ j = 3 from by omega) with rfl | rfl | rfl | rfl <;> decide
        omega
      have HS := Lib.hid hsn
      clear hsn ha b2
      go_wp2
      go_round
      case rel => exact ⟨j + 1, by omega, by go_num, by rw [HS.out]; rfl⟩
      case measure => simp [intOf]; omega
    · obtain rfl : j = k := by omega
      go_wp2
      go_quiet (fail)
      go_wp2
      go_ret3
      refine ⟨?_, ⟨_, rfl⟩⟩
      rw [HN.out, HR.out]
      show Ending.returned (.tuple #[.int .i64 _, .string ((mkS l).extract _ _), .bool true]) = _
      rw [← mkS_eq ((mkS l).extract j l.length), ← size_mkS l, extract_tail]
      rfl

set_option maxRecDepth 100000 in
set_option maxHeartbeats 400000 in
theorem dig_no (l : List UInt8) (k : Nat) (w : World) (hl : l.length ≤ 1000000000) (h : takeD k l = none) (hk4 : k ≤ 4) :
    Calls Tryz.prog 167 #[.string (mkS l), .int .i64 k] w fun e w' => e = .returned (.tuple #[.int .i64 0, .string (mkS l), .bool false]) ∧ ∃ q, w' = w.drewN q := by
  have hsz := size_mkS l
  by_cases hkl : l.length < k
  · clear h
    go_enter Tryz.func167, Tryz.ntmps167
    go_wp2
    go_ret3
    exact ⟨rfl, ⟨0, rfl⟩⟩
  · have hall := takeD_none h (by omega)
    have HAll : Hid (¬ (l.take k).all isD = true) := hall
    clear h hall
    go_enter Tryz.func167, Tryz.ntmps167
    go_wp2
    go_loop [7, 8] (fun o i => ∃ j : Nat, j ≤ k ∧ i = .int .i64 j ∧ o = .int .i64 (numFrom 0 (l.take j)) ∧ Hid ((l.take j).all isD = true)) (fun _ i => k - (intOf i).toNat)
    case atStart => exact ⟨0, by omega, rfl, rfl, by unfold Hid; simp⟩
    case round =>
      obtain ⟨j, hj, rfl, rfl, ha⟩ := hrel
      by_cases hlt : j < k
      · have hx := idx_bt l j (by omega) (by rw [hsz]; omega)
        have hb : l[j].toNat < 256 := l[j].toNat_lt
        obtain ⟨b1, b2⟩ := numFrom_bd 0 _ ha.out (by omega)
        have b3 : numFrom 0 (l.take j) < 10000 := by
          rw [List.length_take_of_le (by omega)] at b2
          have : (10 : Int) ^ j ≤ 10 ^ 4 := by
            rcases (show j = 0 ∨ j = 1 ∨ j = 2 ∨ j = 3 from by omega) with rfl | rfl | rfl | rfl <;> decide
          omega
        by_cases hd : 48 ≤ l[j].toNat ∧ l[j].toNat ≤ 57
        · obtain ⟨d1, d2⟩ := hd
          have hsn := numFrom_take (l := l) (j := j) (by omega)
          have HS := Lib.hid hsn
          clear hsn b2
          go_wp2
          go_round
          case rel => exact ⟨j + 1, by omega, by go_num, by rw [HS.out]; rfl, by unfold Hid; rw [all_take_succ (by omega), ha.out]; simp [isD, d1, d2]⟩
          case measure => simp [intOf]; omega
        · clear b2
          by_cases d1 : l[j].toNat < 48
          · go_wp2
            go_ret3
            exact ⟨rfl, ⟨0, rfl⟩⟩
          · have d2 : 57 < l[j].toNat := by omega
            go_wp2
            go_ret3
            exact ⟨rfl, ⟨0, rfl⟩⟩
      · obtain rfl : j = k := by omega
        exact absurd ha.out HAll.out
end Go.Proofs.YtcfbkkcamiephaaGreatDoor
namespace Go.Proofs.YtcfbkkcamiephaaGreatDoor
open Go.RowKit

/-! ### errors -/
def ErrRes (w : World) (e : Ending) (w' : World) : Prop := ∃ T p, e = .returned (.iface T (.pointer (some p))) ∧ Below w.heap.size w w'
theorem errNew_any (s : ByteArray) (w : World) : Calls Tryz.prog 108 #[.string s] w (ErrRes w) := by
  go_enter Tryz.func108, Tryz.ntmps108
  go_wp2
  go_ret
  refine ⟨_, _, rfl, ?_⟩
  repeat (first | exact Below.refl _ _ | refine Below.alloc ?_ (by simp) _)

/-! ### the reading of a moment -/
def nanoFrom (a u : Int) : List UInt8 → Int × List UInt8
  | [] => (a, [])
  | c :: r => if isD c then nanoFrom (a + ((c.toNat : Int) - 48) * u) (u / 10) r else (a, c :: r)
def fracB (l : List UInt8) : Bool := match l with
  | p :: c :: _ => (p.toNat == 46 || p.toNat == 44) && isD c
  | _ => false
def frac (l : List UInt8) : Int × List UInt8 := if fracB l then nanoFrom 0 100000000 l.tail else (0, l)
def parseTail (y m d hh mm ss nn : Int) (ok : Bool) : Option (Int × Int) :=
  if ok = false ∨ d < 1 ∨ mdays m y < d then none else some (dayNum y m d * 86400 + hh * 3600 + mm * 60 + ss, nn)
/-- What zztime.Parse reads: 'none' in the place of z: a date alone; z: what stands behind the seconds. -/
def parseT (z : Option (List UInt8)) (l : List UInt8) : Option (Int × Int) :=
  match takeD 4 l with
  | none => none
  | some (y, l1) => match takeD 2 l1 with
    | none => none
    | some (m, l2) => if m < 1 ∨ 12 < m then none else match takeD 2 l2 with
      | none => none
      | some (d, l3) => match z with
        | none => parseTail y m d 0 0 0 0 (l3 == [])
        | some z => match l3 with
          | [] => none
          | t :: l4 => if t.toNat ≠ 84 then none else match takeD 2 l4 with
            | none => none
            | some (hh, l5) => if 23 < hh then none else match takeD 2 l5 with
              | none => none
              | some (mm, l6) => if 59 < mm then none else match takeD 2 l6 with
                | none => none
                | some (ss, l7) => if 59 < ss then none else parseTail y m d hh mm ss (frac l7).1 ((frac l7).2 == z)
def ParseFail (w : World) (e : Ending) (w' : World) : Prop := ∃ T p, e = .returned (.tuple #[.agg #[.int .i64 0, .int .i64 0], .iface T (.pointer (some p))]) ∧ Below w.heap.size w w'
def ParsePost (w : World) (r : Option (Int × Int)) (e : Ending) (w' : World) : Prop := match r with
  | none => ParseFail w e w'
  | some (s, n) => e = .returned (.tuple #[.agg #[.int .i64 s, .int .i64 n], .nilIface]) ∧ Below w.heap.size w w'

theorem dig4y (l r : List UInt8) (n : Int) (w : World) (hl : l.length ≤ 1000000000) (h : takeD 4 l = some (n, r)) :
    Calls Tryz.prog 167 #[.string (mkS l), .int .i64 4] w fun e w' => e = .returned (.tuple #[.int .i64 n, .string (mkS r), .bool true]) ∧ ∃ q, w' = w.drewN q := dig_yes l r 4 n w (by omega) hl h
theorem dig2y (l r : List UInt8) (n : Int) (w : World) (hl : l.length ≤ 1000000000) (h : takeD 2 l = some (n, r)) :
    Calls Tryz.prog 167 #[.string (mkS l), .int .i64 2] w fun e w' => e = .returned (.tuple #[.int .i64 n, .string (mkS r), .bool true]) ∧ ∃ q, w' = w.drewN q := dig_yes l r 2 n w (by omega) hl h
theorem dig4n (l : List UInt8) (w : World) (hl : l.length ≤ 1000000000) (h : takeD 4 l = none) :
    Calls Tryz.prog 167 #[.string (mkS l), .int .i64 4] w fun e w' => e = .returned (.tuple #[.int .i64 0, .string (mkS l), .bool false]) ∧ ∃ q, w' = w.drewN q := dig_no l 4 w hl h (by omega)
theorem dig2n (l : List UInt8) (w : World) (hl : l.length ≤ 1000000000) (h : takeD 2 l = none) :
    Calls Tryz.prog 167 #[.string (mkS l), .int .i64 2] w fun e w' => e = .returned (.tuple #[.int .i64 0, .string (mkS l), .bool false]) ∧ ∃ q, w' = w.drewN q := dig_no l 2 w hl h (by omega)
theorem takeD_len {k : Nat} {l : List UInt8} {n : Int} {r : List UInt8} (h : takeD k l = some (n, r)) : r.length ≤ l.length := by
  obtain ⟨_, _, _, rfl⟩ := takeD_some h
  simp
set_option maxRecDepth 100000 in
set_option maxHeartbeats 1600000 in
theorem parse_f1 (L : ByteArray) (l : List UInt8) (w : World) (hl : l.length ≤ 1000000000) (h1 : takeD 4 l = none) :
    Calls Tryz.prog 145 #[.string L, .string (mkS l)] w (ParseFail w) := by
  have H1 := Lib.hid h1; clear h1
  go_enter Tryz.func145, Tryz.ntmps145
  go_wp2_with (first | (go_at_call 167; (with_reducible refine (dig4n l _ hl H1.out).mono ?_); rintro e w' ⟨rfl, ⟨q1, rfl⟩⟩) | go_in)
  all_goals
    refine bodyPost_ret (v := .tuple #[.agg #[.int .i64 0, .int .i64 0], .iface 194 (.pointer (some ⟨w.heap.size + 1, 0, none⟩))]) (by simp [results, Tryz.results145, go_sem]) rfl ⟨_, _, rfl, ?_⟩
    repeat (first | exact Below.refl _ _ | refine Below.setCell ?_ (by simp) _ | refine below_drewN ?_ _ | refine Below.alloc ?_ (by simp) _)

set_option maxRecDepth 100000 in
set_option maxHeartbeats 1600000 in
theorem parse_f2 (L : ByteArray) (l l1 : List UInt8) (y : Int) (w : World) (hl : l.length ≤ 1000000000) (h1 : takeD 4 l = some (y, l1)) (h2 : takeD 2 l1 = none) :
    Calls Tryz.prog 145 #[.string L, .string (mkS l)] w (ParseFail w) := by
  have hl1 : l1.length ≤ 1000000000 := Nat.le_trans (takeD_len h1) hl
  have H1 := Lib.hid h1; clear h1
  have H2 := Lib.hid h2; clear h2
  go_enter Tryz.func145, Tryz.ntmps145
  go_wp2_with (first | (go_at_call 167; (with_reducible refine (dig4y l l1 y _ hl H1.out).mono ?_); rintro e w' ⟨rfl, ⟨q1, rfl⟩⟩) | (go_at_call 167; (with_reducible refine (dig2n l1 _ hl1 H2.out).mono ?_); rintro e w' ⟨rfl, ⟨q2, rfl⟩⟩) | go_in)
  all_goals
    refine bodyPost_ret (v := .tuple #[.agg #[.int .i64 0, .int .i64 0], .iface 194 (.pointer (some ⟨w.heap.size + 1, 0, none⟩))]) (by simp [results, Tryz.results145, go_sem]) rfl ⟨_, _, rfl, ?_⟩
    repeat (first | exact Below.refl _ _ | refine Below.setCell ?_ (by simp) _ | refine below_drewN ?_ _ | refine Below.alloc ?_ (by simp) _)

set_option maxRecDepth 100000 in
set_option maxHeartbeats 1600000 in
theorem parse_f2a (L : ByteArray) (l l1 l2 : List UInt8) (y m : Int) (w : World) (hl : l.length ≤ 1000000000) (h1 : takeD 4 l = some (y, l1)) (h2 : takeD 2 l1 = some (m, l2)) (hm : m < 1) :
    Calls Tryz.prog 145 #[.string L, .string (mkS l)] w (ParseFail w) := by
  have hl1 : l1.length ≤ 1000000000 := Nat.le_trans (takeD_len h1) hl
  have H1 := Lib.hid h1; clear h1
  have hl2 : l2.length ≤ 1000000000 := Nat.le_trans (takeD_len h2) hl1
  have H2 := Lib.hid h2; clear h2
  go_enter Tryz.func145, Tryz.ntmps145
  go_wp2_with (first | (go_at_call 167; (with_reducible refine (dig4y l l1 y _ hl H1.out).mono ?_); rintro e w' ⟨rfl, ⟨q1, rfl⟩⟩) | (go_at_call 167; (with_reducible refine (dig2y l1 l2 m _ hl1 H2.out).mono ?_); rintro e w' ⟨rfl, ⟨q2, rfl⟩⟩) | go_in)
  all_goals
    refine bodyPost_ret (v := .tuple #[.agg #[.int .i64 0, .int .i64 0], .iface 194 (.pointer (some ⟨w.heap.size + 1, 0, none⟩))]) (by simp [results, Tryz.results145, go_sem]) rfl ⟨_, _, rfl, ?_⟩
    repeat (first | exact Below.refl _ _ | refine Below.setCell ?_ (by simp) _ | refine below_drewN ?_ _ | refine Below.alloc ?_ (by simp) _)

set_option maxRecDepth 100000 in
set_option maxHeartbeats 1600000 in
theorem parse_f2b (L : ByteArray) (l l1 l2 : List UInt8) (y m : Int) (w : World) (hl : l.length ≤ 1000000000) (h1 : takeD 4 l = some (y, l1)) (h2 : takeD 2 l1 = some (m, l2)) (hm : 12 < m) :
    Calls Tryz.prog 145 #[.string L, .string (mkS l)] w (ParseFail w) := by
  have hl1 : l1.length ≤ 1000000000 := Nat.le_trans (takeD_len h1) hl
  have H1 := Lib.hid h1; clear h1
  have hl2 : l2.length ≤ 1000000000 := Nat.le_trans (takeD_len h2) hl1
  have H2 := Lib.hid h2; clear h2
  have hm1 : 1 ≤ m := by omega
  go_enter Tryz.func145, Tryz.ntmps145
  go_wp2_with (first | (go_at_call 167; (with_reducible refine (dig4y l l1 y _ hl H1.out).mono ?_); rintro e w' ⟨rfl, ⟨q1, rfl⟩⟩) | (go_at_call 167; (with_reducible refine (dig2y l1 l2 m _ hl1 H2.out).mono ?_); rintro e w' ⟨rfl, ⟨q2, rfl⟩⟩) | go_in)
  all_goals
    refine bodyPost_ret (v := .tuple #[.agg #[.int .i64 0, .int .i64 0], .iface 194 (.pointer (some ⟨w.heap.size + 1, 0, none⟩))]) (by simp [results, Tryz.results145, go_sem]) rfl ⟨_, _, rfl, ?_⟩
    repeat (first | exact Below.refl _ _ | refine Below.setCell ?_ (by simp) _ | refine below_drewN ?_ _ | refine Below.alloc ?_ (by simp) _)

set_option maxRecDepth 100000 in
set_option maxHeartbeats 1600000 in
theorem parse_f3 (L : ByteArray) (l l1 l2 : List UInt8) (y m : Int) (w : World) (hl : l.length ≤ 1000000000) (h1 : takeD 4 l = some (y, l1)) (h2 : takeD 2 l1 = some (m, l2)) (m1 : 1 ≤ m) (m2 : m ≤ 12) (h3 : takeD 2 l2 = none) :
    Calls Tryz.prog 145 #[.string L, .string (mkS l)] w (ParseFail w) := by
  have hl1 : l1.length ≤ 1000000000 := Nat.le_trans (takeD_len h1) hl
  have H1 := Lib.hid h1; clear h1
  have hl2 : l2.length ≤ 1000000000 := Nat.le_trans (takeD_len h2) hl1
  have H2 := Lib.hid h2; clear h2
  have H3 := Lib.hid h3; clear h3
  go_enter Tryz.func145, Tryz.ntmps145
  go_wp2_with (first | (go_at_call 167; (with_reducible refine (dig4y l l1 y _ hl H1.out).mono ?_); rintro e w' ⟨rfl, ⟨q1, rfl⟩⟩) | (go_at_call 167; (with_reducible refine (dig2y l1 l2 m _ hl1 H2.out).mono ?_); rintro e w' ⟨rfl, ⟨q2, rfl⟩⟩) | (go_at_call 167; (with_reducible refine (dig2n l2 _ hl2 H3.out).mono ?_); rintro e w' ⟨rfl, ⟨q3, rfl⟩⟩) | go_in)
  all_goals
    refine bodyPost_ret (v := .tuple #[.agg #[.int .i64 0, .int .i64 0], .iface 194 (.pointer (some ⟨w.heap.size + 1, 0, none⟩))]) (by simp [results, Tryz.results145, go_sem]) rfl ⟨_, _, rfl, ?_⟩
    repeat (first | exact Below.refl _ _ | refine Below.setCell ?_ (by simp) _ | refine below_drewN ?_ _ | refine Below.alloc ?_ (by simp) _)
