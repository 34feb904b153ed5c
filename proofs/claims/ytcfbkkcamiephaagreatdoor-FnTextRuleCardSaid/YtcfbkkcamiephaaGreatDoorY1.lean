import Derived.Test.YtcfbkkcamiephaaGreatDoorU1
import Derived.Test.YtcfbkkcamiephaaGreatDoorF6
import Derived.Deep.RegionHeld3
import Derived.Test.YtcfbkkcamiephaaGreatDoorS1
import Derived.Test.YtcfbkkcamiephaaGreatDoorT2
import Derived.Test.YtcfbkkcamiephaaGreatDoorLk
namespace Go.Proofs.YtcfbkkcamiephaaGreatDoor
open Go.RowKit

/-! ### the reference's writers: numbers -/
/-- what is still to be written in front -/
def preD (k m : Nat) : List UInt8 := if m = 0 then List.replicate k 48 else List.replicate (k - (Lib.decDigits m).length) 48 ++ Lib.decDigits m
def digB (m : Nat) : UInt8 := UInt8.ofNat (48 + m % 10)
theorem digB_nat (m : Nat) : (digB m).toNat = 48 + m % 10 := by unfold digB; rw [UInt8.toNat_ofNat']; omega
theorem dec_step (m : Nat) (h : ¬ m < 10) : Lib.decDigits m = Lib.decDigits (m / 10) ++ [digB m] := by rw [Lib.decDigits, dif_neg h]; rfl
theorem dec_base (m : Nat) (h : m < 10) : Lib.decDigits m = [digB m] := by rw [Lib.decDigits, dif_pos h]; unfold digB; rw [Nat.mod_eq_of_lt h]
theorem preD_pos (k m : Nat) (h : 0 < m) : preD k m = preD (k - 1) (m / 10) ++ [digB m] := by
  unfold preD
  rw [if_neg (by omega)]
  by_cases h10 : m < 10
  · rw [if_pos (by omega), dec_base m h10]; rfl
  · rw [if_neg (by omega), dec_step m h10, List.length_append, List.length_singleton, ← List.append_assoc]
    congr 3; omega
theorem preD_zero (k : Nat) : preD (k + 1) 0 = preD k (0 / 10) ++ [digB 0] := by
  unfold preD
  rw [if_pos rfl, if_pos rfl, List.replicate_succ']; rfl
theorem preD_pad (wd n : Nat) (h : 1 ≤ wd) : padL wd (n : Int) = preD wd n := by
  unfold padL preD Lib.itoa
  rw [if_neg (by omega), Int.toNat_natCast]
  split
  · rename_i h0; subst h0
    rw [dec_base 0 (by omega)]
    obtain ⟨k, rfl⟩ : ∃ k, wd = k + 1 := ⟨wd - 1, by omega⟩
    rw [List.replicate_succ']; rfl
  · rfl
def lenB (m : Nat) : Nat := if m = 0 then 0 else (Lib.decDigits m).length
theorem lenB_step (m : Nat) (h : 0 < m) : lenB (m / 10) + 1 = lenB m := by
  unfold lenB
  rw [if_neg (by omega : ¬ m = 0)]
  by_cases h10 : m < 10
  · rw [if_pos (by omega), dec_base m h10]; rfl
  · rw [if_neg (by omega), dec_step m h10, List.length_append]; rfl
theorem lenB_zero : lenB 0 = 0 := rfl
theorem back1 (W : World) (b : UInt8) (n : Int) (hn : (b.toNat : Int) = n) : (convert 37 9 (.slice (some ⟨W.heap.size, 0, none⟩) 1 1)).run Tryz.prog (W.alloc (.cells #[.int .u8 n] 5)) = .ok (.string (mkS [b])) (W.alloc (.cells #[.int .u8 n] 5)) := by
  subst hn
  exact run_convert_bytes_back (P := Tryz.prog) (W.alloc (.cells #[.int .u8 (b.toNat : Int)] 5)) 37 9 5 ⟨W.heap.size, 0, none⟩ 1 [b] Tryz.underlying37 Tryz.underlying5 Tryz.underlying9 (fun j hj => by
    have : j = 0 := by simp at hj; omega
    subst this
    rw [add_pl, Nat.zero_add]
    simp)
set_option maxRecDepth 100000 in
set_option maxHeartbeats 1600000 in
/-- textDigits. -/
theorem digits_any (n wd : Nat) (w : World) (hn : n ≤ 9223372036854775807) (h1 : 1 ≤ wd) (h4 : wd ≤ 4) :
    Calls Tryz.prog 69 #[.int .i64 n, .int .i64 wd] w fun e w' => e = .returned (.string (mkS (padL wd (n : Int)))) ∧ Below w.heap.size w w' := by
  generalize hT : padL wd (n : Int) = T
  rw [preD_pad wd n h1] at hT
  have HT := Lib.hid hT
  clear hT
  go_enter Tryz.func69, Tryz.ntmps69
  go_wp2
  go_loopw [0, 5] (fun a o wr => ∃ (m : Nat) (acc : List UInt8), a = .int .i64 (m : Int) ∧ o = .string (mkS acc) ∧ m ≤ 9223372036854775807 ∧ Hid (T = preD (wd - acc.length) m ++ acc) ∧ Below w.heap.size w wr ∧ acc.length + lenB m ≤ 20) (fun a o _ => (intOf a).toNat + (4 - strSz o))
  case atStart =>
    refine ⟨n, [], rfl, rfl, hn, Lib.hid (by rw [← HT.out]; simp), Below.refl _ _, ?_⟩
    have := nDig_le n (by omega)
    unfold lenB; split <;> simp <;> omega
  case round =>
    clear HT
    obtain ⟨m, acc, rfl, rfl, hm, HA, hb, hal⟩ := hrel
    have zx := size_mkS acc
    have happ : mkS [digB m] ++ mkS acc = mkS (digB m :: acc) := str_app [digB m] acc
    have z1 := size_mkS [digB m]
    have hbz := hb.size
    have hal2 : ∀ ob : Obj, Hid (Below w.heap.size w (wr.alloc ob)) := fun ob => Lib.hid (hb.alloc hbz _)
    have hcv : IntKind.u8.wrap (48 + (m : Int) % 10) = 48 + (m : Int) % 10 := IntWalk.u8_in _ (by omega)
    rcases Nat.lt_or_ge 0 m with h0 | h0
    · have hbk := back1 wr (digB m) (48 + (m : Int) % 10) (by rw [digB_nat]; omega)
      have HN : Hid (T = preD (wd - (digB m :: acc).length) (m / 10) ++ (digB m :: acc)) := Lib.hid (by
        rw [HA.out, preD_pos _ m h0, List.append_assoc, List.length_cons, Nat.sub_add_eq]; rfl)
      have d1 : decide ((0 : Int) < (m : Int)) = true := by simp; omega
      generalize digB m = b at *
      have hls := lenB_step m h0
      go_wp2
      go_roundw
      case rel => exact ⟨m / 10, b :: acc, by go_num, rfl, by omega, HN, (hal2 _).out, by rw [List.length_cons]; omega⟩
      case measure => rw [strSz_mk, strSz_mk, List.length_cons]; simp [intOf]; omega
    · obtain rfl : m = 0 := by omega
      have hbk := back1 wr (digB 0) 48 (by rw [digB_nat]; rfl)
      have d1 : decide ((0 : Int) < ((0 : Nat) : Int)) = false := by decide
      have d1' : decide ((0 : Int) < 0) = false := by decide
      by_cases hw : acc.length < wd
      · have d2 : decide (acc.length < wd) = true := decide_eq_true hw
        have d3 : decide ((acc.length : Int) < (wd : Int)) = true := by simp; omega
        have HN : Hid (T = preD (wd - (digB 0 :: acc).length) (0 / 10) ++ (digB 0 :: acc)) := Lib.hid (by
          rw [HA.out, show wd - acc.length = (wd - acc.length - 1) + 1 by omega, preD_zero, List.append_assoc, List.length_cons, Nat.sub_add_eq]; rfl)
        generalize digB 0 = b at *
        go_wp2
        go_roundw
        case rel => exact ⟨0 / 10, b :: acc, by go_num, rfl, by omega, HN, (hal2 _).out, by rw [List.length_cons]; simp [lenB]; omega⟩
        case measure => rw [strSz_mk, strSz_mk, List.length_cons]; simp [intOf]; omega
      · have d2 : decide (acc.length < wd) = false := decide_eq_false hw
        have d3 : decide ((acc.length : Int) < (wd : Int)) = false := by simp; omega
        have HF : Hid (T = acc) := Lib.hid (by rw [HA.out, show wd - acc.length = 0 by omega]; rfl)
        go_wp2
        go_ret
        exact ⟨by rw [HF.out]; rfl, hb⟩
/-! ### the reference's writers: textNumber -/
theorem padL_one (n : Nat) : padL 1 (n : Int) = Lib.itoa (n : Int) := by
  rw [preD_pad 1 n (by omega)]
  unfold preD Lib.itoa
  rw [if_neg (by omega : ¬ ((n : Int) < 0)), Int.toNat_natCast]
  split
  · rename_i h; subst h; rw [dec_base 0 (by omega)]; rfl
  · have : 1 ≤ (Lib.decDigits n).length := by
      by_cases h10 : n < 10
      · rw [dec_base n h10]; simp
      · rw [dec_step n h10]; simp
    rw [show 1 - (Lib.decDigits n).length = 0 by omega]; rfl
set_option maxRecDepth 100000 in
set_option maxHeartbeats 1600000 in
/-- textNumber. -/
theorem number_any (n : Int) (w : World) (hn : In64 n) :
    Calls Tryz.prog 63 #[.int .i64 n] w fun e w' => e = .returned (.string (mkS (Lib.itoa n))) ∧ Below w.heap.size w w' := by
  obtain ⟨hn1, hn2⟩ := hn
  rcases Int.lt_or_le n 0 with hlt | hge
  · have hT : Hid (Lib.itoa n = 45 :: (preD 0 n.natAbs ++ [])) := Lib.hid (by
      unfold Lib.itoa preD
      rw [if_pos hlt, if_neg (by omega)]
      simp)
    generalize Lib.itoa n = T at *
    obtain ⟨k, hk⟩ : ∃ k : Nat, k = n.natAbs := ⟨_, rfl⟩
    rw [← hk] at hT
    have d1 : decide (0 ≤ n) = false := by simp; omega
    have hu : IntKind.u64.wrap (wrap64 (-n)) = (k : Int) := by
      unfold wrap64 IntKind.wrap
      simp [IntKind.signed, IntKind.bits]
      omega
    have hkb : k ≤ 9223372036854775808 := by omega
    clear hk
    go_enter Tryz.func63, Tryz.ntmps63
    go_wp2
    go_loopw [3, 4] (fun a o wr => ∃ (m : Nat) (acc : List UInt8), a = .int .u64 (m : Int) ∧ o = .string (mkS acc) ∧ m ≤ 9223372036854775808 ∧ Hid (T = 45 :: (preD 0 m ++ acc)) ∧ Below w.heap.size w wr ∧ acc.length + lenB m ≤ 20) (fun a _ _ => (intOf a).toNat)
    case atStart =>
      refine ⟨k, [], by first | rfl | rw [hu], rfl, hkb, hT, Below.refl _ _, ?_⟩
      have := nDig_le k (by omega)
      unfold lenB; split <;> simp <;> omega
    case round =>
      clear hT
      obtain ⟨m, acc, rfl, rfl, hm, HA, hb, hal⟩ := hrel
      have zx := size_mkS acc
      have happ : mkS [digB m] ++ mkS acc = mkS (digB m :: acc) := str_app [digB m] acc
      have hm45 : ({ data := #[45] } : ByteArray) ++ mkS acc = mkS (45 :: acc) := str_app [45] acc
      have z1 := size_mkS [digB m]
      have hbz := hb.size
      have hal2 : ∀ ob : Obj, Hid (Below w.heap.size w (wr.alloc ob)) := fun ob => Lib.hid (hb.alloc hbz _)
      rcases Nat.lt_or_ge 0 m with h0 | h0
      · have hcv : IntKind.u8.wrap (48 + (m : Int) % 10) = 48 + (m : Int) % 10 := IntWalk.u8_in _ (by omega)
        have hcw : IntKind.u64.wrap (48 + (m : Int) % 10) = 48 + (m : Int) % 10 := IntWalk.u64_in _ (by omega)
        have hbk := back1 wr (digB m) (48 + (m : Int) % 10) (by rw [digB_nat]; omega)
        have HN : Hid (T = 45 :: (preD 0 (m / 10) ++ (digB m :: acc))) := Lib.hid (by
          rw [HA.out, preD_pos _ m h0, List.append_assoc]; rfl)
        have d2 : decide ((0 : Int) < (m : Int)) = true := by simp; omega
        have hls := lenB_step m h0
        generalize digB m = b at *
        go_wp2
        go_roundw
        case rel => exact ⟨m / 10, b :: acc, by go_num, rfl, by omega, HN, (hal2 _).out, by rw [List.length_cons]; omega⟩
        case measure => simp [intOf]; omega
      · obtain rfl : m = 0 := by omega
        have d2 : decide ((0 : Int) < ((0 : Nat) : Int)) = false := by decide
        have d2' : decide ((0 : Int) < 0) = false := by decide
        have HF : Hid (T = 45 :: acc) := Lib.hid (by rw [HA.out]; rfl)
        go_wp2
        go_ret
        exact ⟨by rw [HF.out]; rfl, hb⟩
  · obtain ⟨k, rfl⟩ : ∃ k : Nat, n = (k : Int) := ⟨n.toNat, by omega⟩
    have d1 : decide ((0 : Int) ≤ (k : Int)) = true := by simp
    have H := Lib.hid (digits_any k 1 w (by omega) (by omega) (by omega))
    rw [padL_one] at H
    generalize Lib.itoa (k : Int) = T at *
    go_enter Tryz.func63, Tryz.ntmps63
    go_wp2_with
      (first
      | (go_at_call 69; refine H.out.mono ?_; rintro e w1 ⟨rfl, hb⟩)
      | go_in)
    go_ret
    exact ⟨rfl, hb⟩
/-! ### the reference's writers: DayName -/
/-- what DayName's region holds of the world -/
structure DnS (w : World) (d : Nat) (n : Int) (X : List UInt8) (w' : World) : Prop where
  d0 : w'.cell? ⟨w.heap.size, 0, none⟩ = some (.int .i64 d)
  d1 : w'.cell? ⟨w.heap.size, 1, none⟩ = some (.int .i64 n)
  nm : w'.cell? ⟨0, d, none⟩ = some (.string (mkS X))
  sz : w.heap.size < w'.heap.size
  bl : Below w.heap.size w w'
theorem DnS.drew {w w' : World} {d : Nat} {n : Int} {X : List UInt8} (h : DnS w d n X w') : DnS w d n X w'.drew :=
  ⟨h.d0, h.d1, h.nm, h.sz, h.bl.drew⟩
theorem DnS.call {w w' w1 : World} {d : Nat} {n : Int} {X : List UInt8} (h : DnS w d n X w') (hb : Below w'.heap.size w' w1) : DnS w d n X w1 := by
  have := hb.size
  exact ⟨cell_below hb h.d0, cell_below hb h.d1, cell_below hb h.nm, by have := h.sz; omega, h.bl.trans (hb.mono (by have := h.sz; omega))⟩
theorem dn4 {w w' : World} {d : Nat} {n : Int} {X : List UInt8} (h : DnS w d n X w') : w'.cell? ⟨w.heap.size, 0, none⟩ = some (.int .i64 d) ∧ w'.cell? ⟨w.heap.size, 1, none⟩ = some (.int .i64 n) ∧ w'.cell? ⟨0, d, none⟩ = some (.string (mkS X)) ∧ DnS w d n X w' := ⟨h.d0, h.d1, h.nm, h⟩
set_option maxRecDepth 100000 in
set_option maxHeartbeats 3200000 in
/-- spec.DayName. -/
theorem dayNameS_any (d : Nat) (hd : d < 7) (n : Int) (h0 : -9223372036854775808 ≤ n) (h1 : n ≤ 9223372036854775807) (w : World) (hG : DayNms w) : Calls Tryz.prog 37 #[.agg #[.int .i64 d, .int .i64 n]] w fun e w' => e = .returned (.string (mkS (dayStr d n))) ∧ Below w.heap.size w w' := by
  have hw0 : 0 < w.heap.size := World.block_lt_of_cell? w _ (hG.dn 0 (by omega))
  have hne : (0 : Nat) ≠ w.heap.size := by omega
  have hS : DnS w d n (dayL d) (w.alloc (.cells #[.int .i64 d, .int .i64 n] 59)) := ⟨by simp, by simp, cell_below ((Below.refl _ _).alloc (Nat.le_refl _) _) ((hG.dn d hd).trans (by rw [dayL_nm])), by simp, (Below.refl _ _).alloc (Nat.le_refl _) _⟩
  have hN := Lib.hid (fun w => number_any n w ⟨h0, h1⟩)
  have hz := nDig_le n.natAbs (by omega)
  have hzl : (Lib.itoa n).length ≤ 21 := by
    unfold Lib.itoa; split
    · simp; omega
    · have := nDig_le n.toNat (by omega); omega
  have hd0 : (0 : Int) ≤ (d : Int) := by omega
  have hd7 : (d : Int) < 7 := by omega
  have hD : Hid (dayStr d n = if 0 < n then 43 :: (Lib.itoa n ++ dayL d) else if n < 0 then Lib.itoa n ++ dayL d else dayL d) := Lib.hid (by
    unfold dayStr signed
    rcases Int.lt_trichotomy n 0 with h | h | h
    · rw [if_neg (by omega), if_pos h, if_neg (by omega), if_pos h]
    · rw [if_pos h, if_neg (by omega), if_neg (by omega)]
    · rw [if_neg (by omega), if_neg (by omega), if_pos h]; rfl)
  have hXl : (dayL d).length = 2 := by
    have : ∀ a : Fin 7, (dayL a.1).length = 2 := by decide
    exact this ⟨d, hd⟩
  generalize dayStr d n = R at *
  generalize dayL d = X at *
  generalize Lib.itoa n = T at *
  have z1 := size_mkS T
  have z2 := size_mkS X
  have p1 : ({ data := #[43] } : ByteArray) ++ mkS T = mkS (43 :: T) := str_app [43] T
  have z3 := size_mkS (43 :: T)
  have p2 : mkS (43 :: T) ++ mkS X = mkS (43 :: T ++ X) := str_app (43 :: T) X
  have p3 : mkS T ++ mkS X = mkS (T ++ X) := str_app T X
  rcases Int.lt_trichotomy n 0 with hn | hn | hn
  · have q1 : decide ((0 : Int) < n) = false := by simp; omega
    have q2 : decide (n < (0 : Int)) = true := by simp; omega
    have HR : Hid (R = T ++ X) := Lib.hid (by rw [hD.out, if_neg (by omega), if_pos hn])
    clear h0 h1 hz hn p1 p2 z3
    go_enter Tryz.func37, Tryz.ntmps37
    go_upto_region 4 with fail
    change Code.wp _ _ _ _ (w.alloc (.cells #[.int .i64 d, .int .i64 n] 59))
    generalize w.alloc (.cells #[.int .i64 d, .int .i64 n] 59) = W0 at *
    refine wp_region_table (β := Unit) (fun _ => #[.agg #[.int .i64 d, .int .i64 n], .pointer (some ⟨w.heap.size, 0, none⟩), .string (mkS (T ++ X)), .bool false, .pointer (some ⟨w.heap.size, 1, none⟩), .int .i64 n, .bool false, undef, undef, undef, undef, undef, undef, undef, undef, undef, .bool true, .pointer (some ⟨w.heap.size, 1, none⟩), .int .i64 n, .bool true, .pointer (some ⟨w.heap.size, 1, none⟩), .int .i64 n, .string (mkS T), .pointer (some ⟨w.heap.size, 0, none⟩), .int .i64 d, .pointer (some ⟨0, d, none⟩), .string (mkS X), .string (mkS (T ++ X)), undef, undef, undef, undef]) (fun _ _ W => DnS w d n X W) 32 (fun _ => rfl) rfl (by kernel_rfl) () rfl [2, 20, 21, 22, 23, 24, 25, 26, 27] (by kernel_rfl) (by kernel_rfl) (hS.drew) ?hs ?hdone
    case hs =>
      refine ⟨StepF.of (fun b listed w1 hB hf hdep K' Q' hK' => ?_), ?_⟩
      · clear hf hdep
        go_simp
        refine hK'.out _ _ ⟨rfl, b, fun _ _ => rfl, fun d e => (by cases e; rfl), hB⟩
      refine ⟨StepF.of (fun b listed w1 hB hf hdep K' Q' hK' => ?_), ?_⟩
      · clear hf hdep
        obtain ⟨e0, e1, e2, -⟩ := dn4 hB
        go_simp
        refine hK'.out _ _ ⟨rfl, b, fun _ _ => rfl, fun d e => (by cases e; rfl), hB⟩
      refine ⟨StepF.of (fun b listed w1 hB hf hdep K' Q' hK' => ?_), ?_⟩
      · clear hf hdep
        go_simp
        go_at_call 63
        refine (hN.out _).mono ?_
        rintro e w2 ⟨rfl, hb2⟩
        try dsimp only
        refine hK'.out _ _ ⟨rfl, b, fun _ _ => rfl, fun d e => (by cases e; rfl), hB.call hb2⟩
      refine ⟨StepF.of (fun b listed w1 hB hf hdep K' Q' hK' => ?_), ?_⟩
      · clear hf hdep
        go_simp
        refine hK'.out _ _ ⟨rfl, b, fun _ _ => rfl, fun d e => (by cases e; rfl), hB⟩
      refine ⟨StepF.of (fun b listed w1 hB hf hdep K' Q' hK' => ?_), ?_⟩
      · clear hf hdep
        obtain ⟨e0, e1, e2, -⟩ := dn4 hB
        go_simp
        refine hK'.out _ _ ⟨rfl, b, fun _ _ => rfl, fun d e => (by cases e; rfl), hB⟩
      refine ⟨StepF.of (fun b listed w1 hB hf hdep K' Q' hK' => ?_), ?_⟩
      · clear hf hdep
        go_simp
        refine hK'.out _ _ ⟨rfl, b, fun _ _ => rfl, fun d e => (by cases e; rfl), hB⟩
      refine ⟨StepF.of (fun b listed w1 hB hf hdep K' Q' hK' => ?_), ?_⟩
      · clear hf hdep
        obtain ⟨e0, e1, e2, -⟩ := dn4 hB
        go_simp
        refine hK'.out _ _ ⟨rfl, b, fun _ _ => rfl, fun d e => (by cases e; rfl), hB⟩
      refine ⟨StepF.of (fun b listed w1 hB hf hdep K' Q' hK' => ?_), ?_⟩
      · clear hf hdep
        go_simp
        rw [if_neg (by omega)]
        go_simp
        refine hK'.out _ _ ⟨rfl, b, fun _ _ => rfl, fun d e => (by cases e; rfl), hB⟩
      refine ⟨StepF.of (fun b listed w1 hB hf hdep K' Q' hK' => ?_), ?_⟩
      · clear hf hdep
        go_simp
        refine hK'.out _ _ ⟨rfl, b, fun _ _ => rfl, fun d e => (by cases e; rfl), hB⟩
      trivial
    case hdone =>
      intro b listed w1 hS2 hall
      clear hall
      go_wp2
      go_ret
      exact ⟨by rw [HR.out]; rfl, hS2.bl⟩
  · subst hn
    have q1 : decide ((0 : Int) < 0) = false := by decide
    have HR : Hid (R = X) := Lib.hid (by rw [hD.out, if_neg (by omega), if_neg (by omega)])
    have hS2 := Lib.hid (dn4 hS)
    obtain ⟨e0, e1, e2, -⟩ := dn4 hS
    clear h0 h1 hz hS hN p1 p2 p3 z1 z3
    go_enter Tryz.func37, Tryz.ntmps37
    go_upto_region 5 with fail
    change Code.wp _ _ _ _ (w.alloc (.cells #[.int .i64 d, .int .i64 0] 59))
    generalize w.alloc (.cells #[.int .i64 d, .int .i64 0] 59) = W0 at *
    go_wp2
    go_ret
    exact ⟨by rw [HR.out]; rfl, hS2.out.2.2.2.bl⟩
  · have q1 : decide ((0 : Int) < n) = true := by simp; omega
    have HR : Hid (R = 43 :: T ++ X) := Lib.hid (by rw [hD.out, if_pos hn]; rfl)
    clear h0 h1 hz hn p3
    go_enter Tryz.func37, Tryz.ntmps37
    go_upto_region 2 with fail
    change Code.wp _ _ _ _ (w.alloc (.cells #[.int .i64 d, .int .i64 n] 59))
    generalize w.alloc (.cells #[.int .i64 d, .int .i64 n] 59) = W0 at *
    refine wp_region_table (β := Unit) (fun _ => #[.agg #[.int .i64 d, .int .i64 n], .pointer (some ⟨w.heap.size, 0, none⟩), .string (mkS (43 :: T ++ X)), .bool true, .pointer (some ⟨w.heap.size, 1, none⟩), .int .i64 n, .bool true, .pointer (some ⟨w.heap.size, 1, none⟩), .int .i64 n, .string (mkS T), .string (mkS (43 :: T)), .pointer (some ⟨w.heap.size, 0, none⟩), .int .i64 d, .pointer (some ⟨0, d, none⟩), .string (mkS X), .string (mkS (43 :: T ++ X)), undef, undef, undef, undef, undef, undef, undef, undef, undef, undef, undef, undef, undef, undef, undef, undef]) (fun _ _ W => DnS w d n X W) 32 (fun _ => rfl) rfl (by kernel_rfl) () rfl [2, 7, 8, 9, 10, 11, 12, 13, 14, 15] (by kernel_rfl) (by kernel_rfl) (hS.drew) ?hs ?hdone
    case hs =>
      refine ⟨StepF.of (fun b listed w1 hB hf hdep K' Q' hK' => ?_), ?_⟩
      · clear hf hdep
        go_simp
        refine hK'.out _ _ ⟨rfl, b, fun _ _ => rfl, fun d e => (by cases e; rfl), hB⟩
      refine ⟨StepF.of (fun b listed w1 hB hf hdep K' Q' hK' => ?_), ?_⟩
      · clear hf hdep
        obtain ⟨e0, e1, e2, -⟩ := dn4 hB
        go_simp
        refine hK'.out _ _ ⟨rfl, b, fun _ _ => rfl, fun d e => (by cases e; rfl), hB⟩
      refine ⟨StepF.of (fun b listed w1 hB hf hdep K' Q' hK' => ?_), ?_⟩
      · clear hf hdep
        go_simp
        go_at_call 63
        refine (hN.out _).mono ?_
        rintro e w2 ⟨rfl, hb2⟩
        try dsimp only
        refine hK'.out _ _ ⟨rfl, b, fun _ _ => rfl, fun d e => (by cases e; rfl), hB.call hb2⟩
      refine ⟨StepF.of (fun b listed w1 hB hf hdep K' Q' hK' => ?_), ?_⟩
      · clear hf hdep
        go_simp
        rw [if_neg (by omega)]
        go_simp
        refine hK'.out _ _ ⟨rfl, b, fun _ _ => rfl, fun d e => (by cases e; rfl), hB⟩
      refine ⟨StepF.of (fun b listed w1 hB hf hdep K' Q' hK' => ?_), ?_⟩
      · clear hf hdep
        go_simp
        refine hK'.out _ _ ⟨rfl, b, fun _ _ => rfl, fun d e => (by cases e; rfl), hB⟩
      refine ⟨StepF.of (fun b listed w1 hB hf hdep K' Q' hK' => ?_), ?_⟩
      · clear hf hdep
        obtain ⟨e0, e1, e2, -⟩ := dn4 hB
        go_simp
        refine hK'.out _ _ ⟨rfl, b, fun _ _ => rfl, fun d e => (by cases e; rfl), hB⟩
      refine ⟨StepF.of (fun b listed w1 hB hf hdep K' Q' hK' => ?_), ?_⟩
      · clear hf hdep
        go_simp
        refine hK'.out _ _ ⟨rfl, b, fun _ _ => rfl, fun d e => (by cases e; rfl), hB⟩
      refine ⟨StepF.of (fun b listed w1 hB hf hdep K' Q' hK' => ?_), ?_⟩
      · clear hf hdep
        obtain ⟨e0, e1, e2, -⟩ := dn4 hB
        go_simp
        refine hK'.out _ _ ⟨rfl, b, fun _ _ => rfl, fun d e => (by cases e; rfl), hB⟩
      refine ⟨StepF.of (fun b listed w1 hB hf hdep K' Q' hK' => ?_), ?_⟩
      · clear hf hdep
        go_simp
        rw [if_neg (by omega)]
        go_simp
        refine hK'.out _ _ ⟨rfl, b, fun _ _ => rfl, fun d e => (by cases e; rfl), hB⟩
      refine ⟨StepF.of (fun b listed w1 hB hf hdep K' Q' hK' => ?_), ?_⟩
      · clear hf hdep
        go_simp
        refine hK'.out _ _ ⟨rfl, b, fun _ _ => rfl, fun d e => (by cases e; rfl), hB⟩
      trivial
    case hdone =>
      intro b listed w1 hS2 hall
      clear hall
      go_wp2
      go_ret
      exact ⟨by rw [HR.out]; rfl, hS2.bl⟩
end Go.Proofs.YtcfbkkcamiephaaGreatDoor
namespace Go.Proofs.YtcfbkkcamiephaaGreatDoor
open Go.RowKit

/-! ### textDate: the plain law -/
def yoeN (n : Nat) : Nat := (n - n / 1460 + n / 36524 - n / 146096) / 365
def yst (y : Nat) : Nat := y * 365 + y / 4 - y / 100
def lpN (y : Nat) : Nat := if (y % 4 == 0 && (y % 100 != 0 || y % 400 == 0)) then 1 else 0
def fN (n : Nat) : Bool := Nat.ble 146097 n || (Nat.ble (yst (yoeN n)) n && Nat.ble n (yst (yoeN n) + 364 + lpN (yoeN n + 1)) && Nat.ble (yoeN n) 399)
def chk (f : Nat → Bool) : Nat → Nat → Bool
  | 0, lo => f lo
  | k + 1, lo => chk f k lo && chk f k (lo + 2 ^ k)
theorem chk_ok (f : Nat → Bool) (k lo : Nat) (h : chk f k lo = true) (n : Nat) (h1 : lo ≤ n) (h2 : n < lo + 2 ^ k) : f n = true := by
  induction k generalizing lo with
  | zero =>
    simp [chk] at h
    obtain rfl : n = lo := by omega
    exact h
  | succ k ih =>
    simp only [chk, Bool.and_eq_true] at h
    rw [Nat.pow_succ] at h2
    rcases Nat.lt_or_ge n (lo + 2 ^ k) with h3 | h3
    · exact ih lo h.1 h1 h3
    · exact ih _ h.2 h3 (by omega)
set_option maxRecDepth 100000 in
theorem chk1 : chk fN 17 0 = true := by decide +kernel
set_option maxRecDepth 100000 in
theorem chk2 : chk fN 14 131072 = true := by decide +kernel
theorem yoe_ok (n : Nat) (h : n < 146097) : yst (yoeN n) ≤ n ∧ n ≤ yst (yoeN n) + 364 + lpN (yoeN n + 1) ∧ yoeN n ≤ 399 := by
  have hf : fN n = true := by
    rcases Nat.lt_or_ge n 131072 with h1 | h1
    · exact chk_ok fN 17 0 chk1 n (by omega) (by omega)
    · exact chk_ok fN 14 131072 chk2 n h1 (by omega)
  unfold fN at hf
  simp only [Bool.or_eq_true, Bool.and_eq_true, Nat.ble_eq] at hf
  rcases hf with hf | ⟨⟨h1, h2⟩, h3⟩
  · omega
  · exact ⟨h1, h2, h3⟩
/-- what textDate makes of a day -/
structure TDate (D y m d : Int) : Prop where
  num : dayNum y m d = D
  m0 : 1 ≤ m
  m1 : m ≤ 12
  d0 : 1 ≤ d
  d1 : d ≤ mdays m y
theorem lp_leap (era : Int) (y : Nat) : (lpN y : Int) = if leapB ((y : Int) + era * 400) then 1 else 0 := by
  unfold lpN leapB
  have h : (y % 4 == 0 && (y % 100 != 0 || y % 400 == 0)) = ((((y : Int) + era * 400) % 4 == 0) && ((((y : Int) + era * 400) % 100 != 0) || (((y : Int) + era * 400) % 400 == 0))) := by
    rw [Bool.eq_iff_iff]
    simp
    omega
  rw [h]
  split <;> rfl
theorem tdate_of (D era inn oe iy sh : Int) (h0 : 0 ≤ inn) (h1 : inn < 146097) (he : D + 306 = era * 146097 + inn)
    (ho : oe = (inn - inn / 1460 + inn / 36524 - inn / 146096) / 365) (hi : iy = inn - (365 * oe + oe / 4 - oe / 100)) (hs : sh = (5 * iy + 2) / 153) :
    0 ≤ oe ∧ oe ≤ 399 ∧ 0 ≤ iy ∧ iy ≤ 365 ∧ 0 ≤ sh ∧ sh ≤ 11 ∧
    TDate D ((if (if 12 < sh + 3 then sh + 3 - 12 else sh + 3) ≤ 2 then oe + era * 400 + 1 else oe + era * 400)) (if 12 < sh + 3 then sh + 3 - 12 else sh + 3) (iy - (153 * sh + 2) / 5 + 1) := by
  obtain ⟨N, rfl⟩ : ∃ N : Nat, inn = (N : Int) := ⟨inn.toNat, by omega⟩
  obtain ⟨q1, q2, q3⟩ := yoe_ok N (by omega)
  have hoe : oe = (yoeN N : Int) := by rw [ho]; unfold yoeN; omega
  have hyst : (yst (yoeN N) : Int) = 365 * oe + oe / 4 - oe / 100 := by rw [hoe]; unfold yst; omega
  have hlp := lp_leap era (yoeN N + 1)
  have hlb : (lpN (yoeN N + 1)) ≤ 1 := by unfold lpN; split <;> omega
  generalize yoeN N = Y at *
  subst hoe
  clear ho
  have b1 : 0 ≤ iy := by omega
  have b2 : iy ≤ 364 + (lpN (Y + 1) : Int) := by omega
  have s0 : 0 ≤ sh := by omega
  have s1 : sh ≤ 11 := by omega
  refine ⟨by omega, by omega, b1, by omega, s0, s1, ?_⟩
  have hy1 : ((Y + 1 : Nat) : Int) + era * 400 = (Y : Int) + era * 400 + 1 := by omega
  rw [hy1] at hlp
  have hcs : sh = 0 ∨ sh = 1 ∨ sh = 2 ∨ sh = 3 ∨ sh = 4 ∨ sh = 5 ∨ sh = 6 ∨ sh = 7 ∨ sh = 8 ∨ sh = 9 ∨ sh = 10 ∨ sh = 11 := by omega
  have key : ∀ (m : Nat) (y y' d : Int), 1 ≤ m ∧ m ≤ 12 → y' = (Y : Int) + era * 400 → (if (m : Int) ≤ 2 then y - 1 else y) = y' → ((m : Int) + 9) % 12 = sh → d = iy - (153 * sh + 2) / 5 + 1 → dayNum y m d = D := fun m y y' d hm e1 e2 e3 e4 => by
    rw [← eraDays_eq y d m hm, e2, e1]
    unfold eraDays
    rw [e3, e4, show ((Y : Int) + era * 400) / 400 = era by omega, show ((Y : Int) + era * 400 - era * 400) = (Y : Int) by omega]
    omega
  rcases hcs with rfl | rfl | rfl | rfl | rfl | rfl | rfl | rfl | rfl | rfl | rfl | rfl
  all_goals
    simp only [Int.reduceAdd, Int.reduceSub, Int.reduceMul, Int.reduceDiv, Int.reduceLT, Int.reduceLE, if_true, if_false]
  · exact ⟨key 3 _ _ _ (by omega) rfl rfl (by decide) rfl, by decide, by decide, by omega, by unfold mdays; simp; omega⟩
  · exact ⟨key 4 _ _ _ (by omega) rfl rfl (by decide) rfl, by decide, by decide, by omega, by unfold mdays; simp; omega⟩
  · exact ⟨key 5 _ _ _ (by omega) rfl rfl (by decide) rfl, by decide, by decide, by omega, by unfold mdays; simp; omega⟩
  · exact ⟨key 6 _ _ _ (by omega) rfl rfl (by decide) rfl, by decide, by decide, by omega, by unfold mdays; simp; omega⟩
  · exact ⟨key 7 _ _ _ (by omega) rfl rfl (by decide) rfl, by decide, by decide, by omega, by unfold mdays; simp; omega⟩
  · exact ⟨key 8 _ _ _ (by omega) rfl rfl (by decide) rfl, by decide, by decide, by omega, by unfold mdays; simp; omega⟩
  · exact ⟨key 9 _ _ _ (by omega) rfl rfl (by decide) rfl, by decide, by decide, by omega, by unfold mdays; simp; omega⟩
  · exact ⟨key 10 _ _ _ (by omega) rfl rfl (by decide) rfl, by decide, by decide, by omega, by unfold mdays; simp; omega⟩
  · exact ⟨key 11 _ _ _ (by omega) rfl rfl (by decide) rfl, by decide, by decide, by omega, by unfold mdays; simp; omega⟩
  · exact ⟨key 12 _ _ _ (by omega) rfl rfl (by decide) rfl, by decide, by decide, by omega, by unfold mdays; simp; omega⟩
  · exact ⟨key 1 _ _ _ (by omega) rfl (by simp) (by decide) rfl, by decide, by decide, by omega, by unfold mdays; simp; omega⟩
  · refine ⟨key 2 _ _ _ (by omega) rfl (by simp) (by decide) rfl, by decide, by decide, by omega, ?_⟩
    unfold mdays
    rw [if_pos rfl]
    split at hlp <;> rename_i hq
    · rw [if_pos hq]; omega
    · rw [if_neg hq]; omega
set_option maxRecDepth 100000 in
set_option maxHeartbeats 3200000 in
/-- textDate. -/
theorem date68_any (D : Int) (w : World) (hD : -366 ≤ D ∧ D ≤ 3652424) :
    Calls Tryz.prog 68 #[.int .i64 D] w fun e w' => (∃ y m d, e = .returned (.tuple #[.int .i64 y, .int .i64 m, .int .i64 d]) ∧ TDate D y m d) ∧ w = w' := by
  obtain ⟨era, he⟩ : ∃ era, era = (D + 306) / 146097 := ⟨_, rfl⟩
  obtain ⟨inn, hi⟩ : ∃ inn, inn = D + 306 - era * 146097 := ⟨_, rfl⟩
  have hi0 : 0 ≤ inn := by omega
  have hi1 : inn < 146097 := by omega
  have hera : -1 ≤ era ∧ era ≤ 25 := by omega
  obtain ⟨oe, ho⟩ : ∃ oe, oe = (inn - inn / 1460 + inn / 36524 - inn / 146096) / 365 := ⟨_, rfl⟩
  obtain ⟨iy, hy⟩ : ∃ iy, iy = inn - (365 * oe + oe / 4 - oe / 100) := ⟨_, rfl⟩
  obtain ⟨sh, hs⟩ : ∃ sh, sh = (5 * iy + 2) / 153 := ⟨_, rfl⟩
  obtain ⟨o0, o1, y0, y1, s0, s1, HT⟩ := tdate_of D era inn oe iy sh hi0 hi1 (by omega) ho hy hs
  have HT := Lib.hid HT
  have k1 : D + 306 - era * 146097 = inn := hi.symm
  have k2 : (inn - inn / 1460 + inn / 36524 - inn / 146096) / 365 = oe := ho.symm
  have k3 : inn - (365 * oe + oe / 4 - oe / 100) = iy := hy.symm
  have k4 : (5 * iy + 2) / 153 = sh := hs.symm
  obtain ⟨hD1, hD2⟩ := hD
  obtain ⟨e1, e2⟩ := hera
  have kn : D + 306 < 0 → (D + 306 - 146096).tdiv 146097 = era := fun hn => by
    rw [show D + 306 - 146096 = -(146096 - 306 - D) by omega, Int.neg_tdiv, Int.tdiv_eq_ediv_of_nonneg (by omega)]; omega
  have kp : (D + 306) / 146097 = era := he.symm
  clear he hi ho hy hs
  rcases Int.lt_or_le sh 10 with hq | hq
  · have d2 : decide (12 < sh + 3) = false := by simp; omega
    have d3 : decide (sh + 3 ≤ 2) = false := by simp; omega
    have HF : Hid (TDate D (oe + era * 400) (sh + 3) (iy - (153 * sh + 2) / 5 + 1)) := Lib.hid (by
      have := HT.out
      rwa [if_neg (by omega), if_neg (by omega)] at this)
    rcases Int.lt_or_le (D + 306) 0 with hn | hn
    · have d1 : decide (D + 306 < 0) = true := by simp; omega
      have k0 := kn hn
      clear kn kp HT
      go_enter Tryz.func68, Tryz.ntmps68
      go_wp2_with fail
      all_goals
        refine bodyPost_ret (v := .tuple #[.int .i64 (oe + era * 400), .int .i64 (sh + 3), .int .i64 (iy - (153 * sh + 2) / 5 + 1)]) (by simp [results, Tryz.results68, go_sem]) rfl ⟨⟨_, _, _, rfl, HF.out⟩, rfl⟩
    · have d1 : decide (D + 306 < 0) = false := by simp; omega
      clear kn HT
      go_enter Tryz.func68, Tryz.ntmps68
      go_wp2_with fail
      all_goals
        refine bodyPost_ret (v := .tuple #[.int .i64 (oe + era * 400), .int .i64 (sh + 3), .int .i64 (iy - (153 * sh + 2) / 5 + 1)]) (by simp [results, Tryz.results68, go_sem]) rfl ⟨⟨_, _, _, rfl, HF.out⟩, rfl⟩
  · have d2 : decide (12 < sh + 3) = true := by simp; omega
    have d3 : decide (sh + 3 - 12 ≤ 2) = true := by simp; omega
    have HF : Hid (TDate D (oe + era * 400 + 1) (sh + 3 - 12) (iy - (153 * sh + 2) / 5 + 1)) := Lib.hid (by
      have := HT.out
      rwa [if_pos (by omega), if_pos (by omega)] at this)
    rcases Int.lt_or_le (D + 306) 0 with hn | hn
    · have d1 : decide (D + 306 < 0) = true := by simp; omega
      have k0 := kn hn
      clear kn kp HT
      go_enter Tryz.func68, Tryz.ntmps68
      go_wp2_with fail
      all_goals
        refine bodyPost_ret (v := .tuple #[.int .i64 (oe + era * 400 + 1), .int .i64 (sh + 3 - 12), .int .i64 (iy - (153 * sh + 2) / 5 + 1)]) (by simp [results, Tryz.results68, go_sem]) rfl ⟨⟨_, _, _, rfl, HF.out⟩, rfl⟩
    · have d1 : decide (D + 306 < 0) = false := by simp; omega
      clear kn HT
      go_enter Tryz.func68, Tryz.ntmps68
      go_wp2_with fail
      all_goals
        refine bodyPost_ret (v := .tuple #[.int .i64 (oe + era * 400 + 1), .int .i64 (sh + 3 - 12), .int .i64 (iy - (153 * sh + 2) / 5 + 1)]) (by simp [results, Tryz.results68, go_sem]) rfl ⟨⟨_, _, _, rfl, HF.out⟩, rfl⟩
/-! ### TextTime -/
theorem civ_lt {y m d m' d' : Int} (m0 : 1 ≤ m) (d1 : d ≤ mdays m y) (d0' : 1 ≤ d') (h : mcum y (m - 1).toNat + d - 1 = mcum y (m' - 1).toNat + d' - 1) : ¬ m < m' := fun hlt => by
  have h1 := mcum_mono y (a := (m - 1).toNat + 1) (b := (m' - 1).toNat) (by omega)
  rw [mcum_succ, show (((m - 1).toNat : Nat) : Int) + 1 = m by omega] at h1
  omega
theorem civ_same {s y m d a b c y' m' d' a' b' c' : Int} (h : Civ s y m d a b c) (k : Civ s y' m' d' a' b' c') : y = y' ∧ m = m' ∧ d = d' := by
  obtain ⟨h1, h2⟩ := h.split
  obtain ⟨k1, k2⟩ := k.split
  have hy : y = y' := by omega
  subst hy
  have e := h2.symm.trans k2
  have n1 := civ_lt h.m0 h.d1 k.d0 e
  have n2 := civ_lt k.m0 k.d1 h.d0 e.symm
  have hm : m = m' := by omega
  subst hm
  exact ⟨rfl, rfl, by omega⟩
theorem tdate_stamp {s y m d : Int} (hs : InTime s) (h : TDate (s / 86400) y m d) : y = yearS s ∧ m = monS s ∧ d = dayS s := by
  have hc : Civ s y m d (s % 86400 / 3600) (s % 86400 / 60 % 60) (s % 86400 % 60) := by
    have hb := mcum_bd y (m - 1).toNat
    have hd := mdays_bd m y
    have hn := h.num
    have := h.m0; have := h.m1; have := h.d0; have := h.d1
    obtain ⟨h1, h2⟩ := hs
    refine ⟨by rw [hn]; omega, ?_, ?_, by omega, by omega, by omega, by omega, by omega, by omega, by omega, by omega, by omega, by omega⟩
    · unfold dayNum daysTo at hn; omega
    · unfold dayNum daysTo at hn; omega
  exact civ_same hc (civ_of s hs)
theorem digits4 (z : Int) (w : World) (h0 : 0 ≤ z) (h1 : z ≤ 1000000) : Calls Tryz.prog 69 #[.int .i64 z, .int .i64 4] w fun e w' => e = .returned (.string (mkS (padL 4 z))) ∧ Below w.heap.size w w' := by
  have := digits_any z.toNat 4 w (by omega) (by omega) (by omega)
  rwa [show ((z.toNat : Nat) : Int) = z by omega] at this
theorem digits2 (z : Int) (w : World) (h0 : 0 ≤ z) (h1 : z ≤ 1000000) : Calls Tryz.prog 69 #[.int .i64 z, .int .i64 2] w fun e w' => e = .returned (.string (mkS (padL 2 z))) ∧ Below w.heap.size w w' := by
  have := digits_any z.toNat 2 w (by omega) (by omega) (by omega)
  rwa [show ((z.toNat : Nat) : Int) = z by omega] at this
set_option maxRecDepth 100000 in
set_option maxHeartbeats 3200000 in
/-- TextTime. -/
theorem textTime_any (s : Int) (w : World) (hs : InTime s) : Calls Tryz.prog 33 #[.int .i64 s] w fun e w' => e = .returned (.string (mkS (stampS s))) ∧ Below w.heap.size w w' := by
  obtain ⟨D, hD⟩ : ∃ D, D = s / 86400 := ⟨_, rfl⟩
  obtain ⟨I, hI⟩ : ∃ I, I = s % 86400 := ⟨_, rfl⟩
  have hs' := hs
  obtain ⟨b1, b2⟩ := hs'
  have H68 := Lib.hid (fun w => date68_any D w (by omega))
  have hI0 : 0 ≤ I := by omega
  have hI1 : I < 86400 := by omega
  have q1 : (s + 31622400) / 86400 + -366 = D := by omega
  have q2 : (s + 31622400) % 86400 = I := by omega
  have HC := civ_of s hs
  have hyr := yearS_in s hs
  have hst : Hid (stampS s = padL 4 (yearS s) ++ padL 2 (monS s) ++ padL 2 (dayS s) ++ [84] ++ padL 2 (I / 3600) ++ padL 2 (I / 60 % 60) ++ padL 2 (I % 60) ++ [90]) := Lib.hid (by rw [hI]; rfl)
  have HU := Lib.hid (fun y m d (h : TDate D y m d) => tdate_stamp hs (by rw [← hD]; exact h))
  have hm0 := HC.m0; have hm1 := HC.m1; have hd0 := HC.d0; have hd1 := HC.d1; have hdd := mdays_bd (monS s) (yearS s)
  have l1 := padL_len4 (yearS s) hyr.1 (by omega)
  have l2 := padL_len2 (monS s) (by omega) (by omega)
  have l3 := padL_len2 (dayS s) (by omega) (by omega)
  have l4 := padL_len2 (I / 3600) (by omega) (by omega)
  have l5 := padL_len2 (I / 60 % 60) (by omega) (by omega)
  have l6 := padL_len2 (I % 60) (by omega) (by omega)
  have C1 := Lib.hid (fun w => digits4 (yearS s) w hyr.1 (by omega))
  have C2 := Lib.hid (fun w => digits2 (monS s) w (by omega) (by omega))
  have C3 := Lib.hid (fun w => digits2 (dayS s) w (by omega) (by omega))
  have C4 := Lib.hid (fun w => digits2 (I / 3600) w (by omega) (by omega))
  have C5 := Lib.hid (fun w => digits2 (I / 60 % 60) w (by omega) (by omega))
  have C6 := Lib.hid (fun w => digits2 (I % 60) w (by omega) (by omega))
  clear HC hs hm0 hm1 hd0 hd1 hdd hyr hD hI
  generalize stampS s = T at *
  generalize padL 4 (yearS s) = P1 at *
  generalize padL 2 (monS s) = P2 at *
  generalize padL 2 (dayS s) = P3 at *
  generalize padL 2 (I / 3600) = P4 at *
  generalize padL 2 (I / 60 % 60) = P5 at *
  generalize padL 2 (I % 60) = P6 at *
  generalize yearS s = y at *
  generalize monS s = m at *
  generalize dayS s = d at *
  have z1 : (mkS P1).size = 4 := by rw [size_mkS]; exact l1
  have z2 : (mkS P2).size = 2 := by rw [size_mkS]; exact l2
  have z3 : (mkS P3).size = 2 := by rw [size_mkS]; exact l3
  have z4 : (mkS P4).size = 2 := by rw [size_mkS]; exact l4
  have z5 : (mkS P5).size = 2 := by rw [size_mkS]; exact l5
  have z6 : (mkS P6).size = 2 := by rw [size_mkS]; exact l6
  have c1 : mkS P1 ++ mkS P2 = mkS (P1 ++ P2) := str_app _ _
  have c2 : mkS (P1 ++ P2) ++ mkS P3 = mkS (P1 ++ P2 ++ P3) := str_app _ _
  have c3 : mkS (P1 ++ P2 ++ P3) ++ ({ data := #[84] } : ByteArray) = mkS (P1 ++ P2 ++ P3 ++ [84]) := str_app _ [84]
  have c4 : mkS (P1 ++ P2 ++ P3 ++ [84]) ++ mkS P4 = mkS (P1 ++ P2 ++ P3 ++ [84] ++ P4) := str_app _ _
  have c5 : mkS (P1 ++ P2 ++ P3 ++ [84] ++ P4) ++ mkS P5 = mkS (P1 ++ P2 ++ P3 ++ [84] ++ P4 ++ P5) := str_app _ _
  have c6 : mkS (P1 ++ P2 ++ P3 ++ [84] ++ P4 ++ P5) ++ mkS P6 = mkS (P1 ++ P2 ++ P3 ++ [84] ++ P4 ++ P5 ++ P6) := str_app _ _
  have c7 : mkS (P1 ++ P2 ++ P3 ++ [84] ++ P4 ++ P5 ++ P6) ++ ({ data := #[90] } : ByteArray) = mkS (P1 ++ P2 ++ P3 ++ [84] ++ P4 ++ P5 ++ P6 ++ [90]) := str_app _ [90]
  have y1 : (mkS (P1 ++ P2)).size = 6 := by rw [size_mkS]; simp [l1, l2]
  have y2 : (mkS (P1 ++ P2 ++ P3)).size = 8 := by rw [size_mkS]; simp [l1, l2, l3]
  have y3 : (mkS (P1 ++ P2 ++ P3 ++ [84])).size = 9 := by rw [size_mkS]; simp [l1, l2, l3]
  have y4 : (mkS (P1 ++ P2 ++ P3 ++ [84] ++ P4)).size = 11 := by rw [size_mkS]; simp [l1, l2, l3, l4]
  have y5 : (mkS (P1 ++ P2 ++ P3 ++ [84] ++ P4 ++ P5)).size = 13 := by rw [size_mkS]; simp [l1, l2, l3, l4, l5]
  have y6 : (mkS (P1 ++ P2 ++ P3 ++ [84] ++ P4 ++ P5 ++ P6)).size = 15 := by rw [size_mkS]; simp [l1, l2, l3, l4, l5, l6]
  clear l1 l2 l3 l4 l5 l6
  generalize P1 ++ P2 ++ P3 ++ [84] ++ P4 ++ P5 ++ P6 ++ [90] = R7 at *
  generalize P1 ++ P2 ++ P3 ++ [84] ++ P4 ++ P5 ++ P6 = R6 at *
  generalize P1 ++ P2 ++ P3 ++ [84] ++ P4 ++ P5 = R5 at *
  generalize P1 ++ P2 ++ P3 ++ [84] ++ P4 = R4 at *
  generalize P1 ++ P2 ++ P3 ++ [84] = R3 at *
  generalize P1 ++ P2 ++ P3 = R2 at *
  generalize P1 ++ P2 = R1 at *
  have hacc := Below.refl w.heap.size w
  go_enter Tryz.func33, Tryz.ntmps33
  go_wp2_with (first
    | (go_at_call 68; go_must (refine (H68.out _).mono ?_; rintro e w1 ⟨⟨y', m', d', rfl, hT⟩, rfl⟩; obtain ⟨rfl, rfl, rfl⟩ := HU.out _ _ _ hT))
    | (go_at_call 69; (with_reducible refine (C1.out _).mono ?_); rintro e w1 ⟨rfl, hb⟩; have hacc := hacc.trans (hb.mono hacc.size))
    | (go_at_call 69; (with_reducible refine (C2.out _).mono ?_); rintro e w1 ⟨rfl, hb⟩; have hacc := hacc.trans (hb.mono hacc.size))
    | (go_at_call 69; (with_reducible refine (C3.out _).mono ?_); rintro e w1 ⟨rfl, hb⟩; have hacc := hacc.trans (hb.mono hacc.size))
    | (go_at_call 69; (with_reducible refine (C4.out _).mono ?_); rintro e w1 ⟨rfl, hb⟩; have hacc := hacc.trans (hb.mono hacc.size))
    | (go_at_call 69; (with_reducible refine (C5.out _).mono ?_); rintro e w1 ⟨rfl, hb⟩; have hacc := hacc.trans (hb.mono hacc.size))
    | (go_at_call 69; (with_reducible refine (C6.out _).mono ?_); rintro e w1 ⟨rfl, hb⟩; have hacc := hacc.trans (hb.mono hacc.size))
    | (fail))
  go_ret
  exact ⟨by rw [hst.out]; rfl, hacc⟩
end Go.Proofs.YtcfbkkcamiephaaGreatDoor
namespace Go.Proofs.YtcfbkkcamiephaaGreatDoor
open Go.RowKit

/-! ### the reference's writers: textInts -/
theorem join_snoc (L : List (List UInt8)) (x : List UInt8) (c : UInt8) : Lib.join (L ++ [x]) [c] = if L = [] then x else Lib.join L [c] ++ c :: x := by
  induction L with
  | nil => exact join_one1 x c
  | cons y r ih =>
    rw [if_neg (by simp)]
    cases r with
    | nil => rw [List.cons_append, List.nil_append, join_cons2, join_one1, join_one1]
    | cons z t =>
      rw [if_neg (by simp)] at ih
      rw [List.cons_append, List.cons_append, join_cons2, ← List.cons_append, ih, join_cons2, List.append_assoc, List.cons_append]
theorem intsJ_snoc (zs : List Int) (k : Nat) (h : k < zs.length) : intsJ (zs.take (k + 1)) = if k = 0 then Lib.itoa zs[k] else intsJ (zs.take k) ++ 44 :: Lib.itoa zs[k] := by
  unfold intsJ
  rw [List.take_succ_eq_append_getElem h, List.map_append, List.map_cons, List.map_nil, join_snoc]
  by_cases h0 : k = 0
  · subst h0; simp
  · rw [if_neg h0, if_neg (by
      intro e
      have := congrArg List.length e
      rw [List.length_map, List.length_take, List.length_nil] at this
      omega)]
set_option maxRecDepth 100000 in
set_option maxHeartbeats 1600000 in
/-- textInts. -/
theorem textInts_any (zs : List Int) (v : Value) (w : World) (hv : IntsV w v zs) (hz : ∀ z ∈ zs, In64 z) (hl : zs.length ≤ 1000) :
    Calls Tryz.prog 65 #[v] w fun e w' => e = .returned (.string (mkS (intsJ zs))) ∧ Below w.heap.size w w' := by
  obtain ⟨a, c, rfl, hr⟩ := hv.form2
  have HR := Lib.hid hr
  have HZ := Lib.hid hz
  clear hr hv hz
  go_enter Tryz.func65, Tryz.ntmps65
  go_wp2
  go_loopw [3, 8] (fun s i wr => ∃ k : Nat, k ≤ zs.length ∧ s = .string (mkS (intsJ (zs.take k))) ∧ i = .int .i64 k ∧ Hid (Below w.heap.size w wr)) (fun _ i _ => zs.length - (intOf i).toNat)
  case atStart => exact ⟨0, by omega, rfl, rfl, Lib.hid (Below.refl _ _)⟩
  case round =>
    obtain ⟨k, hk, rfl, rfl, HB⟩ := hrel
    by_cases hlt : k < zs.length
    · obtain ⟨g, gq, rfl, hg⟩ : ∃ g gq, a = some ⟨g, gq, none⟩ ∧ IntRowQ w g gq zs := by
        rcases HR.out with h | h
        · rw [h] at hlt; simp at hlt
        · exact h
      have hc := cell_below HB.out (hg.cell k zs[k] (by simp [hlt]))
      have hin := HZ.out zs[k] (List.getElem_mem hlt)
      have hsn := intsJ_snoc zs k hlt
      have hal := intsJ_len (zs.take k) (fun z hzm => HZ.out z (List.mem_of_mem_take hzm))
      rw [List.length_take, Nat.min_eq_left hk] at hal
      have hxl := itoa_len zs[k] hin.1 hin.2
      have H63 := Lib.hid (fun w => number_any zs[k] w hin)
      generalize zs[k] = x at hc hsn hxl H63
      have hk0 : (0 : Int) ≤ (k : Int) := Int.natCast_nonneg _
      have hk1 : (k : Int) < (zs.length : Int) := by omega
      have HS := Lib.hid hsn
      clear hsn hg hin
      generalize hA : intsJ (zs.take k) = A at hal HS
      have hA0 : k = 0 → A = [] := fun h => by subst h; rw [← hA]; rfl
      clear hA
      generalize Lib.itoa x = X at hxl HS H63
      have z1 := size_mkS A
      have z2 := size_mkS X
      have z3 := size_mkS (A ++ [44])
      rw [List.length_append, List.length_singleton] at z3
      by_cases h0 : k = 0
      · have hAe := hA0 h0
        clear hA0
        subst hAe
        subst h0
        rw [Nat.add_zero] at hc
        have c1 : mkS [] ++ mkS X = mkS X := str_app [] X
        go_wp2_with (first
          | (go_at_call 63; go_must (refine (H63.out _).mono ?_; rintro e w1 ⟨rfl, hb⟩))
          | (fail))
        go_roundw
        case rel => exact ⟨1, by omega, by rw [HS.out]; rfl, by go_num, Lib.hid (HB.out.trans (hb.mono HB.out.size))⟩
        case measure => simp [intOf]; omega
      · have t1 : decide ((0 : Int) < (k : Int)) = true := by simp; omega
        have c1 : mkS A ++ ({ data := #[44] } : ByteArray) = mkS (A ++ [44]) := str_app A [44]
        have c2 : mkS (A ++ [44]) ++ mkS X = mkS (A ++ [44] ++ X) := str_app _ _
        clear hA0
        go_wp2_with (first
          | (go_at_call 63; go_must (refine (H63.out _).mono ?_; rintro e w1 ⟨rfl, hb⟩))
          | (fail))
        go_roundw
        case rel => exact ⟨k + 1, by omega, by rw [HS.out, if_neg h0], by go_num, Lib.hid (HB.out.trans (hb.mono HB.out.size))⟩
        case measure => simp [intOf]; omega
    · obtain rfl : k = zs.length := by omega
      go_wp2
      go_ret
      exact ⟨by rw [List.take_length]; rfl, HB.out⟩
end Go.Proofs.YtcfbkkcamiephaaGreatDoor
