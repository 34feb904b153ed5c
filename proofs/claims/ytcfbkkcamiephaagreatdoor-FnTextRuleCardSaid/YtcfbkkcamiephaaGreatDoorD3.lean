import Derived.Test.YtcfbkkcamiephaaGreatDoorD2
import Derived.Lib.AtoiErrMem
import Derived.Test.YtcfbkkcamiephaaGreatDoorC8
namespace Go.Proofs.YtcfbkkcamiephaaGreatDoor
open Go.RowKit

/-! ### numbers -/
def atoiO (l : List UInt8) : Option Int := match Lib.atoiAll l with
  | .ok v => some v
  | _ => none
def AtoiRes (R : Option Int) (v : Int) (ev : Value) : Prop := match R with
  | none => ∃ T p, ev = .iface T (.pointer (some p))
  | some n => v = n ∧ ev = .nilIface
def AtoiPost (w : World) (R : Option Int) (e : Ending) (w' : World) : Prop := ∃ v ev, e = .returned (.tuple #[.int .i64 v, ev]) ∧ Below w.heap.size w w' ∧ AtoiRes R v ev
theorem atoi_any (l : List UInt8) (w : World) (hl : l.length ≤ 1000000000) (hG : Good w) : Calls Tryz.prog 116 #[.string (mkS l)] w (AtoiPost w (atoiO l)) := by
  unfold atoiO
  cases h : Lib.atoiAll l with
  | ok v =>
    refine (Tryz.strconv_Atoi_ok (mkS l) (by rw [size_mkS]; omega) v h w).mono ?_
    rintro e w' ⟨rfl, hw⟩
    refine ⟨v, _, rfl, ?_, rfl, rfl⟩
    rcases hw with rfl | ⟨t, rfl⟩
    · exact Below.refl _ _
    · exact Lib.bytesWorld_below _ _ _
  | range =>
    obtain ⟨tp, p, he⟩ := hG.er
    refine (Tryz.strconv_Atoi_range_var (mkS l) (by rw [size_mkS]; omega) h tp p w he).mono ?_
    rintro e w' ⟨N, rfl, _, _, hb⟩
    exact ⟨_, _, rfl, hb, _, _, rfl⟩
  | _ =>
    obtain ⟨tp, p, he⟩ := hG.es
    refine (Tryz.strconv_Atoi_syntax_var (mkS l) (by rw [size_mkS]; omega) h tp p w he).mono ?_
    rintro e w' ⟨N, rfl, _, _, hb⟩
    exact ⟨_, _, rfl, hb, _, _, rfl⟩

/-! ### a made row, its block known whole -/
structure RowAt (w : World) (N : Nat) (e : TypeId) (xs : List Value) : Prop where
  blk : w.heap[N]? = some (.cells xs.toArray e (0, 0))
theorem RowAt.lt {w : World} {N : Nat} {e : TypeId} {xs : List Value} (h : RowAt w N e xs) : N < w.heap.size := (Array.getElem?_eq_some_iff.1 h.blk).1
theorem RowAt.cell {w : World} {N : Nat} {e : TypeId} {xs : List Value} (h : RowAt w N e xs) (i : Nat) {v : Value} (hi : xs[i]? = some v) : w.cell? ⟨N, i, none⟩ = some v := by
  simp [World.cell?, h.blk, hi]
theorem RowAt.frozen {w : World} {N : Nat} {e : TypeId} {xs : List Value} (h : RowAt w N e xs) (i : Nat) : w.frozen? ⟨N, i, none⟩ = false := by
  simp [World.frozen?, h.blk]
theorem RowAt.below {w w' : World} {N : Nat} {e : TypeId} {xs : List Value} (h : RowAt w N e xs) (hb : Below w.heap.size w w') : RowAt w' N e xs :=
  ⟨(hb.block N h.lt).trans h.blk⟩
theorem RowAt.set {w : World} {N : Nat} {e : TypeId} {xs : List Value} (h : RowAt w N e xs) (i : Nat) (v : Value) : RowAt (w.setCell ⟨N, i, none⟩ v) N e (xs.set i v) := by
  refine ⟨?_⟩
  simp only [World.setCell, Array.getElem?_modify, h.blk]
  simp
theorem RowAt.of_own {w : World} {base g n : Nat} {e : TypeId} {xs : List Value} (h : w.ownsRow base e 1 (.slice (some ⟨g, 0, none⟩) n n) n xs) : RowAt w g e xs := by
  obtain ⟨h1, h2⟩ := h
  rcases h2 with ⟨h2, _⟩ | ⟨g', cap, cur, hv, hb, hh, hc, hm, hs, ht⟩
  · simp at h2
  · simp only [Value.slice.injEq, Option.some.injEq, Addr.mk.injEq, true_and] at hv
    obtain ⟨⟨rfl, _⟩, rfl⟩ := hv
    refine ⟨?_⟩
    rw [hh, ← ht]
    congr
    rw [List.take_of_length_le (by rw [Array.length_toList]; omega)]
theorem made_ints (n : Nat) : (madeCells (Value.int .i64 0).cells (n * 1)).toList = List.replicate n (Value.int .i64 0) := by
  simp [madeCells, Value.cells]
  rw [List.eq_replicate_iff]
  refine ⟨by simp, fun b hb => ?_⟩
  obtain ⟨a, _, rfl⟩ := List.mem_map.1 hb
  rw [Nat.mod_one]; rfl

theorem fill_get {α : Type} (f : α → Value) (ns : List α) (k n : Nat) (z : Value) (h : ns.length = k) (hk : k < n) : (ns.map f ++ List.replicate (n - k) z)[k]? = some z := by
  rw [List.getElem?_append_right (by simp [h]), List.length_map, h, Nat.sub_self, List.getElem?_replicate, if_pos (by omega)]
theorem fill_set {α : Type} (f : α → Value) (ns : List α) (k n : Nat) (z : Value) (v : α) (h : ns.length = k) (hk : k < n) : (ns.map f ++ List.replicate (n - k) z).set k (f v) = (ns ++ [v]).map f ++ List.replicate (n - (k + 1)) z := by
  rw [List.set_append_right _ _ (by simp [h]), List.length_map, h, Nat.sub_self, show n - k = (n - (k + 1)) + 1 by omega, List.replicate_succ, List.set_cons_zero]
  simp
/-! ### strToInts -/
def intsL : List (List UInt8) → Option (List Int)
  | [] => some []
  | p :: r => match atoiO p with
    | none => none
    | some n => (intsL r).map (n :: ·)
def intsT (l : List UInt8) : Option (List Int) := intsL (splitL 44 l)
structure IntRow (w : World) (g : Nat) (xs : List Int) : Prop where
  lt : g < w.heap.size
  cell : ∀ i x, xs[i]? = some x → w.cell? ⟨g, i, none⟩ = some (.int .i64 x)
theorem IntRow.below {w w' : World} {g : Nat} {xs : List Int} (h : IntRow w g xs) (hb : Below w.heap.size w w') : IntRow w' g xs :=
  ⟨Nat.lt_of_lt_of_le h.lt hb.size, fun i x hx => cell_below hb (h.cell i x hx)⟩
theorem StrRow.setCell {w : World} {g c : Nat} {xs : List ByteArray} (h : StrRow w g c xs) {a : Addr} (ha : a.block ≠ g) (v : Value) : StrRow (w.setCell a v) g c xs :=
  ⟨by simpa [World.setCell] using h.lt, h.cap, h.len, fun i x hx => by rw [World.cell?_of_block (w := w) (Below.heap_setCell w a v g (Ne.symm ha))]; exact h.cell i x hx⟩
def IntsPost (w : World) (R : Option (List Int)) (e : Ending) (w' : World) : Prop := Below w.heap.size w w' ∧ match R with
  | none => ∃ T p, e = .returned (.tuple #[.slice none 0 0, .iface T (.pointer (some p))])
  | some xs => ∃ g, e = .returned (.tuple #[.slice (some ⟨g, 0, none⟩) xs.length xs.length, .nilIface]) ∧ IntRow w' g xs ∧ w.heap.size ≤ g
theorem ints_ok {w : World} {R : Option (List Int)} {e : Ending} {w' : World} {xs : List Int} {g : Nat} (h : R = some xs) (he : e = .returned (.tuple #[.slice (some ⟨g, 0, none⟩) xs.length xs.length, .nilIface])) (hb : Below w.heap.size w w') (hr : IntRow w' g xs) (hg : w.heap.size ≤ g) : IntsPost w R e w' := by
  rw [h]; exact ⟨hb, g, he, hr, hg⟩
theorem ints_no {w : World} {R : Option (List Int)} {e : Ending} {w' : World} {T : TypeId} {p : Addr} (h : R = none) (he : e = .returned (.tuple #[.slice none 0 0, .iface T (.pointer (some p))])) (hb : Below w.heap.size w w') : IntsPost w R e w' := by
  rw [h]; exact ⟨hb, T, p, he⟩
theorem Tryz.info3 : (Tryz.prog.info? 3).map (fun i => (i.zero, i.size, i.bytes)) = some (some (.int .i64 0), 1, 8) := by kernel_rfl
theorem below_none {w w1 w2 : World} (h : Below w.heap.size w w1) (hg : w1.grownBy w2 none) : Below w.heap.size w w2 := h.grown hg h.size (by simp)

set_option maxRecDepth 100000 in
set_option maxHeartbeats 1600000 in
theorem ints_walk (l : List UInt8) (ps : List (List UInt8)) (R : Option (List Int)) (hR : intsL ps = R) (w : World) (hG : Good w) (hps : ps.length ≤ 1000000001) (hpl : ∀ p ∈ ps, p.length ≤ 1000000000)
    (hsp : ∀ w, Calls Tryz.prog 107 #[.string (mkS l), .string ⟨#[44]⟩] w (SplitPost w (ps.map mkS))) :
    Calls Tryz.prog 118 #[.string (mkS l)] w (IntsPost w R) := by
  have HR := Lib.hid hR; clear hR
  obtain ⟨i0, hi, hz0, hz1, hz2⟩ := info_parts Tryz.info3
  have H := Lib.hid hsp; clear hsp
  have HP := Lib.hid hpl; clear hpl
  go_enter Tryz.func118, Tryz.ntmps118
  go_wp2_with (first
    | (go_at_call 107; go_must (refine (H.out _).mono ?_; rintro e w1 ⟨g, cc, rfl, hg, hrow, hb1⟩; rw [List.length_map]; have hG1 := hG.below hb1))
    | (at_make; go_must (refine wpList_make_full w1 rfl _ _ 23 rfl w.heap.size 3 i0 (.int .i64 0) 1 Tryz.underlying23 hi hz0 hz1 .i64 .i64 _ _ ps.length rfl rfl rfl rfl (by rw [hz2]; omega) (by simp only [maxLen]; omega) hb1.size ?_; intro w2 hown hgr; have hb2 := below_none hb1 hgr; have hr0 := RowAt.of_own hown)))
  have hs2 := hrow.below (below_none (Below.refl _ _) hgr)
  rw [made_ints] at hr0
  generalize hN : w1.heap.size = N at *
  have HN : w.heap.size ≤ N := by rw [← hN]; exact hb1.size
  have HgN : g < N := by rw [← hN]; exact hrow.lt
  clear hN hown hgr hb1 hrow
  go_loopw [16] (fun i wr => ∃ (k : Nat) (ns : List Int), k ≤ ps.length ∧ i = .int .i64 k ∧ ns.length = k ∧ RowAt wr N 3 (ns.map (Value.int .i64) ++ List.replicate (ps.length - k) (.int .i64 0)) ∧ Hid (intsL ps = (intsL (ps.drop k)).map (ns ++ ·)) ∧ StrRow wr g cc (ps.map mkS) ∧ Below w.heap.size w wr) (fun i _ => ps.length - (intOf i).toNat)
  case atStart => exact ⟨0, [], by omega, rfl, rfl, by simpa using hr0, by unfold Hid; simp, hs2, hb2⟩
  case round =>
    obtain ⟨k, ns, hk, rfl, hns, hr, hT, hs, hb⟩ := hrel
    have hGr := hG.below hb
    by_cases hlt : k < ps.length
    · have hcell := hs.cell k (mkS ps[k]) (by simp [hlt])
      have hT2 := hT.out
      rw [List.drop_eq_getElem_cons hlt] at hT2
      simp only [intsL] at hT2
      have hat := fun w hG => atoi_any ps[k] w (HP.out _ (List.getElem_mem hlt)) hG
      generalize ps[k] = p at hcell hT2 hat
      have hset := hr.set k
      have hrc := hr.cell k (v := .int .i64 0) (fill_get _ _ _ _ _ hns hlt)
      have hrf := hr.frozen k
      have hrl := hr.lt
      cases hA : atoiO p with
      | none =>
        simp only [hA] at hT2 hat
        have HAT := Lib.hid hat
        clear hat hA hset
        have HT2 := Lib.hid hT2
        clear hT hT2
        go_wp2_with (go_at_call 116; go_must (refine (HAT.out _ hGr).mono ?_; rintro e w3 ⟨v, ev, rfl, hb3, T, p, rfl⟩; have hrc3 := cell_below hb3 hrc; have hrf3 := frozen_below hb3 hrl hrf; have HB3 := hb.trans (hb3.mono hb.size)))
        go_ret2
        exact ints_no (HR.out.symm.trans HT2.out) rfl (HB3.setCell HN _)
      | some x =>
        simp only [hA] at hT2 hat
        have HAT := Lib.hid hat
        clear hat hA hset
        go_wp2_with (go_at_call 116; go_must (refine (HAT.out _ hGr).mono ?_; rintro e w3 ⟨v, ev, rfl, hb3, rfl, rfl⟩; have hrc3 := cell_below hb3 hrc; have hrf3 := frozen_below hb3 hrl hrf; have HB3 := hb.trans (hb3.mono hb.size)))
        have hr3 := (hr.below hb3).set k (.int .i64 v)
        go_roundw
        case rel =>
          refine ⟨k + 1, ns ++ [v], by omega, by go_num, by simp [hns], ?_, ?_, ?_, HB3.setCell HN _⟩
          · rw [fill_set _ _ _ _ _ _ hns hlt] at hr3; exact hr3
          · unfold Hid; rw [hT2]; simp [Option.map_map, Function.comp_def]
          · exact (hs.below hb3).setCell (show N ≠ g by omega) _
        case measure => simp [intOf]; omega
    · obtain rfl : k = ps.length := by omega
      have hT2 := hT.out
      rw [List.drop_length] at hT2
      simp only [intsL, Option.map_some, List.append_nil] at hT2
      have HT2 := Lib.hid hT2
      clear hT hT2
      have hrow2 : IntRow wr N ns := ⟨hr.lt, fun i x hx => hr.cell i (by rw [List.getElem?_append_left (by rw [List.length_map]; exact (List.getElem?_eq_some_iff.1 hx).1), List.getElem?_map, hx]; rfl)⟩
      have HNS := Lib.hid hns; clear hns
      go_wp2
      go_ret2
      exact ints_ok (HR.out.symm.trans HT2.out) (by rw [HNS.out]; rfl) hb hrow2 HN
theorem ints_any (l : List UInt8) (w : World) (hG : Good w) (hl : l.length ≤ 1000000000) : Calls Tryz.prog 118 #[.string (mkS l)] w (IntsPost w (intsT l)) :=
  ints_walk l (splitL 44 l) _ rfl w hG (Nat.le_trans (splitL_len 44 l) (by omega)) (fun _ hp => Nat.le_trans (split_len hp) hl) (fun w => zzSplit_any (mkS l) 44 w (by rw [size_mkS]; omega))
