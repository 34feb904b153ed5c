import Derived.Test.YtcfbkkcamiephaaGreatDoorF3
namespace Go.Proofs.YtcfbkkcamiephaaGreatDoor
open Go.RowKit

/-! ### lists of texts that the call owns -/
def strV (l : List UInt8) : Value := .string (mkS l)
def StrOwn (W : World) (base : Nat) (v : Value) (L : List (List UInt8)) : Prop := W.ownsRow base 9 1 v L.length (L.map strV)
theorem StrOwn.below {W w' : World} {base : Nat} {v : Value} {L : List (List UInt8)} (h : StrOwn W base v L) (hb : Below W.heap.size W w') : StrOwn w' base v L := by
  refine World.ownsRow.kept (row := none) h ⟨hb.os, hb.tape, hb.output, hb.size, fun i hi _ => hb.block i hi⟩ ?_
  by_cases hh : v.ownBlock = none
  · exact .inl hh
  · exact .inr hh
theorem joinL_le (L : List (List UInt8)) (c : UInt8) (b : Nat) (h : ∀ x ∈ L, x.length ≤ b) : (Lib.join L [c]).length ≤ L.length * (b + 1) := by
  have key : ∀ L : List (List UInt8), (∀ x ∈ L, x.length ≤ b) → ([c].intercalate L).length ≤ L.length * (b + 1) := by
    intro L
    induction L with
    | nil => intro _; simp [List.intercalate, List.intersperse]
    | cons x r ih =>
      intro h
      have hx := h x (by simp)
      have := ih (fun y hy => h y (by simp [hy]))
      cases r with
      | nil => simp [List.intercalate, List.intersperse]; omega
      | cons y t =>
        simp only [List.intercalate, List.intersperse, List.flatten_cons, List.length_append, List.length_cons, List.length_nil] at this ⊢
        rw [Nat.add_mul (t.length + 1) 1]
        omega
  exact key L h
def In64 (n : Int) : Prop := -9223372036854775808 ≤ n ∧ n ≤ 9223372036854775807
def intsJ (zs : List Int) : List UInt8 := Lib.join (zs.map Lib.itoa) [44]
theorem intsJ_len (zs : List Int) (h : ∀ z ∈ zs, In64 z) : (intsJ zs).length ≤ zs.length * 21 := by
  have := joinL_le (zs.map Lib.itoa) 44 20 (fun x hx => by obtain ⟨z, hz, rfl⟩ := List.mem_map.1 hx; exact itoa_len z (h z hz).1 (h z hz).2)
  rw [List.length_map] at this; exact this
def intsP (key : List UInt8) (zs : List Int) : List (List UInt8) := if zs = [] then [] else [key ++ [61] ++ intsJ zs]
def AppPost (w0 : World) (L : List (List UInt8)) (e : Ending) (w' : World) : Prop := ∃ v, e = .returned v ∧ StrOwn w' w0.heap.size v L ∧ Below w0.heap.size w0 w'
theorem app_ok {w0 : World} {L : List (List UInt8)} {e : Ending} {w' : World} {v : Value} (he : e = .returned v) (h : StrOwn w' w0.heap.size v L) (hb : Below w0.heap.size w0 w') : AppPost w0 L e w' := ⟨v, he, h, hb⟩
theorem made_strs (n : Nat) : (madeCells (Value.string ByteArray.empty).cells (n * 1)).toList = List.replicate n (Value.string ByteArray.empty) := by
  simp [madeCells, Value.cells]
  rw [List.eq_replicate_iff]
  refine ⟨by simp, fun b hb => ?_⟩
  obtain ⟨a, _, rfl⟩ := List.mem_map.1 hb
  rw [Nat.mod_one]; rfl
theorem IntRowQ.set {w : World} {N g gq : Nat} {xs : List Int} (h : IntRowQ w g gq xs) (hg : g ≠ N) (i : Nat) (x : Value) : IntRowQ (w.setCell ⟨N, i, none⟩ x) g gq xs :=
  ⟨by simpa [World.setCell] using h.lt, fun j y hy => by rw [World.cell?_of_block (w := w) (Below.heap_setCell w _ x g hg)]; exact h.cell j y hy⟩
theorem DayRowQ.set {w : World} {N g gq : Nat} {xs : List (Int × Int)} (h : DayRowQ w g gq xs) (hg : g ≠ N) (i : Nat) (x : Value) : DayRowQ (w.setCell ⟨N, i, none⟩ x) g gq xs :=
  ⟨by simpa [World.setCell] using h.lt, fun j y hy => ⟨by rw [World.cell?_of_block (w := w) (Below.heap_setCell w _ x g hg)]; exact (h.cell j y hy).1, by rw [World.cell?_of_block (w := w) (Below.heap_setCell w _ x g hg)]; exact (h.cell j y hy).2⟩⟩
theorem snoc_take {α β : Type} (f : α → β) (zs : List α) (k : Nat) (h : k < zs.length) : (zs.take (k + 1)).map f = (zs.take k).map f ++ [f zs[k]] := by
  rw [List.take_succ_eq_append_getElem h, List.map_append]; rfl
set_option maxRecDepth 100000 in
set_option maxHeartbeats 1600000 in
theorem app103_none (L : List (List UInt8)) (key : List UInt8) (v : Value) (a : Option Addr) (c : Nat) (w0 W : World) (HO : StrOwn W w0.heap.size v L) (HB : Below w0.heap.size w0 W) :
    Calls Tryz.prog 103 #[v, .string (mkS key), .slice a 0 c] W (AppPost w0 L) := by
  go_enter Tryz.func103, Tryz.ntmps103
  go_wp2
  go_ret
  exact app_ok rfl HO HB
set_option maxRecDepth 100000 in
set_option maxHeartbeats 3200000 in
theorem app103_some (L : List (List UInt8)) (key : List UInt8) (zs : List Int) (v : Value) (g gq c : Nat) (w0 W : World) (hG : Good W) (HO : StrOwn W w0.heap.size v L) (HB : Below w0.heap.size w0 W)
    (hr : IntRowQ W g gq zs) (hz : 0 < zs.length) (hzl : zs.length ≤ 1000) (hk : key.length ≤ 100) (hL : L.length ≤ 1000) (hin : ∀ z ∈ zs, In64 z) :
    Calls Tryz.prog 103 #[v, .string (mkS key), .slice (some ⟨g, gq, none⟩) zs.length c] W (AppPost w0 (L ++ [key ++ [61] ++ intsJ zs])) := by
  obtain ⟨i0, hi, hz0, hz1, hz2⟩ := info_parts Tryz.info9
  have zk := size_mkS key
  have zj := size_mkS (intsJ zs)
  have hjl := intsJ_len zs hin
  have hne : ((zs.length : Int) == 0) = false := by rw [beq_eq_false_iff_ne]; omega
  have hk1 : mkS key ++ (⟨#[61]⟩ : ByteArray) = mkS (key ++ [61]) := str_app key [61]
  have zk1 := size_mkS (key ++ [61])
  have hk2 : mkS (key ++ [61]) ++ mkS (intsJ zs) = mkS (key ++ [61] ++ intsJ zs) := str_app _ _
  have hkl : (key ++ [61]).length = key.length + 1 := by simp
  rw [hkl] at zk1
  have HIN := Lib.hid hin; clear hin hkl
  have hJ : Hid (Lib.join (zs.map Lib.itoa) [44] = intsJ zs) := rfl
  generalize intsJ zs = J at *
  have hown0 := Lib.hid HO
  go_enter Tryz.func103, Tryz.ntmps103
  go_wp2_with (at_make; go_must (refine wpList_make_full W rfl _ _ 56 rfl W.heap.size 9 i0 (.string ByteArray.empty) 1 Tryz.underlying56 hi hz0 hz1 .i64 .i64 _ _ zs.length rfl rfl rfl rfl (by rw [hz2]; omega) (by simp only [maxLen]; omega) (Nat.le_refl _) ?_; intro w2 hown hgr; have hb2 := below_none (Below.refl W.heap.size W) hgr; have hr0 := RowAt.of_own hown))
  rw [made_strs] at hr0
  have hi2 := hr.below hb2
  have hgN : g ≠ W.heap.size := Nat.ne_of_lt hr.lt
  clear hown hgr
  generalize hN : W.heap.size = N at *
  have HNN := Lib.hid hN; clear hN
  go_loopw [19] (fun i wr => ∃ k : Nat, k ≤ zs.length ∧ i = .int .i64 k ∧ RowAt wr N 9 ((zs.take k).map (fun z => strV (Lib.itoa z)) ++ List.replicate (zs.length - k) (.string ByteArray.empty)) ∧ IntRowQ wr g gq zs ∧ Below N W wr) (fun i _ => zs.length - (intOf i).toNat)
  case atStart => exact ⟨0, by omega, rfl, by simpa using hr0, hi2, hb2⟩
  case round =>
    obtain ⟨k, hk, rfl, hrow, hir, hb⟩ := hrel
    have hGr := hG.below (by rw [HNN.out]; exact hb)
    by_cases hlt : k < zs.length
    · have hcell := hir.cell k zs[k] (by simp [hlt])
      have hst := snoc_take (fun z => strV (Lib.itoa z)) zs k hlt
      have hI := fun w hG => itoa_any zs[k] (HIN.out _ (List.getElem_mem hlt)).1 (HIN.out _ (List.getElem_mem hlt)).2 w hG
      generalize zs[k] = z at hcell hst hI
      have HI := Lib.hid hI
      have HST := Lib.hid hst
      clear hI hst
      have hrc := hrow.cell k (v := .string ByteArray.empty) (by rw [List.getElem?_append_right (by simp; omega)]; simp [List.getElem?_replicate]; omega)
      have hrf := hrow.frozen k
      have hrl := hrow.lt
      go_wp2_with (go_at_call 101; go_must (refine (HI.out _ hGr).mono ?_; rintro e w3 ⟨rfl, hb3⟩; have hrc3 := cell_below hb3 hrc; have hrf3 := frozen_below hb3 hrl hrf; have HB3 := hb.trans (hb3.mono (by rw [← HNN.out]; exact (show Below N W wr from hb).size))))
      have hr3 := (hrow.below hb3).set k (strV (Lib.itoa z))
      go_roundw
      case rel =>
        refine ⟨k + 1, by omega, by go_num, ?_, (hir.below hb3).set hgN _ _, HB3.setCell (Nat.le_refl _) _⟩
        rw [HST.out]
        have hset : (List.map (fun z => strV (Lib.itoa z)) (zs.take k) ++ List.replicate (zs.length - k) (Value.string ByteArray.empty)).set k (strV (Lib.itoa z)) = List.map (fun z => strV (Lib.itoa z)) (zs.take k) ++ [strV (Lib.itoa z)] ++ List.replicate (zs.length - (k + 1)) (Value.string ByteArray.empty) := by
          rw [List.set_append_right _ _ (by simp; omega), show zs.length - k = (zs.length - (k + 1)) + 1 by omega, List.replicate_succ]
          simp [Nat.min_eq_left (Nat.le_of_lt hlt)]
        rw [hset] at hr3
        exact hr3
      case measure => simp [intOf]; omega
    · obtain rfl : k = zs.length := by omega
      rw [List.take_length, Nat.sub_self] at hrow
      have hjoin := fun w (h : RowAt w N 9 (zs.map (fun z => strV (Lib.itoa z)) ++ List.replicate 0 (Value.string ByteArray.empty))) => Tryz.strings_Join N 0 zs.length (zs.map fun z => mkS (Lib.itoa z)) ⟨#[44]⟩ w
        (fun j x hx => by rw [Nat.zero_add]; exact h.cell j (by rw [List.getElem?_append_left (by have := (List.getElem?_eq_some_iff.1 hx).1; simpa using this)]; rw [List.getElem?_map] at hx ⊢; cases hz : zs[j]? <;> rw [hz] at hx <;> simp at hx ⊢; rw [← hx]; rfl)) h.lt (by simp; omega) (by simp)
        (by rw [List.map_map]; show (Lib.join (zs.map Lib.itoa) [44]).length ≤ _; rw [hJ.out]; omega)
      rw [List.length_map, List.map_map] at hjoin
      change ∀ w, _ → Calls Tryz.prog 104 _ w fun e w' => e = .returned (.string ⟨(Lib.join (zs.map Lib.itoa) [44]).toArray⟩) ∧ _ at hjoin
      rw [hJ.out] at hjoin
      have HJN := Lib.hid hjoin; clear hjoin
      have hown1 := Lib.hid (StrOwn.below hown0.out (by rw [HNN.out]; exact hb))
      go_wp2_with (first
        | (go_at_call 104; go_must (refine (HJN.out _ hrow).mono ?_; rintro e w4 ⟨rfl, hb4⟩; have hb4' : Below N W w4 := hb.trans (hb4.mono (by rw [← HNN.out]; exact hb.size)); have hown4 := StrOwn.below hown0.out (w' := w4) (by rw [HNN.out]; exact hb4'); have HB4 : Below w0.heap.size w0 w4 := HB.trans (hb4'.mono (by rw [← HNN.out]; exact HB.size)); have hsz4 := HB4.size))
        | (at_builtin; go_must (refine app1 w0.heap.size _ _ 56 (.string ByteArray.empty) 16 Tryz.underlying56 Tryz.info9 rfl rfl hown4 HB4 hsz4 (by omega) (by omega) rfl rfl rfl rfl ?_); intro v' w5 hown5 hb5 hsz5))
      go_ret
      exact app_ok rfl (by unfold StrOwn; rw [List.length_append, List.map_append]; exact hown5) hb5
end Go.Proofs.YtcfbkkcamiephaaGreatDoor
namespace Go.Proofs.YtcfbkkcamiephaaGreatDoor
open Go.RowKit

/-! ### the date and the time of a moment of the years 0000 to 9999 -/
def monK (y e : Int) : Nat := if e < mcum y 1 then 0 else if e < mcum y 2 then 1 else if e < mcum y 3 then 2 else if e < mcum y 4 then 3 else if e < mcum y 5 then 4 else if e < mcum y 6 then 5 else if e < mcum y 7 then 6 else if e < mcum y 8 then 7 else if e < mcum y 9 then 8 else if e < mcum y 10 then 9 else if e < mcum y 11 then 10 else 11
theorem monK_spec (y e : Int) (h0 : 0 ≤ e) (h1 : e < mcum y 12) : monK y e ≤ 11 ∧ mcum y (monK y e) ≤ e ∧ e < mcum y (monK y e + 1) := by
  have m0 : mcum y 0 = 0 := rfl
  unfold monK
  repeat' split
  all_goals (refine ⟨by omega, ?_, ?_⟩ <;> first | omega | assumption)
def yearS (s : Int) : Int := yearOf (s / 86400)
def monS (s : Int) : Int := monK (yearS s) (ydayOf (s / 86400)) + 1
def dayS (s : Int) : Int := ydayOf (s / 86400) - mcum (yearS s) (monK (yearS s) (ydayOf (s / 86400))) + 1
def InTime (s : Int) : Prop := -31622400 ≤ s ∧ s ≤ 315537897599
theorem yearS_in (s : Int) (h : InTime s) : 0 ≤ yearS s ∧ yearS s ≤ 9999 := by
  have e := ydayOf_eq (s / 86400)
  have b := ydayOf_bd (s / 86400)
  obtain ⟨h0, h1⟩ := h
  unfold yearS
  generalize yearOf (s / 86400) = y at *
  have hle : (if leapB y then (366 : Int) else 365) ≤ 366 := by split <;> omega
  constructor
  · by_cases hy : 0 ≤ y
    · exact hy
    · exfalso
      have h2 := daysTo_succ y
      have h3 := mcum_12 y
      have h4 := daysTo_mono (a := y + 1) (b := 0) (by omega)
      have h5 : daysTo 0 = -366 := by decide
      omega
  · by_cases hy : y ≤ 9999
    · exact hy
    · exfalso
      have h4 := daysTo_mono (a := 10000) (b := y) (by omega)
      have h5 : daysTo 10000 = 3652059 := by decide
      omega
theorem civ_of (s : Int) (h : InTime s) : Civ s (yearS s) (monS s) (dayS s) (s % 86400 / 3600) (s % 86400 / 60 % 60) (s % 86400 % 60) := by
  have hy := yearS_in s h
  have e := ydayOf_eq (s / 86400)
  have b := ydayOf_bd (s / 86400)
  rw [← mcum_12] at b
  have k := monK_spec (yearOf (s / 86400)) (ydayOf (s / 86400)) b.1 b.2
  have hms := mcum_succ (yearOf (s / 86400)) (monK (yearOf (s / 86400)) (ydayOf (s / 86400)))
  have hmz : monS s = ((monK (yearOf (s / 86400)) (ydayOf (s / 86400)) : Nat) : Int) + 1 := rfl
  have hdz : dayS s = ydayOf (s / 86400) - mcum (yearOf (s / 86400)) (monK (yearOf (s / 86400)) (ydayOf (s / 86400))) + 1 := rfl
  have hyz : yearS s = yearOf (s / 86400) := rfl
  have hmt : (monS s - 1).toNat = monK (yearOf (s / 86400)) (ydayOf (s / 86400)) := by rw [hmz]; omega
  refine ⟨?_, by omega, by omega, by omega, by omega, by omega, ?_, by omega, by omega, by omega, by omega, by omega, by omega⟩
  · unfold dayNum
    rw [hmt, hyz, hdz]
    generalize monK (yearOf (s / 86400)) (ydayOf (s / 86400)) = K at *
    generalize daysTo (yearOf (s / 86400)) = A at *
    generalize mcum (yearOf (s / 86400)) K = B at *
    generalize ydayOf (s / 86400) = D at *
    omega
  · rw [hyz, hmz, hdz]
    rw [hms] at k
    omega
def stampS (s : Int) : List UInt8 := stampL (yearS s) (monS s) (dayS s) (s % 86400 / 3600) (s % 86400 / 60 % 60) (s % 86400 % 60)
theorem stampS_len (s : Int) (h : InTime s) : (stampS s).length = 16 := (civ_of s h).len (yearS_in s h)
theorem timeStrS (s n : Int) (h : InTime s) (w : World) (hG : Good w) : Calls Tryz.prog 102 #[.agg #[.int .i64 s, .int .i64 n]] w fun e w' => e = .returned (.string (mkS (stampS s))) ∧ Below w.heap.size w w' :=
  timeStr_any s n _ _ _ _ _ _ w hG (civ_of s h) (yearS_in s h)
theorem rfcS (s n : Int) (h : InTime s) (w : World) (hG : Good w) : Calls Tryz.prog 97 #[.agg #[.int .i64 s, .int .i64 n]] w fun e w' => e = .returned (.string (mkS (rfcL (stampS s)))) ∧ Below w.heap.size w w' :=
  rfc_any s n _ _ _ _ _ _ w hG (civ_of s h) (yearS_in s h)

/-! ### the parts of a rule's text -/
structure IntsOk (zs : List Int) : Prop where
  len : zs.length ≤ 1000
  rng : ∀ z ∈ zs, In64 z
structure DaysOk (ds : List (Int × Int)) : Prop where
  len : ds.length ≤ 1000
  rng : ∀ p ∈ ds, 0 ≤ p.1 ∧ p.1 ≤ 6 ∧ In64 p.2
def daysJ (ds : List (Int × Int)) : List UInt8 := Lib.join (ds.map fun p => dayStr p.1.toNat p.2) [44]
theorem signed_len (n : Int) (h : In64 n) : (signed n).length ≤ 21 := by
  have := itoa_len n h.1 h.2
  unfold signed; split <;> simp <;> omega
theorem dayL_len (i : Nat) : (dayL i).length = 2 := by
  match i with
  | 0 => rfl
  | 1 => rfl
  | 2 => rfl
  | 3 => rfl
  | 4 => rfl
  | 5 => rfl
  | (n + 6) => rfl
theorem dayStr_len (d : Nat) (n : Int) (h : In64 n) : (dayStr d n).length ≤ 23 := by
  have := signed_len n h
  have := dayL_len d
  unfold dayStr
  split
  · omega
  · rw [List.length_append]; omega
theorem daysJ_len (ds : List (Int × Int)) (h : DaysOk ds) : (daysJ ds).length ≤ 24000 := by
  have := joinL_le (ds.map fun p => dayStr p.1.toNat p.2) 44 23 (fun x hx => by obtain ⟨p, hp, rfl⟩ := List.mem_map.1 hx; exact dayStr_len _ _ (h.rng p hp).2.2)
  rw [List.length_map] at this
  have := h.len
  unfold daysJ
  omega
structure OptOk (o : Opt) : Prop where
  fq : 0 ≤ o.fq ∧ o.fq ≤ 6
  st : InTime o.st.1
  iv : In64 o.iv
  wk : 0 ≤ o.wk.1 ∧ o.wk.1 ≤ 6 ∧ In64 o.wk.2
  ct : In64 o.ct
  un : InTime o.un.1
  sp : IntsOk o.sp
  mo : IntsOk o.mo
  md : IntsOk o.md
  yd : IntsOk o.yd
  wn : IntsOk o.wn
  dy : DaysOk o.dy
  ho : IntsOk o.ho
  mi : IntsOk o.mi
  se : IntsOk o.se
  ea : IntsOk o.ea
def kFreq : List UInt8 := [70, 82, 69, 81, 61]
def kInt : List UInt8 := [73, 78, 84, 69, 82, 86, 65, 76, 61]
def kWkst : List UInt8 := [87, 75, 83, 84, 61]
def kCount : List UInt8 := [67, 79, 85, 78, 84, 61]
def kUntil : List UInt8 := [85, 78, 84, 73, 76, 61]
def kDay : List UInt8 := [66, 89, 68, 65, 89, 61]
def p0 (o : Opt) : List (List UInt8) := [kFreq ++ freqL o.fq.toNat]
def p1 (o : Opt) : List (List UInt8) := if o.iv = 0 then [] else [kInt ++ Lib.itoa o.iv]
def p2 (o : Opt) : List (List UInt8) := if o.wk.1 = 0 ∧ o.wk.2 = 0 then [] else [kWkst ++ dayStr o.wk.1.toNat o.wk.2]
def p3 (o : Opt) : List (List UInt8) := if o.ct = 0 then [] else [kCount ++ Lib.itoa o.ct]
def p4 (o : Opt) : List (List UInt8) := if isZ o.un then [] else [kUntil ++ stampS o.un.1]
def p10 (o : Opt) : List (List UInt8) := if o.dy = [] then [] else [kDay ++ daysJ o.dy]
def partsP (o : Opt) : List (List UInt8) :=
  p0 o ++ p1 o ++ p2 o ++ p3 o ++ p4 o ++ intsP (keyNm 6) o.sp ++ intsP (keyNm 7) o.mo ++ intsP (keyNm 8) o.md ++ intsP (keyNm 9) o.yd ++ intsP (keyNm 10) o.wn ++ p10 o ++ intsP (keyNm 12) o.ho ++ intsP (keyNm 13) o.mi ++ intsP (keyNm 14) o.se ++ intsP (keyNm 15) o.ea
def rrL (o : Opt) : List UInt8 := Lib.join (partsP o) [59]
def Short (L : List (List UInt8)) (k : Nat) : Prop := L.length ≤ k ∧ ∀ x ∈ L, x.length ≤ 30000
theorem Short.app {A B : List (List UInt8)} {a b : Nat} (h : Short A a) (k : Short B b) : Short (A ++ B) (a + b) :=
  ⟨by rw [List.length_append]; have := h.1; have := k.1; omega, fun x hx => by rcases List.mem_append.1 hx with hx | hx; exact h.2 x hx; exact k.2 x hx⟩
theorem Short.one {x : List UInt8} (h : x.length ≤ 30000) : Short [x] 1 := ⟨by simp, fun y hy => by rw [List.mem_singleton] at hy; subst hy; exact h⟩
theorem Short.none (k : Nat) : Short [] k := ⟨by simp, fun y hy => by simp at hy⟩
theorem keyNm_len (i : Nat) : (keyNm i).length ≤ 10 := by
  match i with
  | 0 => decide
  | 1 => decide
  | 2 => decide
  | 3 => decide
  | 4 => decide
  | 5 => decide
  | 6 => decide
  | 7 => decide
  | 8 => decide
  | 9 => decide
  | 10 => decide
  | 11 => decide
  | 12 => decide
  | 13 => decide
  | 14 => decide
  | (n + 15) => show (keyNm 15).length ≤ 10; decide
theorem intsP_short (i : Nat) (zs : List Int) (h : IntsOk zs) : Short (intsP (keyNm i) zs) 1 := by
  unfold intsP
  split
  · exact Short.none _
  · refine Short.one ?_
    have h1 := intsJ_len zs h.rng
    have h2 := h.len
    have h3 := keyNm_len i
    simp only [List.length_append, List.length_cons, List.length_nil]
    omega
theorem freqL_len (i : Nat) : (freqL i).length ≤ 8 := by
  match i with
  | 0 => decide
  | 1 => decide
  | 2 => decide
  | 3 => decide
  | 4 => decide
  | 5 => decide
  | (n + 6) => show (freqL 6).length ≤ 8; decide
theorem p0_short (o : Opt) : Short (p0 o) 1 := by
  refine Short.one ?_
  have := freqL_len o.fq.toNat
  simp only [kFreq, List.length_append, List.length_cons, List.length_nil]; omega
theorem p1_short (o : Opt) (h : In64 o.iv) : Short (p1 o) 1 := by
  unfold p1
  split
  · exact Short.none _
  · refine Short.one ?_
    have := itoa_len o.iv h.1 h.2
    simp only [kInt, List.length_append, List.length_cons, List.length_nil]; omega
theorem p2_short (o : Opt) (h : In64 o.wk.2) : Short (p2 o) 1 := by
  unfold p2
  split
  · exact Short.none _
  · refine Short.one ?_
    have := dayStr_len o.wk.1.toNat o.wk.2 h
    simp only [kWkst, List.length_append, List.length_cons, List.length_nil]; omega
theorem p3_short (o : Opt) (h : In64 o.ct) : Short (p3 o) 1 := by
  unfold p3
  split
  · exact Short.none _
  · refine Short.one ?_
    have := itoa_len o.ct h.1 h.2
    simp only [kCount, List.length_append, List.length_cons, List.length_nil]; omega
theorem p4_short (o : Opt) (h : InTime o.un.1) : Short (p4 o) 1 := by
  unfold p4
  split
  · exact Short.none _
  · refine Short.one ?_
    have := stampS_len _ h
    simp only [kUntil, List.length_append, List.length_cons, List.length_nil]; omega
theorem p10_short (o : Opt) (h : DaysOk o.dy) : Short (p10 o) 1 := by
  unfold p10
  split
  · exact Short.none _
  · refine Short.one ?_
    have := daysJ_len _ h
    simp only [kDay, List.length_append, List.length_cons, List.length_nil]; omega
theorem partsP_short (o : Opt) (h : OptOk o) : Short (partsP o) 15 :=
  ((((((((((((((p0_short o).app (p1_short o h.iv)).app (p2_short o h.wk.2.2)).app (p3_short o h.ct)).app (p4_short o h.un)).app (intsP_short 6 _ h.sp)).app (intsP_short 7 _ h.mo)).app (intsP_short 8 _ h.md)).app (intsP_short 9 _ h.yd)).app (intsP_short 10 _ h.wn)).app (p10_short o h.dy)).app (intsP_short 12 _ h.ho)).app (intsP_short 13 _ h.mi)).app (intsP_short 14 _ h.se)).app (intsP_short 15 _ h.ea)
theorem Short.join {L : List (List UInt8)} {k : Nat} (h : Short L k) (c : UInt8) : (Lib.join L [c]).length ≤ k * 30001 :=
  Nat.le_trans (joinL_le L c 30000 h.2) (Nat.mul_le_mul_right _ h.1)
theorem rrL_len (o : Opt) (h : OptOk o) : (rrL o).length ≤ 450015 := (partsP_short o h).join 59

/-! ### calls on such lists -/
theorem app103_any (L : List (List UInt8)) (key : List UInt8) (zs : List Int) (v vv : Value) (w0 W : World) (hG : Good W) (HO : StrOwn W w0.heap.size v L) (HB : Below w0.heap.size w0 W)
    (hr : IntsV W vv zs) (hz : IntsOk zs) (hk : key.length ≤ 100) (hL : L.length ≤ 1000) :
    Calls Tryz.prog 103 #[v, .string (mkS key), vv] W (AppPost w0 (L ++ intsP key zs)) := by
  rcases hr with ⟨rfl, rfl⟩ | ⟨g, gq, c, rfl, _, hr⟩
  · rw [show intsP key [] = [] from rfl, List.append_nil]
    exact app103_none L key v none 0 w0 W HO HB
  · by_cases h0 : zs = []
    · subst h0
      rw [show intsP key [] = [] from rfl, List.append_nil]
      exact app103_none L key v _ c w0 W HO HB
    · rw [show intsP key zs = [key ++ [61] ++ intsJ zs] from if_neg h0]
      exact app103_some L key zs v g gq c w0 W hG HO HB hr (List.length_pos_iff.2 h0) hz.len hk hL hz.rng
theorem join_own (L : List (List UInt8)) (c : UInt8) (k : Nat) (v : Value) (base : Nat) (W : World) (HO : StrOwn W base v L) (hne : L ≠ []) (hs : Short L k) (hk : k ≤ 2000) :
    Calls Tryz.prog 104 #[v, .string ⟨#[c]⟩] W fun e w' => e = .returned (.string (mkS (Lib.join L [c]))) ∧ Below W.heap.size W w' := by
  have h2 : W.ownsRow base 9 1 v L.length ((L.map mkS).map Value.string) := by
    have : (L.map mkS).map Value.string = L.map strV := by rw [List.map_map]; rfl
    rw [this]; exact HO
  have hlen := hs.1
  obtain ⟨g, cc, rfl, _, hrow⟩ := own_strRow h2 (List.length_pos_iff.2 hne) (by omega)
  have hmap : (L.map mkS).map (fun s : ByteArray => s.data.toList) = L := by rw [List.map_map]; exact List.map_id L
  have hj := hs.join c
  have := Tryz.strings_Join g 0 cc (L.map mkS) ⟨#[c]⟩ W (fun j x hx => by rw [Nat.zero_add]; exact hrow.cell j x hx) hrow.lt (by rw [List.length_map]; omega) (by have := hrow.cap; exact this)
    (by rw [hmap]; show (Lib.join L [c]).length ≤ _; have : k * 30001 ≤ 2000 * 30001 := Nat.mul_le_mul_right _ hk; omega)
  rw [hmap, List.length_map] at this
  exact this
end Go.Proofs.YtcfbkkcamiephaaGreatDoor
