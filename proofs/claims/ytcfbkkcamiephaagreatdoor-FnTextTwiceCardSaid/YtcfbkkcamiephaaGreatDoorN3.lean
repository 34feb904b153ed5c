import Derived.Test.YtcfbkkcamiephaaGreatDoorN2
import Derived.Test.YtcfbkkcamiephaaGreatDoorF10
import Derived.Test.YtcfbkkcamiephaaGreatDoorF11
namespace Go.Proofs.YtcfbkkcamiephaaGreatDoor
open Go.RowKit

/-! ### the region that appends a day to the list of a rule that lies in memory -/
theorem But.grown {N : Nat} {a w w1 : World} {o : Option Nat} (h : But N a w) (hg : w.grownBy w1 o) (ho : ∀ k, o = some k → a.heap.size ≤ k) : But N a w1 :=
  ⟨hg.os.trans h.os, hg.tape.trans h.tape, hg.output.trans h.output, Nat.le_trans h.size hg.size, fun i hi hn => (hg.block i (Nat.lt_of_lt_of_le hi h.size) (fun e => by have := ho i e.symm; omega)).trans (h.block i hi hn)⟩
structure KD (W1 : World) (N D : Nat) (cells : Value → List Value) (v : Value) (n0 : Nat) (xs : List Value) (x y : Value) (iL iD iB iA iS : Nat) (b : Nat × Value) (listed : Array Bool) (w : World) : Prop where
  lt : N < W1.heap.size
  but : But N W1 w
  sA : listed[iS]? = some true → listed[iA]? = some true
  aL : listed[iA]? = some true → listed[iL]? = some true
  aB : listed[iA]? = some true → listed[iB]? = some true
  bD : listed[iB]? = some true → listed[iD]? = some true
  row0 : listed[iS]? ≠ some true → RowAt w N 26 (cells v)
  row1 : listed[iS]? = some true → RowAt w N 26 (cells b.2)
  own0 : listed[iA]? ≠ some true → w.ownsRow W1.heap.size 59 2 v n0 xs
  own1 : listed[iA]? = some true → w.ownsRow W1.heap.size 59 2 b.2 (n0 + 1) (xs ++ [x, y])
  dc : listed[iA]? ≠ some true → w.heap[D]? = some (.cells #[x, y] 59 (0, 0))
  lit : listed[iB]? = some true → listed[iA]? ≠ some true → w.heap[b.1]? = some (.cells #[x, y] 59 (0, 0))
theorem nget {listed : Array Bool} {i j : Nat} (h : i ≠ j) : (listed.setIfInBounds i true)[j]? = listed[j]? := Array.getElem?_setIfInBounds_ne h
theorem set_tr {listed : Array Bool} {i j : Nat} (h : listed[j]? = some true) : (listed.setIfInBounds i true)[j]? = some true := by
  by_cases e : i = j
  · subst e
    have := (Array.getElem?_eq_some_iff.1 h).1
    simp [this]
  · rw [Array.getElem?_setIfInBounds_ne e]; exact h
theorem set_se {listed : Array Bool} {i : Nat} {x : Bool} (h : listed[i]? = some x) : (listed.setIfInBounds i true)[i]? = some true := by
  have := (Array.getElem?_eq_some_iff.1 h).1
  simp [this]
theorem gd_upd {s t : Array Value} {d k : Nat} {v : Value} (h : s = t.setIfInBounds d v) (e : some d ≠ some k) : s.getD k undef = t.getD k undef := by
  rw [h, Array.getD_eq_getD_getElem?, Array.getD_eq_getD_getElem?, Array.getElem?_setIfInBounds_ne (fun h => e (by rw [h]))]
theorem no_listed (n : Nat) : ∀ i : Nat, (Array.replicate n false)[i]? ≠ some true := fun i h => by
  obtain ⟨h1, h2⟩ := Array.getElem?_eq_some_iff.1 h
  simp at h2
section
variable {W1 w w1 : World} {N D : Nat} {cells : Value → List Value} {v : Value} {n0 : Nat} {xs : List Value} {x y : Value} {iL iD iB iA iS : Nat} {b : Nat × Value} {listed : Array Bool}
theorem KD.other (h : KD W1 N D cells v n0 xs x y iL iD iB iA iS b listed w) {i : Nat} (hB : i ≠ iB) (hA : i ≠ iA) (hS : i ≠ iS) : KD W1 N D cells v n0 xs x y iL iD iB iA iS b (listed.setIfInBounds i true) w := by
  have eB := nget (listed := listed) hB
  have eA := nget (listed := listed) hA
  have eS := nget (listed := listed) hS
  exact ⟨h.lt, h.but, by rw [eS, eA]; exact h.sA, by rw [eA]; exact fun e => set_tr (h.aL e), by rw [eA, eB]; exact h.aB, by rw [eB]; exact fun e => set_tr (h.bD e), by rw [eS]; exact h.row0, by rw [eS]; exact h.row1, by rw [eA]; exact h.own0, by rw [eA]; exact h.own1, by rw [eA]; exact h.dc, by rw [eB, eA]; exact h.lit⟩
theorem KD.made (h : KD W1 N D cells v n0 xs x y iL iD iB iA iS b listed w) (hD : listed[iD]? = some true) (hf : listed[iA]? ≠ some true) (hA : iB ≠ iA) (hS : iB ≠ iS) :
    KD W1 N D cells v n0 xs x y iL iD iB iA iS (w.heap.size, b.2) (listed.setIfInBounds iB true) (w.alloc (.cells #[x, y] 59)) := by
  have hb : Below w.heap.size w (w.alloc (.cells #[x, y] 59)) := (Below.refl _ _).alloc (Nat.le_refl _) _
  have eA := nget (listed := listed) hA
  have eS := nget (listed := listed) hS
  have hs : listed[iS]? ≠ some true := fun e => hf (h.sA e)
  refine ⟨h.lt, h.but.trans (.of hb), by rw [eS, eA]; exact h.sA, by rw [eA]; exact fun e => set_tr (h.aL e), by rw [eA]; exact fun e => set_tr (h.aB e), fun _ => set_tr hD, by rw [eS]; exact fun e => (h.row0 e).below hb, by rw [eS]; exact fun e => absurd e hs, by rw [eA]; exact fun e => (h.own0 e).alloc _, by rw [eA]; exact fun e => absurd e hf, by rw [eA]; exact fun e => (hb.block D (lt_of_block (h.dc e))).trans (h.dc e), fun _ _ => heap_alloc_new w _⟩
theorem KD.appended (h : KD W1 N D cells v n0 xs x y iL iD iB iA iS b listed w) (hL : listed[iL]? = some true) (hB : listed[iB]? = some true) (hf : listed[iA]? = some false) (hLA : iA ≠ iL) (hBA : iA ≠ iB) (hDA : iA ≠ iD) (hSA : iA ≠ iS) {v1 : Value}
    (hown : w1.ownsRow W1.heap.size 59 2 v1 (n0 + 1) (xs ++ [x, y])) (hg : w.grownBy w1 v.ownBlock) : KD W1 N D cells v n0 xs x y iL iD iB iA iS (b.1, v1) (listed.setIfInBounds iA true) w1 := by
  have hA : listed[iA]? ≠ some true := by rw [hf]; simp
  have hS : listed[iS]? ≠ some true := fun e => hA (h.sA e)
  have eL := nget (listed := listed) hLA
  have eB := nget (listed := listed) hBA
  have eD := nget (listed := listed) hDA
  have eS := nget (listed := listed) hSA
  have o0 := h.own0 hA
  have hr := h.row0 hS
  refine ⟨h.lt, h.but.grown hg (fun k hk => (o0.lt k hk).1), ?_, ?_, ?_, ?_, fun _ => ⟨?_⟩, ?_, ?_, fun _ => hown, ?_, ?_⟩
  · rw [eS]; exact fun e => absurd e hS
  · rw [eL]; exact fun _ => hL
  · rw [eB]; exact fun _ => hB
  · rw [eB, eD]; exact h.bD
  · exact (hg.block N hr.lt (fun e => by have := (o0.lt N e.symm).1; have := h.lt; omega)).trans hr.blk
  · rw [eS]; exact fun e => absurd e hS
  · rw [set_se hf]; exact fun e => absurd rfl e
  · rw [set_se hf]; exact fun e => absurd rfl e
  · rw [set_se hf]; exact fun _ e => absurd rfl e
theorem KD.stored (h : KD W1 N D cells v n0 xs x y iL iD iB iA iS b listed w) (hA : listed[iA]? = some true) (hf : listed[iS]? = some false) (hSA : iS ≠ iA) (hSB : iS ≠ iB) (hcs : ∀ u u', (cells u).set 13 u' = cells u') : KD W1 N D cells v n0 xs x y iL iD iB iA iS b (listed.setIfInBounds iS true) (w.setCell ⟨N, 13, none⟩ b.2) := by
  have eA := nget (listed := listed) hSA
  have eB := nget (listed := listed) hSB
  have hS : listed[iS]? ≠ some true := by rw [hf]; simp
  have hr := h.row0 hS
  have o1 := h.own1 hA
  refine ⟨h.lt, h.but.set 13 _, ?_, ?_, ?_, ?_, ?_, fun _ => ?_, ?_, fun _ => ?_, ?_, ?_⟩
  · rw [eA]; exact fun _ => hA
  · rw [eA]; exact fun e => set_tr (h.aL e)
  · rw [eA, eB]; exact h.aB
  · rw [eB]; exact fun e => set_tr (h.bD e)
  · rw [set_se hf]; exact fun e => absurd rfl e
  · have := hr.set 13 b.2
    rw [hcs] at this; exact this
  · rw [eA]; exact fun e => absurd hA e
  · exact ownsRow_setCell_other o1 (fun e => by have := (o1.lt N e).1; have := h.lt; omega) _
  · rw [eA]; exact fun e => absurd hA e
  · rw [eA]; exact fun _ e => absurd hA e
theorem KD.notS (h : KD W1 N D cells v n0 xs x y iL iD iB iA iS b listed w) (hf : listed[iL]? = some false) : listed[iS]? ≠ some true := fun e => by
  have := h.aL (h.sA e); rw [hf] at this; cases this
theorem KD.notA (h : KD W1 N D cells v n0 xs x y iL iD iB iA iS b listed w) (hf : listed[iD]? = some false) : listed[iA]? ≠ some true := fun e => by
  have := h.bD (h.aB e); rw [hf] at this; cases this
theorem KD.notA2 (h : KD W1 N D cells v n0 xs x y iL iD iB iA iS b listed w) (hf : listed[iB]? = some false) : listed[iA]? ≠ some true := fun e => by
  have := h.aB e; rw [hf] at this; cases this
theorem KD.form (h : KD W1 N D cells v n0 xs x y iL iD iB iA iS b listed w) (hA : listed[iA]? = some true) : ∃ g c, b.2 = .slice (some ⟨g, 0, none⟩) (n0 + 1) c := by
  rcases (h.own1 hA).2 with ⟨_, h⟩ | ⟨g, cap, cur, h, _⟩
  · omega
  · exact ⟨_, _, h⟩
end
/-- the append of a day -/
theorem step_day {W1 w1 : World} {N D : Nat} {cells : Value → List Value} {v : Value} {n0 : Nat} {xs : List Value} {x y : Int} {iL iD iB iA iS : Nat} {b : Nat × Value} {listed : Array Bool} {o : Oper} {a : Act} {K : Act → World → Prop} {Q : Exit → Act → World → Prop}
    (s z : Operand) (hB : KD W1 N D cells v n0 xs (.int .i64 x) (.int .i64 y) iL iD iB iA iS b listed w1) (hf : listed[iA]? = some false) (hbl : listed[iB]? = some true) (hn : n0 ≤ 1000000001)
    (ho : o.op = .call { callee := .builtin .append, args := #[s, z], argTypes := #[24, 24] }) (hs : a.eval s = v) (hx : a.eval z = .slice (some ⟨b.1, 0, none⟩) 1 1)
    (h : ∀ v1 w2, w2.ownsRow W1.heap.size 59 2 v1 (n0 + 1) (xs ++ [.int .i64 x, .int .i64 y]) → w1.grownBy w2 v.ownBlock → K (a.put o.dst v1) w2) : o.wp Tryz.prog a w1 K Q := by
  obtain ⟨i0, hi, hz0, hz1, hz2⟩ := info_parts Tryz.inf59d
  have hA : listed[iA]? ≠ some true := by rw [hf]; simp
  have hlit := hB.lit hbl hA
  refine wp_append_own w1 s z 24 ho W1.heap.size 59 i0 _ 2 16 Tryz.underlying24 hi hz0 hz1 hz2 rfl (by omega) v n0 xs hs (hB.own0 hA) ⟨b.1, 0, none⟩ 1 1 [.int .i64 x, .int .i64 y] hx rfl (fun j u hu => ?_) (by simp [Value.oneCell']) (by simp only [maxLen]; omega) (by omega) hB.but.size (fun v1 w2 h1 h2 _ => h v1 w2 h1 h2)
  have hadd : (⟨b.1, 0, none⟩ : Addr).add j = ⟨b.1, j, none⟩ := by unfold Addr.add; split <;> simp_all
  rw [hadd]
  simp only [World.cell?, hlit]
  simpa using hu
theorem daysL_app (A B : List (List UInt8)) : daysL (A ++ B) = (daysL A).bind fun ds => (daysL B).map fun es => ds ++ es := by
  induction A with
  | nil => simp [daysL]
  | cons q r ih =>
    simp only [List.cons_append, daysL]
    cases dayT q with
    | none => rfl
    | some n =>
      simp only [ih]
      cases daysL r with
      | none => rfl
      | some ds => cases daysL B <;> rfl
theorem daysL_take {ps : List (List UInt8)} {k : Nat} {ds : List (Int × Int)} (h : daysL (ps.take k) = some ds) (hk : k < ps.length) {q : Int × Int} (hq : dayT ps[k] = some q) : daysL (ps.take (k + 1)) = some (ds ++ [q]) := by
  rw [List.take_succ_eq_append_getElem hk, daysL_app, h]
  simp [daysL, hq]
theorem daysL_bad {ps : List (List UInt8)} {k : Nat} (hk : k < ps.length) (hq : dayT ps[k] = none) : daysL ps = none := by
  have e : ps = ps.take k ++ ps[k] :: ps.drop (k + 1) := by rw [← List.drop_eq_getElem_cons hk, List.take_append_drop]
  rw [e, daysL_app]
  simp [daysL, hq]
theorem days_ownN {w : World} {B N : Nat} {e : TypeId} {v : Value} {ds : List (Int × Int)} (h : w.ownsRow B e 2 v ds.length (flat2 ds)) (hN : N < B) : DaysN w N v ds := by
  have h' := h
  obtain ⟨h1, h2⟩ := h
  rcases h2 with ⟨hv, h0⟩ | ⟨g, cap, cur, hv, hb, hh, hc, hm, hs, ht⟩
  · exact .inl ⟨List.eq_nil_of_length_eq_zero h0, hv⟩
  · refine .inr ⟨g, cap, hv, hc, by omega, (Array.getElem?_eq_some_iff.1 hh).1, fun i p hp => ?_⟩
    have hcell := h'.cells (g := g) (by rw [hv]; rfl)
    have hadd : ∀ j, (⟨g, 0, none⟩ : Addr).add j = ⟨g, j, none⟩ := fun j => by unfold Addr.add; split <;> simp_all
    obtain ⟨e0, e1⟩ := flat2_at ds i p hp
    exact ⟨by rw [← hadd]; exact hcell _ _ e0, by rw [← hadd]; exact hcell _ _ e1⟩
theorem flat2_app (ds : List (Int × Int)) (d n : Int) : flat2 (ds ++ [(d, n)]) = flat2 ds ++ [.int .i64 d, .int .i64 n] := by
  unfold flat2; rw [List.flatMap_append]; rfl

set_option maxRecDepth 100000 in
set_option maxHeartbeats 12800000 in
theorem part_dy (V : List UInt8) (r : RuleD) (N : Nat) (W : World) (hD : DayNms W) (hm : RuleMem W N r) (h0 : 1 ≤ N) (hl : V.length ≤ 1000000000) :
    Calls Tryz.prog 58 #[.pointer (some ⟨N, 0, none⟩), .string (mkS (keyNm 11)), .string (mkS V)] W (PartPost N W (partS 11 V r)) := by
  have tl : (mkS (keyNm 11)).toList = [66, 89, 68, 65, 89] := toList_mkS _
  have HM := Lib.hid hm
  obtain ⟨v8, v9, v10, v11, v12, v13, v14, v15, v16, v17, hA⟩ := hm
  obtain ⟨cells, hcells⟩ : ∃ cells : Value → List Value, cells = fun x => ruleCells r v8 v9 v10 v11 v12 x v14 v15 v16 v17 := ⟨_, rfl⟩
  have HCS : Hid (∀ u u', (cells u).set 13 u' = cells u') := Lib.hid (fun u u' => by rw [hcells]; rfl)
  have HC : Hid (∀ u, (cells u)[13]? = some u) := Lib.hid (fun u => by rw [hcells]; rfl)
  have hrow : RowAt W N 26 (cells v13) := by rw [hcells]; exact hA.row
  have HASM : Hid (∀ (w : World) (x : Value) (xs : List (Int × Int)), But N W w → RowAt w N 26 (cells x) → DaysN w N x xs → RuleMem w N { r with dy := xs }) := Lib.hid (fun w x xs hb hr hx => by
    rw [hcells] at hr
    have ki : ∀ {v : Value} {zs : List Int}, IntsN W N v zs → IntsN w N v zs := fun h => by
      rcases h with h | ⟨g, c, h1, h2, h3, h4⟩
      · exact .inl h
      · exact .inr ⟨g, c, h1, h2, h3, Nat.lt_of_lt_of_le h4.lt hb.size, fun i z hz => hb.cell h3 (h4.cell i z hz)⟩
    exact ⟨v8, v9, v10, v11, v12, x, v14, v15, v16, v17, hr, ki hA.l8, ki hA.l9, ki hA.l10, ki hA.l11, ki hA.l12, hx, ki hA.l14, ki hA.l15, ki hA.l16, ki hA.l17⟩)
  have hlt := hrow.lt
  have hcx := hrow.cell 13 (HC.out v13)
  have hfx := hrow.frozen 13
  have hset := hrow.set 13 (.slice none 0 0)
  rw [HCS.out] at hset
  have hDs : Hid (DayNms (W.setCell ⟨N, 13, none⟩ (.slice none 0 0))) := Lib.hid ⟨fun i hi => by rw [World.cell?_of_block (w := W) (Below.heap_setCell W _ _ 0 (by show (0 : Nat) ≠ N; omega))]; exact hD.dn i hi⟩
  have hbs : Hid (But N W (W.setCell ⟨N, 13, none⟩ (.slice none 0 0))) := Lib.hid ((But.refl _ _).set 13 _)
  have hls : N < (W.setCell ⟨N, 13, none⟩ (.slice none 0 0)).heap.size := by simpa [World.setCell] using hlt
  have HR0 : Hid (partS 11 V r = ofO ((daysL (splitL 44 V)).map fun x => { r with dy := x })) := Lib.hid rfl
  have hnp := splitL_len 44 V
  have hpl : ∀ q ∈ splitL 44 V, q.length ≤ 1000000000 := fun q hq => Nat.le_trans (split_len hq) hl
  have H54 := Lib.hid (fun w => splitS_any V 44 w hl)
  have HSET := Lib.hid hset
  have HTT := Lib.hid told_t
  clear hA hrow hD hset hcells
  generalize splitL 44 V = ps at *
  have HPL := Lib.hid hpl
  have hnl : ps.length ≤ 1000000001 := by omega
  clear hpl hnp
  generalize hNP : ps.length = np at *
  have HNP := Lib.hid hNP
  clear hNP
  go_enter Tryz.func58, Tryz.ntmps58
  go_wp2_with (first
    | (go_at_call 54; go_must (refine (H54.out _).mono ?_; rintro e w1 ⟨g2, c2, rfl, hg2, hrow2, hb1⟩; rw [List.length_map, HNP.out]))
    | (fail))
  have hN1 : N < w1.heap.size := Nat.lt_of_lt_of_le hls hb1.size
  have hrow1 : RowAt w1 N 26 (cells (.slice none 0 0)) := ⟨(hb1.block N hls).trans HSET.out.blk⟩
  have hbut1 : Hid (But N W w1) := Lib.hid (hbs.out.trans (.of hb1))
  have hg2N : g2 ≠ N := by omega
  have HROW2 := Lib.hid hrow2
  have HD1 := Lib.hid (hDs.out.below hb1)
  have hown1 : w1.ownsRow w1.heap.size 59 2 (.slice none 0 0) 0 [] := World.ownsRow_nil _ _ _ _
  clear hrow2 hb1 hg2 hcx hfx hls hbs hDs
  go_loopw [125] (fun i wr => ∃ (k : Nat) (ds : List (Int × Int)) (x13 : Value), k ≤ np ∧ i = .int .i64 k ∧ Hid (ds.length = k) ∧ Hid (daysL (ps.take k) = some ds) ∧ Hid (RowAt wr N 26 (cells x13)) ∧ Hid (wr.ownsRow w1.heap.size 59 2 x13 ds.length (flat2 ds)) ∧ Hid (But N w1 wr)) (fun i _ => np - (intOf i).toNat)
  case atStart => exact ⟨0, [], _, by omega, rfl, Lib.hid rfl, Lib.hid rfl, Lib.hid hrow1, Lib.hid hown1, Lib.hid (But.refl _ _)⟩
  case round =>
    obtain ⟨k, ds, x13, hk, rfl, HDL, HDS, HRW, HOW, HB⟩ := hrel
    by_cases hkl : k < np
    · have hkl' : k < ps.length := by rw [HNP.out]; exact hkl
      have hcp := HB.out.cell hg2N (HROW2.out.cell k (mkS ps[k]) (by simp [hkl']))
      have hqx := HPL.out ps[k] (List.getElem_mem hkl')
      have k0 : (0 : Int) ≤ (k : Int) := Int.natCast_nonneg _
      have k1 : (k : Int) < (np : Int) := by omega
      have HDr : Hid (DayNms wr) := Lib.hid ⟨fun i hi => HB.out.cell (by omega) (HD1.out.dn i hi)⟩
      cases hq : dayT ps[k] with
      | none =>
        have HR : Hid (partS 11 V r = .wrong) := Lib.hid (by rw [HR0.out, daysL_bad hkl' hq]; rfl)
        have H90 := Lib.hid (dayS_none ps[k] wr HDr.out hqx hq)
        clear hq hqx
        generalize ps[k] = px at hcp H90
        go_wp2_with (first
          | (go_at_call 90; go_must (refine H90.out.mono ?_; rintro e w2 ⟨d, n, rfl, hb2⟩))
          | (fail))
        go_ret
        have hal : Below w2.heap.size w2 (w2.alloc (.cells #[.int .i64 d, .int .i64 n] 59)) := (Below.refl _ _).alloc (Nat.le_refl _) _
        exact part_wrong HR.out rfl (hbut1.out.trans (HB.out.trans ((But.of hb2).trans (.of hal)))) (((HRW.out.below hb2).below hal).lt)
      | some q =>
        obtain ⟨d, n⟩ := q
        have HDS2 := Lib.hid (daysL_take HDS.out hkl' hq)
        have H90 := Lib.hid (dayS_some ps[k] wr HDr.out hqx d n hq)
        clear hq hqx
        generalize ps[k] = px at hcp H90
        go_upto_region 35 with (first
          | (go_at_call 90; go_must (refine H90.out.mono ?_; rintro e w2 ⟨rfl, hb2⟩))
          | (fail))
        have hal : Below w2.heap.size w2 (w2.alloc (.cells #[.int .i64 d, .int .i64 n] 59)) := (Below.refl _ _).alloc (Nat.le_refl _) _
        have HRW3 := Lib.hid ((HRW.out.below hb2).below hal)
        have HOW3 : Hid ((w2.alloc (.cells #[.int .i64 d, .int .i64 n] 59)).ownsRow w1.heap.size 59 2 x13 ds.length (flat2 ds)) := Lib.hid ((World.ownsRow.kept (row := none) HOW.out ⟨hb2.os, hb2.tape, hb2.output, hb2.size, fun i hi _ => hb2.block i hi⟩ (by by_cases hh : x13.ownBlock = none; exact .inl hh; exact .inr hh)).alloc _)
        have HB3 : Hid (But N w1 (w2.alloc (.cells #[.int .i64 d, .int .i64 n] 59))) := Lib.hid (HB.out.trans ((But.of hb2).trans (.of hal)))
        have HDC : Hid ((w2.alloc (.cells #[.int .i64 d, .int .i64 n] 59)).heap[w2.heap.size]? = some (.cells #[.int .i64 d, .int .i64 n] 59 (0, 0))) := Lib.hid (heap_alloc_new w2 _)
        have HNL : Hid (ds.length ≤ 1000000001) := Lib.hid (by rw [HDL.out]; omega)
        have HC13 := Lib.hid (HC.out x13)
        clear hb2 hal
        generalize w2.alloc (.cells #[.int .i64 d, .int .i64 n] 59) = W3 at *
        generalize w2.heap.size = D at *
        have hKD : KD w1 N D cells x13 ds.length (flat2 ds) (.int .i64 d) (.int .i64 n) 4 5 6 7 10 (0, .slice none 0 0) (Array.replicate 11 false) W3.drew :=
          ⟨hN1, HB3.out.trans (.of (Below.refl _ _).drew), fun e => absurd e (no_listed _ _), fun e => absurd e (no_listed _ _), fun e => absurd e (no_listed _ _), fun e => absurd e (no_listed _ _), fun _ => ⟨HRW3.out.blk⟩, fun e => absurd e (no_listed _ _), fun _ => HOW3.out, fun e => absurd e (no_listed _ _), fun _ => HDC.out, fun e => absurd e (no_listed _ _)⟩
        have HKD := Lib.hid hKD
        clear hKD
        refine wp_region_table (β := Nat × Value) (fun b => #[.pointer (some ⟨N, 0, none⟩), .string (mkS (keyNm 11)), .string (mkS V), undef, undef, undef, u6, .func (.func 88) #[] #[], .bool false, undef, undef, undef, undef, undef, undef, undef, .string (mkS px), .pointer (some ⟨D, 0, none⟩), .bool true, undef, undef, undef, .string (mkS (keyNm 11)), .bool false, .bool false, undef, undef, undef, undef, undef, undef, undef, undef, undef, undef, undef, .bool false, .bool false, undef, undef, undef, undef, undef, undef, undef, undef, undef, undef, undef, undef, undef, undef, undef, .bool false, .bool false, undef, undef, undef, undef, undef, undef, undef, undef, undef, undef, undef, undef, undef, undef, undef, .bool false, .bool false, undef, undef, undef, undef, undef, undef, undef, undef, undef, undef, undef, .bool false, .bool false, undef, undef, undef, undef, undef, undef, undef, undef, undef, undef, undef, .bool false, .bool false, undef, undef, undef, undef, undef, undef, undef, undef, undef, undef, undef, undef, undef, undef, undef, undef, undef, undef, undef, .bool true, .bool true, .pointer (some ⟨N, 0, none⟩), .pointer (some ⟨N, 0, none⟩), .pointer (some ⟨N, 13, none⟩), .string (mkS V), .slice (some ⟨g2, 0, none⟩) np c2, .int .i64 np, .int .i64 k, .bool true, .pointer (some ⟨g2, k, none⟩), .string (mkS px), .tuple #[.agg #[.int .i64 d, .int .i64 n], .bool true], .string (mkS px), .tuple #[.agg #[.int .i64 d, .int .i64 n], .bool true], .agg #[.int .i64 d, .int .i64 n], .bool true, .bool true, .bool false, .pointer (some ⟨N, 0, none⟩), .pointer (some ⟨N, 0, none⟩), .pointer (some ⟨N, 0, none⟩), .pointer (some ⟨N, 13, none⟩), x13, .agg #[.int .i64 d, .int .i64 n], .slice (some ⟨b.1, 0, none⟩) 1 1, b.2, .pointer (some ⟨N, 0, none⟩), .pointer (some ⟨N, 13, none⟩), u146, undef, undef, undef, undef, undef, undef, undef, undef, undef, undef, undef, undef, undef, undef, undef, undef, undef, undef, undef, undef, undef, undef, undef, undef, undef, undef, undef, undef, undef, undef, undef, undef, undef, undef, undef, undef, undef, undef, undef, undef, undef, undef, undef, undef, undef, undef, undef, undef, undef]) (KD w1 N D cells x13 ds.length (flat2 ds) (.int .i64 d) (.int .i64 n) 4 5 6 7 10) 196 (fun _ => rfl) rfl (by kernel_rfl) (0, .slice none 0 0) rfl [136, 137, 138, 139, 140, 141, 142, 143, 144, 145] (by kernel_rfl) (by kernel_rfl) (HKD.out) ?hs ?hdone
        case hs =>
          refine ⟨StepF.of (fun b listed w1 hB hf hdep K' Q' hK' => ?_), ?_⟩
          · clear hf hdep
            go_simp
            refine hK'.out _ _ ⟨rfl, b, fun _ _ => rfl, fun d e => (by cases e; rfl), hB.other (by decide) (by decide) (by decide)⟩
          refine ⟨StepF.of (fun b listed w1 hB hf hdep K' Q' hK' => ?_), ?_⟩
          · clear hf hdep
            go_simp
            refine hK'.out _ _ ⟨rfl, b, fun _ _ => rfl, fun d e => (by cases e; rfl), hB.other (by decide) (by decide) (by decide)⟩
          refine ⟨StepF.of (fun b listed w1 hB hf hdep K' Q' hK' => ?_), ?_⟩
          · clear hf hdep
            go_simp
            refine hK'.out _ _ ⟨rfl, b, fun _ _ => rfl, fun d e => (by cases e; rfl), hB.other (by decide) (by decide) (by decide)⟩
          refine ⟨StepF.of (fun b listed w1 hB hf hdep K' Q' hK' => ?_), ?_⟩
          · clear hf hdep
            go_simp
            refine hK'.out _ _ ⟨rfl, b, fun _ _ => rfl, fun d e => (by cases e; rfl), hB.other (by decide) (by decide) (by decide)⟩
          refine ⟨StepF.of (fun b listed w1 hB hf hdep K' Q' hK' => ?_), ?_⟩
          · have hcx := (hB.row0 (hB.notS hf)).cell 13 HC13.out
            clear hf hdep
            go_simp
            refine hK'.out _ _ ⟨rfl, b, fun _ _ => rfl, fun d e => (by cases e; rfl), hB.other (by decide) (by decide) (by decide)⟩
          refine ⟨StepF.of (fun b listed w1 hB hf hdep K' Q' hK' => ?_), ?_⟩
          · have hd0 := hB.dc (hB.notA hf)
            have hdx : w1.cell? ⟨D, 0, none⟩ = some (.int .i64 d) := by simp [World.cell?, hd0]
            have hdy : w1.cell? ⟨D, 1, none⟩ = some (.int .i64 n) := by simp [World.cell?, hd0]
            have hdz : w1.cell? ⟨D, 0 + 1, none⟩ = some (.int .i64 n) := hdy
            clear hf hdep hd0
            go_simp
            refine hK'.out _ _ ⟨rfl, b, fun _ _ => rfl, fun d e => (by cases e; rfl), hB.other (by decide) (by decide) (by decide)⟩
          refine ⟨StepF.of (fun b listed w1 hB hf hdep K' Q' hK' => ?_), ?_⟩
          · have hl5 := hdep ⟨5, .data⟩ (by simp) rfl
            have hm := hB.made hl5 (hB.notA2 hf) (by decide) (by decide)
            clear hf hdep
            go_simp
            refine hK'.out _ _ ⟨rfl, (w1.heap.size, b.2), fun k e => gd_upd (d := 142) (v := .slice (some ⟨w1.heap.size, 0, none⟩) 1 1) rfl e, fun d e => (by cases e; rfl), hm⟩
          refine ⟨StepF.of (fun b listed w1 hB hf hdep K' Q' hK' => ?_), ?_⟩
          · have hl := hdep ⟨4, .data⟩ (by simp) rfl
            have hbl := hdep ⟨6, .data⟩ (by simp) rfl
            refine step_day (.tmp 140) (.tmp 142) hB hf hbl HNL.out rfl rfl rfl (fun v1 w2 h1 h2 => ?_)
            exact hK'.out _ _ ⟨rfl, (b.1, v1), fun k e => gd_upd (d := 143) (v := v1) rfl e, fun d e => (by cases e; rfl), hB.appended hl hbl hf (by decide) (by decide) (by decide) (by decide) h1 h2⟩
          refine ⟨StepF.of (fun b listed w1 hB hf hdep K' Q' hK' => ?_), ?_⟩
          · clear hf hdep
            go_simp
            refine hK'.out _ _ ⟨rfl, b, fun _ _ => rfl, fun d e => (by cases e; rfl), hB.other (by decide) (by decide) (by decide)⟩
          refine ⟨StepF.of (fun b listed w1 hB hf hdep K' Q' hK' => ?_), ?_⟩
          · clear hf hdep
            go_simp
            refine hK'.out _ _ ⟨rfl, b, fun _ _ => rfl, fun d e => (by cases e; rfl), hB.other (by decide) (by decide) (by decide)⟩
          refine ⟨StepF.of (fun b listed w1 hB hf hdep K' Q' hK' => ?_), ?_⟩
          · have hA := hdep ⟨7, .data⟩ (by simp) rfl
            obtain ⟨b1, b2⟩ := b
            obtain ⟨g, cc, hbv⟩ := hB.form hA
            have hbv : b2 = _ := hbv
            subst hbv
            have hr0 := hB.row0 (by rw [hf]; simp)
            have hcx := hr0.cell 13 HC13.out
            have hfx := hr0.frozen 13
            have hst := hB.stored hA hf (by decide) (by decide) HCS.out
            clear hdep
            go_simp
            refine hK'.out _ _ ⟨rfl, (b1, .slice (some ⟨g, 0, none⟩) (ds.length + 1) cc), fun _ _ => rfl, fun d e => (by cases e), hst⟩
          trivial
        case hdone =>
          intro b listed w4 hK hall
          have h10 := hall 10 (by decide)
          have f1 := hK.row1 h10
          have f2 := hK.own1 (hK.sA h10)
          have f3 := hK.but
          have F := Lib.hid (And.intro f1 (And.intro f2 f3))
          clear hK hall h10 f1 f2 f3
          go_wp2
          go_roundw
          case rel => exact ⟨_, _, _, _, _, _, _, _, _, _, _, _, _, _, _, _, _, _, _, _, _, _, _, _, _, _, ⟨k + 1, ds ++ [(d, n)], b.2, by omega, by go_num, Lib.hid (by rw [List.length_append, HDL.out]; rfl), HDS2, Lib.hid F.out.1, Lib.hid (by rw [List.length_append, flat2_app]; exact F.out.2.1), Lib.hid F.out.2.2⟩, rfl⟩
          case measure => simp [intOf]; omega
    · obtain rfl : k = np := by omega
      have HR : Hid (partS 11 V r = .right { r with dy := ds }) := Lib.hid (by
        have e : ps.take k = ps := List.take_of_length_le (by rw [HNP.out]; omega)
        have := HDS.out
        rw [e] at this
        rw [HR0.out, this]; rfl)
      go_wp2
      go_ret
      exact part_right HR.out rfl (hbut1.out.trans HB.out) (HASM.out _ _ ds (hbut1.out.trans HB.out) HRW.out (days_ownN HOW.out (by omega)))
/-- (*Rule).part. -/
theorem part_any (K V : List UInt8) (r : RuleD) (N : Nat) (W : World) (hD : DayNms W) (hF : Freqs W) (hm : RuleMem W N r) (h0 : 1 ≤ N) (hl : V.length ≤ 1000000000) :
    Calls Tryz.prog 58 #[.pointer (some ⟨N, 0, none⟩), .string (mkS K), .string (mkS V)] W (PartPost N W (partS (keyI K) V r)) := by
  rcases keyI_cases K with ⟨j, hj, rfl, hk⟩ | ⟨hno, hk⟩
  · rw [hk]
    rcases (show j = 0 ∨ j = 1 ∨ j = 2 ∨ j = 3 ∨ j = 4 ∨ j = 5 ∨ j = 6 ∨ j = 7 ∨ j = 8 ∨ j = 9 ∨ j = 10 ∨ j = 11 ∨ j = 12 ∨ j = 13 ∨ j = 14 ∨ j = 15 by omega) with rfl | rfl | rfl | rfl | rfl | rfl | rfl | rfl | rfl | rfl | rfl | rfl | rfl | rfl | rfl | rfl
    · exact part_fq V r N W hF hm hl
    · exact part_st V r N W hm hl
    · exact part_iv V r N W hm hl
    · exact part_wk V r N W hD hm hl
    · exact part_ct V r N W hm hl
    · exact part_un V r N W hm hl
    · exact part_ints 0 (by omega) V r N W hm hl
    · exact part_ints 1 (by omega) V r N W hm hl
    · exact part_ints 2 (by omega) V r N W hm hl
    · exact part_ints 3 (by omega) V r N W hm hl
    · exact part_ints 4 (by omega) V r N W hm hl
    · exact part_dy V r N W hD hm h0 hl
    · exact part_ints 5 (by omega) V r N W hm hl
    · exact part_ints 6 (by omega) V r N W hm hl
    · exact part_ints 7 (by omega) V r N W hm hl
    · exact part_ints 8 (by omega) V r N W hm hl
  · rw [hk]
    exact part_none K V r N W hm hno
end Go.Proofs.YtcfbkkcamiephaaGreatDoor
