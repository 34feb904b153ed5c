import Derived.Test.YtcfbkkcamiephaaGreatDoorY1
import Derived.Test.YtcfbkkcamiephaaGreatDoorS1
import Derived.Test.YtcfbkkcamiephaaGreatDoorR1
namespace Go.Proofs.YtcfbkkcamiephaaGreatDoor
open Go.RowKit

/-! ### parts: pairs of texts that lie in memory -/
abbrev Part := List UInt8 × List UInt8
def encP (p : Part) : List Value := [strV p.1, strV p.2]
def flatP (P : List Part) : List Value := P.flatMap encP
theorem flatP_snoc (P : List Part) (p : Part) : flatP (P ++ [p]) = flatP P ++ encP p := by simp [flatP]
/-- all rows but the parts' own and the block L are kept -/
def KeptR (L : Nat) (a w : World) : Prop := ∀ (b : Nat) (c : Array Value) (t : TypeId), t ≠ 46 → b ≠ L → a.heap[b]? = some (.cells c t (0, 0)) → w.heap[b]? = some (.cells c t (0, 0))
theorem KeptR.refl (L : Nat) (w : World) : KeptR L w w := fun _ _ _ _ _ h => h
theorem KeptR.trans {L : Nat} {a b c : World} (h : KeptR L a b) (k : KeptR L b c) : KeptR L a c := fun x y t h1 h2 h3 => k x y t h1 h2 (h x y t h1 h2 h3)
theorem KeptR.of {L : Nat} {a w : World} (h : Below a.heap.size a w) : KeptR L a w := fun x _ _ _ _ h3 => (h.block x (lt_of_block h3)).trans h3
theorem KeptR.row {L : Nat} {a w : World} (h : KeptR L a w) {B : Nat} {t : TypeId} {xs : List Value} (hr : RowAt a B t xs) (ht : t ≠ 46) (hB : B ≠ L) : RowAt w B t xs := ⟨h B _ t ht hB hr.blk⟩
theorem own_ne {W : World} {base n : Nat} {v : Value} {xs : List Value} (h : W.ownsRow base 46 2 v n xs) {L : Nat} {c : Array Value} {t : TypeId} (hl : W.heap[L]? = some (.cells c t (0, 0))) (ht : t ≠ 46) : v.ownBlock ≠ some L := by
  rcases h.2 with ⟨rfl, _⟩ | ⟨g, cap, cur, rfl, _, hh, _⟩
  · simp [Value.ownBlock]
  · intro e
    have e : g = L := by simpa [Value.ownBlock] using e
    subst e
    rw [hh] at hl
    injection hl with hl
    injection hl with _ hl
    exact ht hl.symm
structure PSt (w : World) (L : Nat) (v : Value) (P : List Part) (W : World) : Prop where
  ge : w.heap.size ≤ L
  cell : W.heap[L]? = some (.cells #[v] 43 (0, 0))
  own : W.ownsRow w.heap.size 46 2 v P.length (flatP P)
  hb : Below w.heap.size w W
/-- the list of parts, whose slice stands in the block L -/
def PS (w : World) (L : Nat) (P : List Part) (W : World) : Prop := ∃ v, PSt w L v P W
theorem PSt.call {w W w1 : World} {L : Nat} {v : Value} {P : List Part} (h : PSt w L v P W) (hb : Below W.heap.size W w1) : PSt w L v P w1 :=
  ⟨h.ge, (hb.block L (lt_of_block h.cell)).trans h.cell, World.ownsRow.kept (row := none) h.own ⟨hb.os, hb.tape, hb.output, hb.size, fun i hi _ => hb.block i hi⟩ (by by_cases hh : v.ownBlock = none; exact .inl hh; exact .inr hh), h.hb.trans (hb.mono h.hb.size)⟩
/-- what a region that appends a part holds of the world -/
structure KR (w W0 : World) (L : Nat) (v : Value) (P : List Part) (p : Part) (iL iB iA iS : Nat) (b : Nat × Value) (listed : Array Bool) (W : World) : Prop where
  ge : w.heap.size ≤ L
  hb : Below w.heap.size w W
  kept : KeptR L W0 W
  sA : listed[iS]? = some true → listed[iA]? = some true
  aL : listed[iA]? = some true → listed[iL]? = some true
  aB : listed[iA]? = some true → listed[iB]? = some true
  cell0 : listed[iS]? ≠ some true → W.heap[L]? = some (.cells #[v] 43 (0, 0))
  cell1 : listed[iS]? = some true → W.heap[L]? = some (.cells #[b.2] 43 (0, 0))
  own0 : listed[iA]? ≠ some true → W.ownsRow w.heap.size 46 2 v P.length (flatP P)
  own1 : listed[iA]? = some true → W.ownsRow w.heap.size 46 2 b.2 (P.length + 1) (flatP P ++ encP p)
  lit : listed[iB]? = some true → listed[iA]? ≠ some true → W.heap[b.1]? = some (.cells #[strV p.1, strV p.2] 46 (0, 0))
theorem ne_get {listed : Array Bool} {i j : Nat} (h : i ≠ j) : (listed.setIfInBounds i true)[j]? = listed[j]? := Array.getElem?_setIfInBounds_ne h
theorem set_true {listed : Array Bool} {i j : Nat} (h : listed[j]? = some true) : (listed.setIfInBounds i true)[j]? = some true := by
  by_cases e : i = j
  · subst e
    have := (Array.getElem?_eq_some_iff.1 h).1
    simp [this]
  · rw [Array.getElem?_setIfInBounds_ne e]; exact h
theorem set_self2 {listed : Array Bool} {i : Nat} {x : Bool} (h : listed[i]? = some x) : (listed.setIfInBounds i true)[i]? = some true := by
  have := (Array.getElem?_eq_some_iff.1 h).1
  simp [this]
theorem getD_upd2 {s t : Array Value} {d k : Nat} {v : Value} (h : s = t.setIfInBounds d v) (e : some d ≠ some k) : s.getD k undef = t.getD k undef := by
  rw [h, Array.getD_eq_getD_getElem?, Array.getD_eq_getD_getElem?, Array.getElem?_setIfInBounds_ne (fun h => e (by rw [h]))]
section
variable {w W0 W w1 : World} {L : Nat} {v : Value} {P : List Part} {p : Part} {iL iB iA iS : Nat} {b : Nat × Value} {listed : Array Bool}
theorem KR.other (h : KR w W0 L v P p iL iB iA iS b listed W) {i : Nat} (hB : i ≠ iB) (hA : i ≠ iA) (hS : i ≠ iS) : KR w W0 L v P p iL iB iA iS b (listed.setIfInBounds i true) W := by
  have eB := ne_get (listed := listed) hB
  have eA := ne_get (listed := listed) hA
  have eS := ne_get (listed := listed) hS
  exact ⟨h.ge, h.hb, h.kept, by rw [eS, eA]; exact h.sA, by rw [eA]; exact fun e => set_true (h.aL e), by rw [eA, eB]; exact h.aB, by rw [eS]; exact h.cell0, by rw [eS]; exact h.cell1, by rw [eA]; exact h.own0, by rw [eA]; exact h.own1, by rw [eB, eA]; exact h.lit⟩
theorem own_call {base n : Nat} {x : Value} {xs : List Value} (h : W.ownsRow base 46 2 x n xs) (hb : Below W.heap.size W w1) : w1.ownsRow base 46 2 x n xs :=
  World.ownsRow.kept (row := none) h ⟨hb.os, hb.tape, hb.output, hb.size, fun i hi _ => hb.block i hi⟩ (by by_cases hh : x.ownBlock = none; exact .inl hh; exact .inr hh)
theorem KR.call (h : KR w W0 L v P p iL iB iA iS b listed W) (hb : Below W.heap.size W w1) : KR w W0 L v P p iL iB iA iS b listed w1 :=
  ⟨h.ge, h.hb.trans (hb.mono h.hb.size), h.kept.trans (.of hb), h.sA, h.aL, h.aB, fun e => (hb.block L (lt_of_block (h.cell0 e))).trans (h.cell0 e), fun e => (hb.block L (lt_of_block (h.cell1 e))).trans (h.cell1 e),
    fun e => own_call (h.own0 e) hb, fun e => own_call (h.own1 e) hb, fun e f => (hb.block _ (lt_of_block (h.lit e f))).trans (h.lit e f)⟩
theorem KR.made (h : KR w W0 L v P p iL iB iA iS b listed W) (_hf : listed[iB]? = some false) (hA : iB ≠ iA) (hS : iB ≠ iS) :
    KR w W0 L v P p iL iB iA iS (W.heap.size, b.2) (listed.setIfInBounds iB true) (W.alloc (.cells #[strV p.1, strV p.2] 46)) := by
  have k := h.call (w1 := W.alloc (.cells #[strV p.1, strV p.2] 46)) ((Below.refl _ _).alloc (Nat.le_refl _) _)
  have eA := ne_get (listed := listed) hA
  have eS := ne_get (listed := listed) hS
  exact ⟨k.ge, k.hb, k.kept, by rw [eS, eA]; exact k.sA, by rw [eA]; exact fun e => set_true (k.aL e), by rw [eA]; exact fun e => set_true (k.aB e), by rw [eS]; exact k.cell0, by rw [eS]; exact k.cell1, by rw [eA]; exact k.own0, by rw [eA]; exact k.own1, fun _ _ => heap_alloc_new W _⟩
theorem KR.appended (h : KR w W0 L v P p iL iB iA iS b listed W) (hL : listed[iL]? = some true) (hB : listed[iB]? = some true) (hf : listed[iA]? = some false) (hLA : iA ≠ iL) (hBA : iA ≠ iB) (hSA : iA ≠ iS) {v1 : Value}
    (hown : w1.ownsRow w.heap.size 46 2 v1 (P.length + 1) (flatP P ++ encP p)) (hg : W.grownBy w1 v.ownBlock) : KR w W0 L v P p iL iB iA iS (b.1, v1) (listed.setIfInBounds iA true) w1 := by
  have hA : listed[iA]? ≠ some true := by rw [hf]; simp
  have hS : listed[iS]? ≠ some true := fun e => hA (h.sA e)
  have eL := ne_get (listed := listed) hLA
  have eB := ne_get (listed := listed) hBA
  have eS := ne_get (listed := listed) hSA
  have o0 := h.own0 hA
  have hc := h.cell0 hS
  refine ⟨h.ge, h.hb.grown hg h.hb.size (fun k hk => (o0.lt k hk).1), fun x y t h1 h2 h3 => ?_, ?_, ?_, ?_, fun _ => ?_, ?_, ?_, fun _ => hown, ?_⟩
  · have := h.kept x y t h1 h2 h3
    exact (hg.block x (lt_of_block this) (fun e => own_ne o0 this h1 e.symm)).trans this
  · rw [eS]; exact fun e => absurd e hS
  · rw [eL]; exact fun _ => hL
  · rw [eB]; exact fun _ => hB
  · exact (hg.block L (lt_of_block hc) (fun e => own_ne o0 hc (by decide) e.symm)).trans hc
  · rw [eS]; exact fun e => absurd e hS
  · rw [set_self2 hf]; exact fun e => absurd rfl e
  · rw [set_self2 hf]; exact fun _ e => absurd rfl e
theorem KR.stored (h : KR w W0 L v P p iL iB iA iS b listed W) (hA : listed[iA]? = some true) (hf : listed[iS]? = some false) (hSA : iS ≠ iA) : KR w W0 L v P p iL iB iA iS b (listed.setIfInBounds iS true) (W.setCell ⟨L, 0, none⟩ b.2) := by
  have eA := ne_get (listed := listed) hSA
  have hS : listed[iS]? ≠ some true := by rw [hf]; simp
  have hc := h.cell0 hS
  have o1 := h.own1 hA
  refine ⟨h.ge, h.hb.setCell h.ge _, fun x y t h1 h2 h3 => (Below.heap_setCell W _ _ x h2).trans (h.kept x y t h1 h2 h3), ?_, ?_, ?_, ?_, fun _ => one_setCell hc, ?_, fun _ => ownsRow_setCell_other o1 (own_ne o1 hc (by decide)) _, ?_⟩
  · rw [eA]; exact fun _ => hA
  · rw [eA]; exact fun e => set_true (h.aL e)
  · rw [eA]; exact fun e => set_true (h.aB e)
  · rw [set_self2 hf]; exact fun e => absurd rfl e
  · rw [eA]; exact fun e => absurd hA e
  · rw [eA]; exact fun _ e => absurd hA e
theorem KR.start (h : PSt w L v P W) (hk : KeptR L W0 W) (hn : ∀ i : Nat, listed[i]? ≠ some true) : KR w W0 L v P p iL iB iA iS b listed W :=
  ⟨h.ge, h.hb, hk, fun e => absurd e (hn _), fun e => absurd e (hn _), fun e => absurd e (hn _), fun _ => h.cell, fun e => absurd e (hn _), fun _ => h.own, fun e => absurd e (hn _), fun e => absurd e (hn _)⟩
theorem KR.done (h : KR w W0 L v P p iL iB iA iS b listed W) (hS : listed[iS]? = some true) : PSt w L b.2 (P ++ [p]) W ∧ KeptR L W0 W :=
  ⟨⟨h.ge, h.cell1 hS, by rw [flatP_snoc, List.length_append]; exact h.own1 (h.sA hS), h.hb⟩, h.kept⟩
theorem KR.form (h : KR w W0 L v P p iL iB iA iS b listed W) (hA : listed[iA]? = some true) : ∃ g c, b.2 = .slice (some ⟨g, 0, none⟩) (P.length + 1) c := by
  rcases (h.own1 hA).2 with ⟨_, h⟩ | ⟨g, cap, cur, h, _⟩
  · omega
  · exact ⟨_, _, h⟩
theorem KR.notS (h : KR w W0 L v P p iL iB iA iS b listed W) (hf : listed[iL]? = some false) : listed[iS]? ≠ some true := fun e => by
  have := h.aL (h.sA e); rw [hf] at this; cases this
theorem KR.notA (h : KR w W0 L v P p iL iB iA iS b listed W) (hf : listed[iA]? = some false) : listed[iS]? ≠ some true := fun e => by
  have := h.sA e; rw [hf] at this; cases this
end
theorem none_listed (n : Nat) : ∀ i : Nat, (Array.replicate n false)[i]? ≠ some true := fun i h => by
  have := (Array.getElem?_eq_some_iff.1 h)
  obtain ⟨h1, h2⟩ := this
  simp at h2
theorem drew_PSt {w W : World} {L : Nat} {v : Value} {P : List Part} (h : PSt w L v P W) : PSt w L v P W.drew := h.call (Below.refl _ _).drew
theorem Tryz.u43 : Tryz.prog.underlying 43 = some (.slice 46) := by kernel_rfl
theorem Tryz.info46 : (Tryz.prog.info? 46).map (fun i => (i.zero, i.size, i.bytes)) = some (some (.agg #[.string ByteArray.empty, .string ByteArray.empty]), 2, 32) := by kernel_rfl
/-- the append of a part -/
theorem step_part {w W0 w1 : World} {L : Nat} {v : Value} {P : List Part} {p : Part} {iL iB iA iS : Nat} {b : Nat × Value} {listed : Array Bool} {o : Oper} {a : Act} {K : Act → World → Prop} {Q : Exit → Act → World → Prop}
    (s z : Operand) (hB : KR w W0 L v P p iL iB iA iS b listed w1) (hf : listed[iA]? = some false) (hbl : listed[iB]? = some true) (hP : P.length ≤ 1000)
    (ho : o.op = .call { callee := .builtin .append, args := #[s, z], argTypes := #[43, 43] }) (hs : a.eval s = v) (hx : a.eval z = .slice (some ⟨b.1, 0, none⟩) 1 1)
    (h : ∀ v1 w2, w2.ownsRow w.heap.size 46 2 v1 (P.length + 1) (flatP P ++ encP p) → w1.grownBy w2 v.ownBlock → K (a.put o.dst v1) w2) : o.wp Tryz.prog a w1 K Q := by
  obtain ⟨i0, hi, hz0, hz1, hz2⟩ := info_parts Tryz.info46
  have hA : listed[iA]? ≠ some true := by rw [hf]; simp
  have hlit := hB.lit hbl hA
  refine wp_append_own w1 s z 43 ho w.heap.size 46 i0 _ 2 32 Tryz.u43 hi hz0 hz1 hz2 rfl (by omega) v P.length (flatP P) hs (hB.own0 hA) ⟨b.1, 0, none⟩ 1 1 (encP p) hx rfl (fun j u hu => ?_) (by simp [encP, strV, Value.oneCell']) (by simp only [maxLen]; omega) (by omega) hB.hb.size (fun v1 w2 h1 h2 _ => h v1 w2 h1 h2)
  have hadd : (⟨b.1, 0, none⟩ : Addr).add j = ⟨b.1, j, none⟩ := by unfold Addr.add; split <;> simp_all
  rw [hadd]
  simp only [World.cell?, hlit]
  simpa [encP] using hu

theorem part_list {w W w2 : World} {L : Nat} {v v1 : Value} {P : List Part} {p : Part} (h : PSt w L v P W) (hown : w2.ownsRow w.heap.size 46 2 v1 (P.length + 1) (flatP P ++ encP p))
    (hg : (W.alloc (.cells #[strV p.1, strV p.2] 46)).grownBy w2 v.ownBlock) : w2.heap[L]? = some (.cells #[v] 43 (0, 0)) ∧ (∃ g c, v1 = .slice (some ⟨g, 0, none⟩) (P.length + 1) c) ∧ PSt w L v1 (P ++ [p]) (w2.setCell ⟨L, 0, none⟩ v1) ∧ KeptR L W (w2.setCell ⟨L, 0, none⟩ v1) := by
  have K0 : KR w W L v P p 0 1 2 3 (0, v) #[false, false, false, false] W := KR.start h (.refl _ _) (none_listed 4)
  have K1 := K0.other (i := 0) (by decide) (by decide) (by decide)
  have K2 := K1.made rfl (by decide) (by decide)
  have K3 := K2.appended (v1 := v1) rfl rfl rfl (by decide) (by decide) (by decide) hown hg
  have K4 := K3.stored rfl rfl (by decide)
  have hd := K4.done rfl
  exact ⟨K3.cell0 (by decide), K3.form rfl, hd.1, hd.2⟩
/-- the append of a part in a region that keeps its order -/
theorem wpList_part {w W : World} {L : Nat} {v : Value} {P : List Part} (p : Part) {ops : Array Oper} {rest : List Oper} {o : Oper} {a : Act} {Q : Exit → Act → World → Prop}
    (s z : Operand) (hS : PSt w L v P W) (hP : P.length ≤ 1000) (hgd : o.guard = none)
    (ho : o.op = .call { callee := .builtin .append, args := #[s, z], argTypes := #[43, 43] }) (hs : a.eval s = v) (hx : a.eval z = .slice (some ⟨W.heap.size, 0, none⟩) 1 1)
    (h : ∀ g cc w2, w2.heap[L]? = some (.cells #[v] 43 (0, 0)) → PSt w L (.slice (some ⟨g, 0, none⟩) (P.length + 1) cc) (P ++ [p]) (w2.setCell ⟨L, 0, none⟩ (.slice (some ⟨g, 0, none⟩) (P.length + 1) cc)) → KeptR L W (w2.setCell ⟨L, 0, none⟩ (.slice (some ⟨g, 0, none⟩) (P.length + 1) cc)) → wpList Tryz.prog ops Q rest (a.put o.dst (.slice (some ⟨g, 0, none⟩) (P.length + 1) cc)) w2) :
    wpList Tryz.prog ops Q (o :: rest) a (W.alloc (.cells #[strV p.1, strV p.2] 46)) := by
  obtain ⟨i0, hi, hz0, hz1, hz2⟩ := info_parts Tryz.info46
  have hlit : (W.alloc (.cells #[strV p.1, strV p.2] 46)).heap[W.heap.size]? = some (.cells #[strV p.1, strV p.2] 46 (0, 0)) := heap_alloc_new W _
  refine wpList_append_own (W.alloc (.cells #[strV p.1, strV p.2] 46)) hgd s z 43 ho w.heap.size 46 i0 _ 2 32 Tryz.u43 hi hz0 hz1 hz2 rfl (by omega) v P.length (flatP P) hs (own_call hS.own ((Below.refl _ _).alloc (Nat.le_refl _) _)) ⟨W.heap.size, 0, none⟩ 1 1 (encP p) hx rfl (fun j u hu => ?_) (by simp [encP, strV, Value.oneCell']) (by simp only [maxLen]; omega) (by omega) (by have := hS.hb.size; simp; omega) (fun v1 w2 h1 h2 _ => ?_)
  · have hadd : (⟨W.heap.size, 0, none⟩ : Addr).add j = ⟨W.heap.size, j, none⟩ := by unfold Addr.add; split <;> simp_all
    rw [hadd]
    simp only [World.cell?, hlit]
    simpa [encP] using hu
  · obtain ⟨e1, ⟨g, cc, e2⟩, e3, e4⟩ := part_list hS h1 h2
    subst e2
    exact h g cc w2 e1 e3 e4
/-! ### the closure of RuleParts -/
def intsQ (key : List UInt8) (zs : List Int) : List Part := if zs = [] then [] else [(key, intsJ zs)]
set_option maxRecDepth 100000 in
set_option maxHeartbeats 3200000 in
theorem app64_none (w W : World) (L : Nat) (P : List Part) (key : List UInt8) (a : Option Addr) (c : Nat) (hS : PS w L P W) :
    Calls Tryz.prog 64 #[.string (mkS key), .slice a 0 c, .pointer (some ⟨L, 0, none⟩)] W fun e w' => e = .returned (.tuple #[]) ∧ PS w L P w' ∧ KeptR L W w' := by
  go_enter Tryz.func64, Tryz.ntmps64
  go_wp2
  exact ⟨rfl, .tuple #[], by simp [results, Tryz.results64, go_sem], rfl, hS, KeptR.refl _ _⟩
set_option maxRecDepth 100000 in
set_option maxHeartbeats 3200000 in
theorem app64_some (w W : World) (L : Nat) (v : Value) (P : List Part) (key : List UInt8) (zs : List Int) (a : Option Addr) (c : Nat) (hS : PSt w L v P W) (hv : IntsV w (.slice a zs.length c) zs) (hz : ∀ z ∈ zs, In64 z) (h0 : 0 < zs.length) (hl : zs.length ≤ 1000) (hP : P.length ≤ 1000) :
    Calls Tryz.prog 64 #[.string (mkS key), .slice a zs.length c, .pointer (some ⟨L, 0, none⟩)] W fun e w' => e = .returned (.tuple #[]) ∧ PS w L (P ++ [(key, intsJ zs)]) w' ∧ KeptR L W w' := by
  have H65 : Hid (∀ w1, Below w.heap.size w w1 → Calls Tryz.prog 65 #[.slice a zs.length c] w1 fun e w' => e = .returned (.string (mkS (intsJ zs))) ∧ Below w1.heap.size w1 w') := Lib.hid fun w1 hb => textInts_any zs _ w1 (hv.below hb) hz hl
  have HS := Lib.hid hS
  have d1 : decide ((0 : Int) < (zs.length : Int)) = true := by simp; omega
  have HP := Lib.hid hP
  clear hS hv hz hP
  go_enter Tryz.func64, Tryz.ntmps64
  go_upto_region 1 with fail
  refine wp_region_table (β := Nat × Value) (fun b => #[.string (mkS key), .slice a zs.length c, .pointer (some ⟨L, 0, none⟩), undef, undef, .slice a zs.length c, .int .i64 zs.length, .bool true, v, .string (mkS key), .slice a zs.length c, .string (mkS (intsJ zs)), .agg #[.string (mkS key), .string (mkS (intsJ zs))], .slice (some ⟨b.1, 0, none⟩) 1 1, b.2]) (KR w W L v P (key, intsJ zs) 0 5 6 7) 15 (fun _ => rfl) rfl (by kernel_rfl) (0, .slice none 0 0) rfl [8, 9, 10, 11, 12, 13, 14] (by kernel_rfl) (by kernel_rfl) (KR.start (drew_PSt HS.out) (.of (Below.refl _ _).drew) (none_listed _)) ?hs ?hdone
  case hs =>
    refine ⟨StepF.of (fun b listed w1 hB hf hdep K' Q' hK' => ?_), ?_⟩
    · have hcx := cell_of_one (hB.cell0 (hB.notS hf))
      clear hf hdep
      go_simp
      refine hK'.out _ _ ⟨rfl, b, fun _ _ => rfl, fun d e => (by cases e; rfl), hB.other (by decide) (by decide) (by decide)⟩
    refine ⟨StepF.of (fun b listed w1 hB hf hdep K' Q' hK' => ?_), ?_⟩
    · clear hf hdep
      go_simp
      refine hK'.out _ _ ⟨rfl, b, fun _ _ => rfl, fun d e => (by cases e; rfl), hB.other (by decide) (by decide) (by decide)⟩
    refine ⟨StepF.of (fun b listed w1 hB hf hdep K' Q' hK' => ?_), ?_⟩
    · clear hf hdep
      go_simp
      refine hK'.out _ _ ⟨rfl, b, fun _ _ => rfl, fun d e => (by cases e; rfl), hB.other (by decide) (by decide) (by decide)⟩
    refine ⟨StepF.of (fun b listed w1 hB hf hdep K' Q' hK' => ?_), ?_⟩
    · clear hf hdep
      go_simp
      go_at_call 65
      refine (H65.out _ hB.hb).mono ?_
      rintro e w2 ⟨rfl, hb2⟩
      try dsimp only
      refine hK'.out _ _ ⟨rfl, b, fun _ _ => rfl, fun d e => (by cases e; rfl), (hB.call hb2).other (by decide) (by decide) (by decide)⟩
    refine ⟨StepF.of (fun b listed w1 hB hf hdep K' Q' hK' => ?_), ?_⟩
    · clear hf hdep
      go_simp
      refine hK'.out _ _ ⟨rfl, b, fun _ _ => rfl, fun d e => (by cases e; rfl), hB.other (by decide) (by decide) (by decide)⟩
    refine ⟨StepF.of (fun b listed w1 hB hf hdep K' Q' hK' => ?_), ?_⟩
    · clear hdep
      go_simp
      refine hK'.out _ _ ⟨rfl, (w1.heap.size, b.2), fun k e => getD_upd2 (d := 13) (v := .slice (some ⟨w1.heap.size, 0, none⟩) 1 1) rfl e, fun d e => (by cases e; rfl), hB.made hf (by decide) (by decide)⟩
    refine ⟨StepF.of (fun b listed w1 hB hf hdep K' Q' hK' => ?_), ?_⟩
    · have hl := hdep ⟨0, .data⟩ (by simp) rfl
      have hbl := hdep ⟨5, .data⟩ (by simp) rfl
      refine step_part (.tmp 8) (.tmp 13) hB hf hbl HP.out rfl rfl rfl (fun v1 w2 h1 h2 => ?_)
      exact hK'.out _ _ ⟨rfl, (b.1, v1), fun k e => getD_upd2 (d := 14) (v := v1) rfl e, fun d e => (by cases e; rfl), hB.appended hl hbl hf (by decide) (by decide) (by decide) h1 h2⟩
    refine ⟨StepF.of (fun b listed w1 hB hf hdep K' Q' hK' => ?_), ?_⟩
    · have hA := hdep ⟨6, .data⟩ (by simp) rfl
      obtain ⟨b1, b2⟩ := b
      obtain ⟨g, cc, hbv⟩ := hB.form hA
      have hbv : b2 = _ := hbv
      subst hbv
      have hc0 := hB.cell0 (by rw [hf]; simp)
      have hcx := cell_of_one hc0
      have hfx := free_of_one hc0
      have hst := hB.stored hA hf (by decide)
      clear hdep
      go_simp
      refine hK'.out _ _ ⟨rfl, (b1, .slice (some ⟨g, 0, none⟩) (P.length + 1) cc), fun _ _ => rfl, fun d e => (by cases e), hst⟩
    trivial
  case hdone =>
    intro b listed w1 hK hall
    have hd := hK.done (hall 7 (by decide))
    clear hK hall
    go_wp2
    exact ⟨rfl, .tuple #[], by simp [results, Tryz.results64, go_sem], rfl, ⟨_, hd.1⟩, hd.2⟩
theorem app64_any (w W : World) (L : Nat) (P : List Part) (key : List UInt8) (zs : List Int) (vv : Value) (hS : PS w L P W) (hv : IntsV w vv zs) (hz : ∀ z ∈ zs, In64 z) (hl : zs.length ≤ 1000) (hP : P.length ≤ 1000) :
    Calls Tryz.prog 64 #[.string (mkS key), vv, .pointer (some ⟨L, 0, none⟩)] W fun e w' => e = .returned (.tuple #[]) ∧ PS w L (P ++ intsQ key zs) w' ∧ KeptR L W w' := by
  obtain ⟨v, hS⟩ := hS
  obtain ⟨a, c, rfl, _⟩ := hv.form2
  unfold intsQ
  by_cases h : zs = []
  · subst h
    rw [if_pos rfl, List.append_nil]
    exact app64_none w W L P key a c ⟨v, hS⟩
  · rw [if_neg h]
    exact app64_some w W L v P key zs a c hS hv hz (List.length_pos_iff.2 h) hl hP
end Go.Proofs.YtcfbkkcamiephaaGreatDoor
