import Derived.Test.YtcfbkkcamiephaaGreatDoorZ3
import Derived.Test.YtcfbkkcamiephaaGreatDoorZ7
import Derived.Test.YtcfbkkcamiephaaGreatDoorV1
namespace Go.Proofs.YtcfbkkcamiephaaGreatDoor
open Go.RowKit

/-! ### FnTextLast: the plain law -/
theorem keyNm_inj {i j : Nat} (hi : i < 16) (hj : j < 16) (h : keyNm i = keyNm j) : i = j := by
  have key : ∀ a b : Fin 16, keyNm a.1 = keyNm b.1 → a = b := by decide +kernel
  have := key ⟨i, hi⟩ ⟨j, hj⟩ h
  injection this
/-- the parts whose key is another one -/
def bareP (P : List Part) (p : Part) : List Part := P.filter fun x => x.1 != p.1
theorem bare_eq (o : Opt) (j : Nat) (hj : j < 16) (v : List UInt8) : bareP (pairsOf o) (keyNm j, v) = ((idxs o).filter fun i => i != j).map fun i => (keyNm i, valL o i) := by
  unfold bareP pairsOf
  rw [List.filter_map]
  congr 1
  refine List.filter_congr fun i hi => ?_
  show (keyNm i != keyNm j) = (i != j)
  by_cases h : i = j
  · subst h; simp
  · have hk : keyNm i ≠ keyNm j := fun e => h (keyNm_inj (pres_lt (idxs_pres o i hi)) hj e)
    rw [bne_iff_ne.2 hk, bne_iff_ne.2 h]
theorem joinP_snocT (o q : Opt) (L : List Nat) (j : Nat) : joinP (L.map (fun i => (keyNm i, valL o i)) ++ [(keyNm j, valL q j)]) = Lib.join (L.map (txt o) ++ [txt q j]) [59] := by
  unfold joinP
  rw [List.map_append, List.map_map]
  rfl
theorem last_plain (o q : Opt) (h : OptN o) (k : OptN q) (p : Part) (hp : p ∈ pairsOf q) :
    ∃ X : Opt, optT (joinP (pairsOf o ++ [p])) = some X ∧ optT (joinP (bareP (pairsOf o) p ++ [p])) = some X := by
  obtain ⟨j, hj, rfl⟩ := List.mem_map.1 hp
  have hpj := idxs_pres q j hj
  have hj16 := pres_lt hpj
  have hL : ∀ i ∈ idxs o, presB o i = true := fun i hi => idxs_pres o i hi
  have h00 : 0 ∈ idxs o := idxs_all o 0 (by omega) (by omega) rfl
  refine ⟨setF j q (pick (idxs o) o { Opt.zero with st := (0, 0) }), ?_, ?_⟩
  · rw [show pairsOf o = (idxs o).map fun i => (keyNm i, valL o i) from rfl, joinP_snocT]
    exact last_join o q h k (idxs o) hL j hpj (.inl h00)
  · rw [bare_eq o j hj16, joinP_snocT, last_join o q h k _ (fun i hi => hL i (List.mem_filter.1 hi).1) j hpj, setF_pick]
    by_cases h0 : j = 0
    · exact .inr h0
    · exact .inl (List.mem_filter.2 ⟨h00, by simp; omega⟩)
theorem last_short (o q : Opt) (h : OptOk o) (k : OptOk q) (P : List Part) (hP : P.length ≤ (pairsOf o).length) (hm : ∀ x ∈ P, x ∈ pairsOf o) (p : Part) (hp : p ∈ pairsOf q) :
    PartsShort (P ++ [p]) ∧ (joinP (P ++ [p])).length ≤ 480016 := by
  have hs := pairs_short o h
  have hq := pairs_short q k
  refine ⟨⟨?_, fun x hx => ?_⟩, ?_⟩
  · have hl : (pairsOf o).length ≤ 15 := by
      have := (partsP_short o h).1
      rw [← pairs_txP, List.length_map] at this
      exact this
    rw [List.length_append, List.length_singleton]
    omega
  · rcases List.mem_append.1 hx with hx | hx
    · exact hs.each x (hm x hx)
    · rw [List.mem_singleton] at hx; subst hx; exact hq.each _ hp
  · have h1 : Short (P.map txP) 15 := short_sub (partsP_short o h) (by rw [← pairs_txP, List.length_map, List.length_map]; exact hP) (fun x hx => by
      rw [← pairs_txP]
      obtain ⟨y, hy, rfl⟩ := List.mem_map.1 hx
      exact List.mem_map_of_mem (hm y hy))
    have h2 : Short [txP p] 1 := Short.one ((partsP_short q k).2 _ (by rw [← pairs_txP]; exact List.mem_map_of_mem hp))
    have h3 := (h1.app h2).join 59
    unfold joinP
    rw [List.map_append]
    exact h3
end Go.Proofs.YtcfbkkcamiephaaGreatDoor
namespace Go.Proofs.YtcfbkkcamiephaaGreatDoor
open Go.RowKit

/-! ### what a text that is read can hold -/
theorem sMag_le (most : Nat) (hm : 9 ≤ most) (l : List UInt8) (acc m : Nat) (ha : acc ≤ most) (h : sMag most acc l = some m) : m ≤ most := by
  induction l generalizing acc with
  | nil => simp [sMag] at h; omega
  | cons c r ih =>
    simp only [sMag] at h
    split at h
    · cases h
    · split at h
      · cases h
      · exact ih _ (by omega) h
theorem atoi_in {l : List UInt8} {n : Int} (h : atoiO l = some n) : In64 n := by
  rw [← intS_eq] at h
  cases l with
  | nil => simp [intS] at h
  | cons c r =>
    unfold intS at h
    simp only at h
    by_cases h0 : (if c.toNat = 43 ∨ c.toNat = 45 then r else c :: r) = []
    · rw [if_pos h0] at h; cases h
    · rw [if_neg h0, Option.map_eq_some_iff] at h
      obtain ⟨m, hm, rfl⟩ := h
      simp only [Option.bind_eq_bind, Option.bind_eq_some_iff, Option.pure_def, Option.some.injEq] at hm
      obtain ⟨u, hu, rfl⟩ := hm
      have hb := sMag_le (if c.toNat = 45 then 9223372036854775808 else 9223372036854775807) (by split <;> omega) _ 0 _ (Nat.zero_le _) hu
      clear hu h0
      by_cases hc : c.toNat = 45
      · rw [if_pos hc] at hb ⊢
        exact ⟨by omega, by omega⟩
      · rw [if_neg hc] at hb ⊢
        exact ⟨by omega, by omega⟩
def IntsG (n : Nat) (xs : List Int) : Prop := xs.length ≤ n + 1 ∧ ∀ z ∈ xs, In64 z
theorem intsL_g {L : List (List UInt8)} {xs : List Int} (h : intsL L = some xs) : xs.length = L.length ∧ ∀ z ∈ xs, In64 z := by
  induction L generalizing xs with
  | nil => simp [intsL] at h; subst h; exact ⟨rfl, fun z hz => by simp at hz⟩
  | cons q r ih =>
    simp only [intsL] at h
    cases ha : atoiO q with
    | none => rw [ha] at h; cases h
    | some n =>
      rw [ha] at h
      simp only [Option.map_eq_some_iff] at h
      obtain ⟨ys, hy, rfl⟩ := h
      obtain ⟨h1, h2⟩ := ih hy
      exact ⟨by simp [h1], fun z hz => by
        rcases List.mem_cons.1 hz with rfl | hz
        · exact atoi_in ha
        · exact h2 z hz⟩
theorem intsT_g {n : Nat} {v : List UInt8} {xs : List Int} (hv : v.length ≤ n) (h : intsT v = some xs) : IntsG n xs := by
  obtain ⟨h1, h2⟩ := intsL_g h
  have := splitL_len 44 v
  exact ⟨by omega, h2⟩
theorem dayT_in {l : List UInt8} {q : Int × Int} (h : dayT l = some q) : In64 q.2 := by
  unfold dayT at h
  split at h
  · cases h
  · split at h
    · cases h
    · split at h
      · split at h
        · cases h
        · rename_i n hn
          simp only [Option.some.injEq] at h
          subst h
          exact atoi_in hn
      · simp only [Option.some.injEq] at h
        subst h
        exact in64_0
theorem daysL_in {L : List (List UInt8)} {xs : List (Int × Int)} (h : daysL L = some xs) : ∀ p ∈ xs, In64 p.2 := by
  induction L generalizing xs with
  | nil => simp [daysL] at h; subst h; exact fun z hz => by simp at hz
  | cons q r ih =>
    simp only [daysL] at h
    cases ha : dayT q with
    | none => rw [ha] at h; cases h
    | some n =>
      rw [ha] at h
      simp only [Option.map_eq_some_iff] at h
      obtain ⟨ys, hy, rfl⟩ := h
      exact fun z hz => by
        rcases List.mem_cons.1 hz with rfl | hz
        · exact dayT_in ha
        · exact ih hy z hz
structure OptG (n : Nat) (o : Opt) : Prop where
  fq : 0 ≤ o.fq ∧ o.fq ≤ 6
  iv : In64 o.iv
  ct : In64 o.ct
  sp : IntsG n o.sp
  mo : IntsG n o.mo
  md : IntsG n o.md
  yd : IntsG n o.yd
  wn : IntsG n o.wn
  dy : o.dy.length ≤ n + 1 ∧ ∀ p ∈ o.dy, In64 p.2
  ho : IntsG n o.ho
  mi : IntsG n o.mi
  se : IntsG n o.se
  ea : IntsG n o.ea
theorem optT_g (l : List UInt8) (o : Opt) (h : optT l = some o) : OptG l.length o := by
  have z0 : IntsG l.length [] := ⟨by simp, fun z hz => by simp at hz⟩
  refine optT_inv (OptG l.length) l (fun s => ⟨by simp [Opt.zero], in64_0, in64_0, z0, z0, z0, z0, z0, ⟨by simp [Opt.zero], fun z hz => by simp [Opt.zero] at hz⟩, z0, z0, z0, z0⟩) ?_ o h
  intro i v o o' hv hP hi
  match i with
  | 0 => simp only [partI, Option.map_eq_some_iff] at hi; obtain ⟨x, hx, rfl⟩ := hi; exact { hP with fq := freqT_in hx }
  | 1 => simp only [partI, Option.map_eq_some_iff] at hi; obtain ⟨x, hx, rfl⟩ := hi; exact { hP with }
  | 2 => simp only [partI, Option.map_eq_some_iff] at hi; obtain ⟨x, hx, rfl⟩ := hi; exact { hP with iv := atoi_in hx }
  | 3 => simp only [partI, Option.map_eq_some_iff] at hi; obtain ⟨x, hx, rfl⟩ := hi; exact { hP with }
  | 4 => simp only [partI, Option.map_eq_some_iff] at hi; obtain ⟨x, hx, rfl⟩ := hi; exact { hP with ct := atoi_in hx }
  | 5 => simp only [partI, Option.map_eq_some_iff] at hi; obtain ⟨x, hx, rfl⟩ := hi; exact { hP with }
  | 6 => simp only [partI, Option.map_eq_some_iff] at hi; obtain ⟨x, hx, rfl⟩ := hi; exact { hP with sp := intsT_g hv hx }
  | 7 => simp only [partI, Option.map_eq_some_iff] at hi; obtain ⟨x, hx, rfl⟩ := hi; exact { hP with mo := intsT_g hv hx }
  | 8 => simp only [partI, Option.map_eq_some_iff] at hi; obtain ⟨x, hx, rfl⟩ := hi; exact { hP with md := intsT_g hv hx }
  | 9 => simp only [partI, Option.map_eq_some_iff] at hi; obtain ⟨x, hx, rfl⟩ := hi; exact { hP with yd := intsT_g hv hx }
  | 10 => simp only [partI, Option.map_eq_some_iff] at hi; obtain ⟨x, hx, rfl⟩ := hi; exact { hP with wn := intsT_g hv hx }
  | 11 => simp only [partI, Option.map_eq_some_iff] at hi; obtain ⟨x, hx, rfl⟩ := hi; exact { hP with dy := ⟨by have := daysT_len hx; show x.length ≤ _; omega, daysL_in hx⟩ }
  | 12 => simp only [partI, Option.map_eq_some_iff] at hi; obtain ⟨x, hx, rfl⟩ := hi; exact { hP with ho := intsT_g hv hx }
  | 13 => simp only [partI, Option.map_eq_some_iff] at hi; obtain ⟨x, hx, rfl⟩ := hi; exact { hP with mi := intsT_g hv hx }
  | 14 => simp only [partI, Option.map_eq_some_iff] at hi; obtain ⟨x, hx, rfl⟩ := hi; exact { hP with se := intsT_g hv hx }
  | 15 => simp only [partI, Option.map_eq_some_iff] at hi; obtain ⟨x, hx, rfl⟩ := hi; exact { hP with ea := intsT_g hv hx }
  | (n + 16) => simp [partI] at hi
theorem OptG.len {n : Nat} {o : Opt} (h : OptG n o) (hn : n ≤ 1000000) : RuleLen (ruleOf o) :=
  ⟨by have := h.dy.1; show o.dy.length ≤ _; omega, by have := h.sp.1; show o.sp.length ≤ _; omega, by have := h.mo.1; show o.mo.length ≤ _; omega, by have := h.md.1; show o.md.length ≤ _; omega, by have := h.yd.1; show o.yd.length ≤ _; omega, by have := h.wn.1; show o.wn.length ≤ _; omega, by have := h.ho.1; show o.ho.length ≤ _; omega, by have := h.mi.1; show o.mi.length ≤ _; omega, by have := h.se.1; show o.se.length ≤ _; omega, by have := h.ea.1; show o.ea.length ≤ _; omega⟩
theorem OptG.inn {n : Nat} {o : Opt} (h : OptG n o) : RuleIn (ruleOf o) :=
  ⟨⟨h.fq.1, by have := h.fq.2; show o.fq ≤ 255; omega⟩, h.iv, h.ct, h.sp.2, h.mo.2, h.md.2, h.yd.2, h.wn.2, h.dy.2, h.ho.2, h.mi.2, h.se.2, h.ea.2⟩
end Go.Proofs.YtcfbkkcamiephaaGreatDoor
namespace Go.Proofs.YtcfbkkcamiephaaGreatDoor
open Go.RowKit

/-! ### FnTextLast: 'append(append([]TextPart{}, l...), p)' in a region that draws its order -/
/-- operations: 0 the empty literal, 2 the append of the list, 4 the literal of the part, 5 the append of the part -/
structure L8 (W0 : World) (P : List Part) (p : Part) (b : Nat × Value × Nat × Value) (listed : Array Bool) (W : World) : Prop where
  hb : Below W0.heap.size W0 W
  d2 : listed[2]? = some true → listed[0]? = some true
  d5 : listed[5]? = some true → listed[2]? = some true ∧ listed[4]? = some true
  own0 : listed[0]? = some true → listed[2]? ≠ some true → W.ownsRow W0.heap.size 46 2 (.slice (some ⟨b.1, 0, none⟩) 0 0) 0 []
  own1 : listed[2]? = some true → listed[5]? ≠ some true → W.ownsRow W0.heap.size 46 2 b.2.1 P.length (flatP P)
  lit : listed[4]? = some true → listed[5]? ≠ some true → W0.heap.size ≤ b.2.2.1 ∧ W.heap[b.2.2.1]? = some (.cells #[strV p.1, strV p.2] 46 (0, 0))
  ne0 : listed[0]? = some true → listed[4]? = some true → listed[2]? ≠ some true → b.1 ≠ b.2.2.1
  ne1 : listed[2]? = some true → listed[4]? = some true → listed[5]? ≠ some true → b.2.1.ownBlock ≠ some b.2.2.1
  own2 : listed[5]? = some true → W.ownsRow W0.heap.size 46 2 b.2.2.2 (P.length + 1) (flatP P ++ encP p)
section
variable {W0 W w1 : World} {P : List Part} {p : Part} {b : Nat × Value × Nat × Value} {listed : Array Bool}
theorem L8.start (hn : ∀ i : Nat, listed[i]? ≠ some true) (hb : Below W0.heap.size W0 W) : L8 W0 P p b listed W :=
  ⟨hb, fun e => absurd e (hn _), fun e => absurd e (hn _), fun e => absurd e (hn _), fun e => absurd e (hn _), fun e => absurd e (hn _), fun e => absurd e (hn _), fun e => absurd e (hn _), fun e => absurd e (hn _)⟩
theorem L8.call (h : L8 W0 P p b listed W) (hb : Below W.heap.size W w1) : L8 W0 P p b listed w1 :=
  ⟨h.hb.trans (hb.mono h.hb.size), h.d2, h.d5, fun a c => own_call (h.own0 a c) hb, fun a c => own_call (h.own1 a c) hb, fun a c => ⟨(h.lit a c).1, (hb.block _ (lt_of_block (h.lit a c).2)).trans (h.lit a c).2⟩, h.ne0, h.ne1, fun a => own_call (h.own2 a) hb⟩
theorem L8.other (h : L8 W0 P p b listed W) {i : Nat} (h0 : i ≠ 0) (h2 : i ≠ 2) (h4 : i ≠ 4) (h5 : i ≠ 5) : L8 W0 P p b (listed.setIfInBounds i true) W := by
  have e0 := ne_get (listed := listed) h0
  have e2 := ne_get (listed := listed) h2
  have e4 := ne_get (listed := listed) h4
  have e5 := ne_get (listed := listed) h5
  exact ⟨h.hb, by rw [e2, e0]; exact h.d2, by rw [e5, e2, e4]; exact h.d5, by rw [e0, e2]; exact h.own0, by rw [e2, e5]; exact h.own1, by rw [e4, e5]; exact h.lit, by rw [e0, e4, e2]; exact h.ne0, by rw [e2, e4, e5]; exact h.ne1, by rw [e5]; exact h.own2⟩
theorem L8.made0 (h : L8 W0 P p b listed W) (hf : listed[0]? = some false) : L8 W0 P p (W.heap.size, b.2.1, b.2.2.1, b.2.2.2) (listed.setIfInBounds 0 true) (W.alloc (.cells #[] 46)) := by
  have k := h.call (w1 := W.alloc (.cells #[] 46)) ((Below.refl _ _).alloc (Nat.le_refl _) _)
  have e2 := ne_get (listed := listed) (show (0 : Nat) ≠ 2 by decide)
  have e4 := ne_get (listed := listed) (show (0 : Nat) ≠ 4 by decide)
  have e5 := ne_get (listed := listed) (show (0 : Nat) ≠ 5 by decide)
  have e0 := set_self2 hf
  have n2 : listed[2]? ≠ some true := fun e => by have := h.d2 e; rw [hf] at this; cases this
  refine ⟨k.hb, fun _ => e0, by rw [e5, e2, e4]; exact k.d5, fun _ _ => ⟨rfl, .inr ⟨W.heap.size, 0, #[], rfl, h.hb.size, heap_alloc_new _ _, Nat.le_refl _, by decide, rfl, rfl⟩⟩, by rw [e2, e5]; exact k.own1, by rw [e4, e5]; exact k.lit, ?_, by rw [e2, e4, e5]; exact k.ne1, by rw [e5]; exact k.own2⟩
  rw [e4, e2]
  intro _ a4 _ hc
  have n5 : listed[5]? ≠ some true := fun e => n2 (h.d5 e).1
  have := lt_of_block (h.lit a4 n5).2
  rw [← hc] at this
  exact Nat.lt_irrefl _ this
theorem L8.made4 (h : L8 W0 P p b listed W) (hf : listed[4]? = some false) : L8 W0 P p (b.1, b.2.1, W.heap.size, b.2.2.2) (listed.setIfInBounds 4 true) (W.alloc (.cells #[strV p.1, strV p.2] 46)) := by
  have k := h.call (w1 := W.alloc (.cells #[strV p.1, strV p.2] 46)) ((Below.refl _ _).alloc (Nat.le_refl _) _)
  have e2 := ne_get (listed := listed) (show (4 : Nat) ≠ 2 by decide)
  have e0 := ne_get (listed := listed) (show (4 : Nat) ≠ 0 by decide)
  have e5 := ne_get (listed := listed) (show (4 : Nat) ≠ 5 by decide)
  have e4 := set_self2 hf
  have n5 : listed[5]? ≠ some true := fun e => by have := (h.d5 e).2; rw [hf] at this; cases this
  refine ⟨k.hb, by rw [e2, e0]; exact k.d2, by rw [e5]; exact fun e => absurd e n5, by rw [e0, e2]; exact k.own0, by rw [e2, e5]; exact k.own1, fun _ _ => ⟨h.hb.size, heap_alloc_new _ _⟩, ?_, ?_, by rw [e5]; exact k.own2⟩
  · rw [e0, e2]
    intro a0 _ a2 hc
    have := (h.own0 a0 a2).lt b.1 rfl
    have hc : b.1 = W.heap.size := hc
    omega
  · rw [e2, e5]
    intro a2 _ a5 hc
    have := (h.own1 a2 a5).lt _ hc
    exact Nat.lt_irrefl _ this.2
theorem L8.app2 (h : L8 W0 P p b listed W) (h0 : listed[0]? = some true) (hf : listed[2]? = some false) {g c : Nat} {n : Nat} (hn : n = P.length)
    (hown : w1.ownsRow W0.heap.size 46 2 (.slice (some ⟨g, 0, none⟩) n c) n (flatP P)) (hg : W.grownBy w1 (some b.1)) (hl : b.1 = g ∨ g = W.heap.size) : L8 W0 P p (b.1, .slice (some ⟨g, 0, none⟩) n c, b.2.2.1, b.2.2.2) (listed.setIfInBounds 2 true) w1 := by
  subst hn
  have n2 : listed[2]? ≠ some true := by rw [hf]; simp
  have n5 : listed[5]? ≠ some true := fun e => n2 (h.d5 e).1
  have e0 := ne_get (listed := listed) (show (2 : Nat) ≠ 0 by decide)
  have e4 := ne_get (listed := listed) (show (2 : Nat) ≠ 4 by decide)
  have e5 := ne_get (listed := listed) (show (2 : Nat) ≠ 5 by decide)
  have e2 := set_self2 hf
  have o0 := h.own0 h0 n2
  refine ⟨h.hb.grown hg h.hb.size (fun k hk => (o0.lt k hk).1), fun _ => by rw [e0]; exact h0, by rw [e5]; exact fun e => absurd e n5, fun _ e => absurd e2 e, fun _ _ => hown, ?_, fun _ _ e => absurd e2 e, ?_, by rw [e5]; exact fun e => absurd e n5⟩
  · rw [e4, e5]
    intro a4 a5
    obtain ⟨l1, l2⟩ := h.lit a4 a5
    exact ⟨l1, (hg.block _ (lt_of_block l2) (fun e => h.ne0 h0 a4 n2 (Option.some.inj e).symm)).trans l2⟩
  · rw [e4, e5]
    intro _ a4 a5 hc
    have l2 := (h.lit a4 a5).2
    have hc : g = b.2.2.1 := by simpa [Value.ownBlock] using hc
    rcases hl with hl | hl
    · exact h.ne0 h0 a4 n2 (hl.trans hc)
    · have := lt_of_block l2
      omega
theorem L8.app5 (h : L8 W0 P p b listed W) (h2 : listed[2]? = some true) (h4 : listed[4]? = some true) (hf : listed[5]? = some false) {v : Value}
    (hown : w1.ownsRow W0.heap.size 46 2 v (P.length + 1) (flatP P ++ encP p)) (hg : W.grownBy w1 b.2.1.ownBlock) : L8 W0 P p (b.1, b.2.1, b.2.2.1, v) (listed.setIfInBounds 5 true) w1 := by
  have n5 : listed[5]? ≠ some true := by rw [hf]; simp
  have e0 := ne_get (listed := listed) (show (5 : Nat) ≠ 0 by decide)
  have e4 := ne_get (listed := listed) (show (5 : Nat) ≠ 4 by decide)
  have e2 := ne_get (listed := listed) (show (5 : Nat) ≠ 2 by decide)
  have e5 := set_self2 hf
  have o1 := h.own1 h2 n5
  refine ⟨h.hb.grown hg h.hb.size (fun k hk => (o1.lt k hk).1), by rw [e2, e0]; exact h.d2, fun _ => by rw [e2, e4]; exact ⟨h2, h4⟩, fun _ e => absurd (by rw [e2]; exact h2) e, fun _ e => absurd e5 e, fun _ e => absurd e5 e, fun _ _ e => absurd (by rw [e2]; exact h2) e, fun _ _ e => absurd e5 e, fun _ => hown⟩
end
/-- the append of the list -/
theorem step_l2 {W0 W : World} {P : List Part} {p : Part} {b : Nat × Value × Nat × Value} {listed : Array Bool} {g gq c : Nat} {o : Oper} {a : Act} {K : Act → World → Prop} {Q : Exit → Act → World → Prop}
    (s z : Operand) (hB : L8 W0 P p b listed W) (h0 : listed[0]? = some true) (hf : listed[2]? = some false) (hP : 0 < P.length) (hl : P.length ≤ 1000) (hr : PartRow W0 g gq P)
    (ho : o.op = .call { callee := .builtin .append, args := #[s, z], argTypes := #[43, 43] }) (hs : a.eval s = .slice (some ⟨b.1, 0, none⟩) 0 0) (hx : a.eval z = .slice (some ⟨g, gq, none⟩) P.length c)
    (h : ∀ v1 w2, L8 W0 P p (b.1, v1, b.2.2.1, b.2.2.2) (listed.setIfInBounds 2 true) w2 → K (a.put o.dst v1) w2) : o.wp Tryz.prog a W K Q := by
  obtain ⟨i0, hi, hz0, hz1, hz2⟩ := info_parts Tryz.info46
  have hA : listed[2]? ≠ some true := by rw [hf]; simp
  refine wp_append_lies W s z 43 ho W0.heap.size 46 i0 _ 2 32 Tryz.u43 hi hz0 hz1 hz2 rfl (by omega) _ 0 [] hs (hB.own0 h0 hA) ⟨g, gq, none⟩ P.length c (flatP P) hx (flatP_len P) (part_news (hr.below hB.hb)) (flatP_one P) hP (by simp only [maxLen]; omega) (by omega) hB.hb.size _ rfl (fun g1 c1 w2 h1 h2 h3 _ => h _ _ (hB.app2 h0 hf (by omega) h1 h2 ?_))
  rcases h3 with h3 | h3
  · exact .inl (by simpa [Value.ownBlock] using h3)
  · exact .inr h3
/-- the append of the part -/
theorem step_l5 {W0 W : World} {P : List Part} {p : Part} {b : Nat × Value × Nat × Value} {listed : Array Bool} {o : Oper} {a : Act} {K : Act → World → Prop} {Q : Exit → Act → World → Prop}
    (s z : Operand) (hB : L8 W0 P p b listed W) (h2 : listed[2]? = some true) (h4 : listed[4]? = some true) (hf : listed[5]? = some false) (hl : P.length ≤ 1000)
    (ho : o.op = .call { callee := .builtin .append, args := #[s, z], argTypes := #[43, 43] }) (hs : a.eval s = b.2.1) (hx : a.eval z = .slice (some ⟨b.2.2.1, 0, none⟩) 1 1)
    (h : ∀ v1 w2, L8 W0 P p (b.1, b.2.1, b.2.2.1, v1) (listed.setIfInBounds 5 true) w2 → K (a.put o.dst v1) w2) : o.wp Tryz.prog a W K Q := by
  obtain ⟨i0, hi, hz0, hz1, hz2⟩ := info_parts Tryz.info46
  have hA : listed[5]? ≠ some true := by rw [hf]; simp
  refine wp_append_own W s z 43 ho W0.heap.size 46 i0 _ 2 32 Tryz.u43 hi hz0 hz1 hz2 rfl (by omega) b.2.1 P.length (flatP P) hs (hB.own1 h2 hA) ⟨b.2.2.1, 0, none⟩ 1 1 (encP p) hx rfl (World.news_of_block (cs := #[strV p.1, strV p.2]) (t := 46) (fr := (0, 0)) (hB.lit h4 hA).2) (by simp [encP, strV, Value.oneCell']) (by simp only [maxLen]; omega) (by omega) hB.hb.size (fun v1 w2 k1 k2 _ => h v1 w2 (hB.app5 h2 h4 hf k1 k2))
/-! ### a list of parts whose block holds strings alone -/
def isStr : Value → Bool
  | .string _ => true
  | _ => false
def AllStr (W : World) (v : Value) : Prop := ∀ g, v.ownBlock = some g → ∃ c : Array Value, W.heap[g]? = some (.cells c 46 (0, 0)) ∧ ∀ x ∈ c.toList, isStr x = true
theorem AllStr.call {W w1 : World} {v : Value} (h : AllStr W v) (hb : Below W.heap.size W w1) : AllStr w1 v := fun g hg => by
  obtain ⟨c, h1, h2⟩ := h g hg
  exact ⟨c, (hb.block g (lt_of_block h1)).trans h1, h2⟩
theorem allStr_nil (W : World) : AllStr W (.slice none 0 0) := fun g hg => by cases hg
theorem zero_str (m : Nat) : ∀ x ∈ (Builtin.zeroCells (Value.agg #[.string ByteArray.empty, .string ByteArray.empty]).cells m).toList, isStr x = true := fun x hx => by
  simp only [Builtin.zeroCells, Array.toList_map, List.mem_map] at hx
  obtain ⟨i, _, rfl⟩ := hx
  have h2 : (Value.agg #[.string ByteArray.empty, .string ByteArray.empty]).cells = #[.string ByteArray.empty, .string ByteArray.empty] := by simp [Value.cells]
  rw [h2]
  rcases Nat.mod_two_eq_zero_or_one i with h | h
  · show isStr ((#[Value.string ByteArray.empty, .string ByteArray.empty] : Array Value)[i % 2]!) = true
    rw [h]; rfl
  · show isStr ((#[Value.string ByteArray.empty, .string ByteArray.empty] : Array Value)[i % 2]!) = true
    rw [h]; rfl
theorem run_append_str {w : World} {B n : Nat} {v : Value} {xs : List Value} {ty : TypeId} (hown : w.ownsRow B 46 2 v n xs) (hstr : AllStr w v) (a : Addr) (c : Nat) (news : List Value) (hl : news.length = 1 * 2) (hnews : ∀ j u, news[j]? = some u → w.cell? (a.add j) = some u) (h1 : ∀ u ∈ news, isStr u = true) (hn : n ≤ 100000) (hbase : B ≤ w.heap.size) :
    ∃ v' w', (Builtin.append_ #[43, 43] ty #[v, .slice (some a) 1 c]).run Tryz.prog w = .ok v' w' ∧ w'.ownsRow B 46 2 v' (n + 1) (xs ++ news) ∧ w.grownBy w' v.ownBlock ∧ AllStr w' v' := by
  obtain ⟨i0, hi, hz0, hz1, hz2⟩ := info_parts Tryz.info46
  have hone : ∀ u ∈ news, u.oneCell' = true := fun u hu => by
    have := h1 u hu
    cases u <;> first | rfl | (simp [isStr] at this)
  obtain ⟨v', w', hr, h2, h3, _⟩ := run_append_own (P := Tryz.prog) w B 43 ty 46 i0 _ 2 32 Tryz.u43 hi hz0 hz1 hz2 rfl (by omega) v n xs hown a 1 c news hl hnews hone (by simp only [maxLen]; omega) (by omega) hbase
  refine ⟨v', w', hr, h2, h3, ?_⟩
  have hl' : news.length = 1 * i0.size := by rw [hz1]; exact hl
  have hown' := hown
  rcases hown.2 with ⟨rfl, rfl⟩ | ⟨g, cap, cur, rfl, hbg, hg, hnc, hcm, hcs, htake⟩
  · rw [run_append_nil (P := Tryz.prog) w 43 ty 46 i0 _ Tryz.u43 hi hz0 a 1 c news hl' hnews (by omega) (by omega) (by rw [hz2]; omega)] at hr
    injection hr with e1 e2
    subst e1; subst e2
    intro g' hg'
    have hg' : w.heap.size = g' := by simpa [Value.ownBlock] using hg'
    subst hg'
    refine ⟨_, heap_alloc_new w.drew _, fun x hx => ?_⟩
    rw [Array.toList_append] at hx
    rcases List.mem_append.1 hx with hx | hx
    · exact h1 x (by simpa using hx)
    · exact zero_str _ x hx
  · obtain ⟨c0, hc0, hs0⟩ := hstr g rfl
    rw [hg] at hc0
    injection hc0 with hc0
    injection hc0 with hc0
    subst hc0
    by_cases hroom : n + 1 ≤ cap
    · rw [run_append_room (P := Tryz.prog) w 43 ty 46 i0 Tryz.u43 hi g n cap cur hg a 1 c news hl' hnews hone hroom (by rw [hz1, hl, hcs]; omega)] at hr
      injection hr with e1 e2
      subst e1; subst e2
      intro g' hg'
      have hg' : g = g' := by simpa [Value.ownBlock] using hg'
      subst hg'
      refine ⟨_, setRow_heap w g _ _ _ _ hg, fun x hx => ?_⟩
      simp only [List.append_assoc] at hx
      rcases List.mem_append.1 hx with hx | hx
      · exact hs0 x (List.mem_of_mem_take hx)
      · rcases List.mem_append.1 hx with hx | hx
        · exact h1 x hx
        · exact hs0 x (List.mem_of_mem_drop hx)
    · have holds : ∀ j u, xs[j]? = some u → w.cell? ((⟨g, 0, none⟩ : Addr).add j) = some u := hown'.cells (g := g) rfl
      rw [run_append_grow (P := Tryz.prog) w 43 ty 46 i0 _ Tryz.u43 hi hz0 ⟨g, 0, none⟩ n cap xs (by rw [hz1]; exact hown'.1) holds a 1 c news hl' hnews (by omega) (by omega) (growslice_fits (by omega) (by rw [hz2]; omega))] at hr
      injection hr with e1 e2
      subst e1; subst e2
      intro g' hg'
      have hg' : w.heap.size = g' := by simpa [Value.ownBlock] using hg'
      subst hg'
      refine ⟨_, heap_alloc_new w.drew _, fun x hx => ?_⟩
      simp only [Array.toList_append] at hx
      rcases List.mem_append.1 hx with hx | hx
      · rcases List.mem_append.1 hx with hx | hx
        · have hx : x ∈ xs := by simpa using hx
          rw [← htake] at hx
          exact hs0 x (List.mem_of_mem_take hx)
        · exact h1 x (by simpa using hx)
      · exact zero_str _ x hx
theorem wpList_append_str {w : World} {ops : Array Oper} {rest : List Oper} {o : Oper} {a : Act} {Q : Exit → Act → World → Prop} (hgd : o.guard = none) (s x : Operand)
    (ho : o.op = .call { callee := .builtin .append, args := #[s, x], argTypes := #[43, 43] }) {B n : Nat} {v : Value} {xs : List Value} (hs : a.eval s = v) (hown : w.ownsRow B 46 2 v n xs) (hstr : AllStr w v)
    (ad : Addr) (c : Nat) (news : List Value) (hx : a.eval x = .slice (some ad) 1 c) (hl : news.length = 1 * 2) (hnews : ∀ j u, news[j]? = some u → w.cell? (ad.add j) = some u) (h1 : ∀ u ∈ news, isStr u = true) (hn : n ≤ 100000) (hbase : B ≤ w.heap.size)
    (h : ∀ v' w', w'.ownsRow B 46 2 v' (n + 1) (xs ++ news) → w.grownBy w' v.ownBlock → AllStr w' v' → wpList Tryz.prog ops Q rest (a.put o.dst v') w') : wpList Tryz.prog ops Q (o :: rest) a w := by
  refine wpList_plain hgd fun _ hK => ?_
  obtain ⟨v', w', hr, h2, h3, h4⟩ := run_append_str (ty := o.type) hown hstr ad c news hl hnews h1 hn hbase
  unfold Oper.wp execOp
  simp only [ho, resolve, invoke, builtin, Sem.run_bind, Sem.run_pure, Result.andThen_ok, List.map_toArray, List.map_cons, List.map_nil, hs, hx, hr]
  exact hK _ _ (h v' w' h2 h3 h4)
/-- a block that holds strings alone holds no number -/
theorem AllStr.no_int {W : World} {v : Value} (h : AllStr W v) {g q : Nat} {k : IntKind} {z : Int} (hg : v.ownBlock = some g) (hc : W.cell? ⟨g, q, none⟩ = some (.int k z)) : False := by
  obtain ⟨c, h1, h2⟩ := h g hg
  simp only [World.cell?, h1] at hc
  have hm : Value.int k z ∈ c.toList := by
    simp at hc
    exact List.mem_of_getElem? (i := q) (by simpa using hc)
  have := h2 _ hm
  simp [isStr] at this
theorem cell_other {W W' : World} {ob : Option Nat} (hg : W.grownBy W' ob) {g q : Nat} {x : Value} (hlt : g < W.heap.size) (hne : some g ≠ ob) (hc : W.cell? ⟨g, q, none⟩ = some x) : W'.cell? ⟨g, q, none⟩ = some x := by
  rw [World.cell?_of_block (hg.block g hlt hne)]; exact hc
theorem IntsV.grown {W W' : World} {v : Value} {xs : List Int} {u : Value} (h : IntsV W v xs) (hs : AllStr W u) (hg : W.grownBy W' u.ownBlock) : IntsV W' v xs := by
  rcases h with h | ⟨g, gq, c, h1, h2, h3⟩
  · exact .inl h
  · refine .inr ⟨g, gq, c, h1, h2, Nat.lt_of_lt_of_le h3.lt hg.size, fun i x hx => ?_⟩
    have hc := h3.cell i x hx
    exact cell_other hg h3.lt (fun e => hs.no_int e.symm hc) hc
theorem DaysV.grown {W W' : World} {v : Value} {xs : List (Int × Int)} {u : Value} (h : DaysV W v xs) (hs : AllStr W u) (hg : W.grownBy W' u.ownBlock) : DaysV W' v xs := by
  rcases h with h | ⟨g, gq, c, h1, h2, h3⟩
  · exact .inl h
  · refine .inr ⟨g, gq, c, h1, h2, Nat.lt_of_lt_of_le h3.lt hg.size, fun i x hx => ?_⟩
    obtain ⟨hc, hd⟩ := h3.cell i x hx
    exact ⟨cell_other hg h3.lt (fun e => hs.no_int e.symm hc) hc, cell_other hg h3.lt (fun e => hs.no_int e.symm hd) hd⟩
theorem RuleIs.grown {W W' : World} {v : Value} {r : RuleD} {u : Value} (h : RuleIs W v r) (hs : AllStr W u) (hg : W.grownBy W' u.ownBlock) : RuleIs W' v r := by
  obtain ⟨v8, v9, v10, v11, v12, v13, v14, v15, v16, v17, h, hR⟩ := h
  exact ⟨v8, v9, v10, v11, v12, v13, v14, v15, v16, v17, h, hR.l8.grown hs hg, hR.l9.grown hs hg, hR.l10.grown hs hg, hR.l11.grown hs hg, hR.l12.grown hs hg, hR.l13.grown hs hg, hR.l14.grown hs hg, hR.l15.grown hs hg, hR.l16.grown hs hg, hR.l17.grown hs hg⟩
theorem RowAt.grown {W W' : World} {N n B : Nat} {t : TypeId} {xs ys : List Value} {u : Value} (h : RowAt W N t xs) (ht : t ≠ 46) (hown : W.ownsRow B 46 2 u n ys) (hg : W.grownBy W' u.ownBlock) : RowAt W' N t xs :=
  ⟨(hg.block N h.lt (fun e => own_ne hown h.blk ht e.symm)).trans h.blk⟩
end Go.Proofs.YtcfbkkcamiephaaGreatDoor
