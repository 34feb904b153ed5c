import Derived.Test.YtcfbkkcamiephaaGreatDoorN4
import Derived.Test.YtcfbkkcamiephaaGreatDoorV1
import Derived.Test.YtcfbkkcamiephaaGreatDoorIw
namespace Go.Proofs.YtcfbkkcamiephaaGreatDoor
open Go.RowKit

/-! ### what a text that is read can hold -/
theorem sMag_le (most : Nat) (hm : 9 ≤ most) (l : List UInt8) (acc m : Nat) (ha : acc ≤ most) (h : sMag most acc l = some m) : m ≤ most := by
  induction l generalizing acc with
  | nil => simp [sMag] at h; omega
  | cons c r ih =>
    simp only [sMag] at h
    split at h
    · cases h
    · split at h
      · cases h
      · exact ih _ (by omega) h
theorem atoi_in {l : List UInt8} {n : Int} (h : atoiO l = some n) : In64 n := by
  rw [← intS_eq] at h
  cases l with
  | nil => simp [intS] at h
  | cons c r =>
    unfold intS at h
    simp only at h
    by_cases h0 : (if c.toNat = 43 ∨ c.toNat = 45 then r else c :: r) = []
    · rw [if_pos h0] at h; cases h
    · rw [if_neg h0, Option.map_eq_some_iff] at h
      obtain ⟨m, hm, rfl⟩ := h
      simp only [Option.bind_eq_bind, Option.bind_eq_some_iff, Option.pure_def, Option.some.injEq] at hm
      obtain ⟨u, hu, rfl⟩ := hm
      have hb := sMag_le (if c.toNat = 45 then 9223372036854775808 else 9223372036854775807) (by split <;> omega) _ 0 _ (Nat.zero_le _) hu
      clear hu h0
      by_cases hc : c.toNat = 45
      · rw [if_pos hc] at hb ⊢
        exact ⟨by omega, by omega⟩
      · rw [if_neg hc] at hb ⊢
        exact ⟨by omega, by omega⟩
def IntsG (n : Nat) (xs : List Int) : Prop := xs.length ≤ n + 1 ∧ ∀ z ∈ xs, In64 z
theorem intsL_g {L : List (List UInt8)} {xs : List Int} (h : intsL L = some xs) : xs.length = L.length ∧ ∀ z ∈ xs, In64 z := by
  induction L generalizing xs with
  | nil => simp [intsL] at h; subst h; exact ⟨rfl, fun z hz => by simp at hz⟩
  | cons q r ih =>
    simp only [intsL] at h
    cases ha : atoiO q with
    | none => rw [ha] at h; cases h
    | some n =>
      rw [ha] at h
      simp only [Option.map_eq_some_iff] at h
      obtain ⟨ys, hy, rfl⟩ := h
      obtain ⟨h1, h2⟩ := ih hy
      exact ⟨by simp [h1], fun z hz => by
        rcases List.mem_cons.1 hz with rfl | hz
        · exact atoi_in ha
        · exact h2 z hz⟩
theorem intsT_g {n : Nat} {v : List UInt8} {xs : List Int} (hv : v.length ≤ n) (h : intsT v = some xs) : IntsG n xs := by
  obtain ⟨h1, h2⟩ := intsL_g h
  have := splitL_len 44 v
  exact ⟨by omega, h2⟩
theorem dayT_in {l : List UInt8} {q : Int × Int} (h : dayT l = some q) : In64 q.2 := by
  unfold dayT at h
  split at h
  · cases h
  · split at h
    · cases h
    · split at h
      · split at h
        · cases h
        · rename_i n hn
          simp only [Option.some.injEq] at h
          subst h
          exact atoi_in hn
      · simp only [Option.some.injEq] at h
        subst h
        exact in64_0
theorem daysL_in {L : List (List UInt8)} {xs : List (Int × Int)} (h : daysL L = some xs) : ∀ p ∈ xs, In64 p.2 := by
  induction L generalizing xs with
  | nil => simp [daysL] at h; subst h; exact fun z hz => by simp at hz
  | cons q r ih =>
    simp only [daysL] at h
    cases ha : dayT q with
    | none => rw [ha] at h; cases h
    | some n =>
      rw [ha] at h
      simp only [Option.map_eq_some_iff] at h
      obtain ⟨ys, hy, rfl⟩ := h
      exact fun z hz => by
        rcases List.mem_cons.1 hz with rfl | hz
        · exact dayT_in ha
        · exact ih hy z hz
structure OptG (n : Nat) (o : Opt) : Prop where
  fq : 0 ≤ o.fq ∧ o.fq ≤ 6
  iv : In64 o.iv
  ct : In64 o.ct
  sp : IntsG n o.sp
  mo : IntsG n o.mo
  md : IntsG n o.md
  yd : IntsG n o.yd
  wn : IntsG n o.wn
  dy : o.dy.length ≤ n + 1 ∧ ∀ p ∈ o.dy, In64 p.2
  ho : IntsG n o.ho
  mi : IntsG n o.mi
  se : IntsG n o.se
  ea : IntsG n o.ea
theorem optT_g (l : List UInt8) (o : Opt) (h : optT l = some o) : OptG l.length o := by
  have z0 : IntsG l.length [] := ⟨by simp, fun z hz => by simp at hz⟩
  refine optT_inv (OptG l.length) l (fun s => ⟨by simp [Opt.zero], in64_0, in64_0, z0, z0, z0, z0, z0, ⟨by simp [Opt.zero], fun z hz => by simp [Opt.zero] at hz⟩, z0, z0, z0, z0⟩) ?_ o h
  intro i v o o' hv hP hi
  match i with
  | 0 => simp only [partI, Option.map_eq_some_iff] at hi; obtain ⟨x, hx, rfl⟩ := hi; exact { hP with fq := freqT_in hx }
  | 1 => simp only [partI, Option.map_eq_some_iff] at hi; obtain ⟨x, hx, rfl⟩ := hi; exact { hP with }
  | 2 => simp only [partI, Option.map_eq_some_iff] at hi; obtain ⟨x, hx, rfl⟩ := hi; exact { hP with iv := atoi_in hx }
  | 3 => simp only [partI, Option.map_eq_some_iff] at hi; obtain ⟨x, hx, rfl⟩ := hi; exact { hP with }
  | 4 => simp only [partI, Option.map_eq_some_iff] at hi; obtain ⟨x, hx, rfl⟩ := hi; exact { hP with ct := atoi_in hx }
  | 5 => simp only [partI, Option.map_eq_some_iff] at hi; obtain ⟨x, hx, rfl⟩ := hi; exact { hP with }
  | 6 => simp only [partI, Option.map_eq_some_iff] at hi; obtain ⟨x, hx, rfl⟩ := hi; exact { hP with sp := intsT_g hv hx }
  | 7 => simp only [partI, Option.map_eq_some_iff] at hi; obtain ⟨x, hx, rfl⟩ := hi; exact { hP with mo := intsT_g hv hx }
  | 8 => simp only [partI, Option.map_eq_some_iff] at hi; obtain ⟨x, hx, rfl⟩ := hi; exact { hP with md := intsT_g hv hx }
  | 9 => simp only [partI, Option.map_eq_some_iff] at hi; obtain ⟨x, hx, rfl⟩ := hi; exact { hP with yd := intsT_g hv hx }
  | 10 => simp only [partI, Option.map_eq_some_iff] at hi; obtain ⟨x, hx, rfl⟩ := hi; exact { hP with wn := intsT_g hv hx }
  | 11 => simp only [partI, Option.map_eq_some_iff] at hi; obtain ⟨x, hx, rfl⟩ := hi; exact { hP with dy := ⟨by have := daysT_len hx; show x.length ≤ _; omega, daysL_in hx⟩ }
  | 12 => simp only [partI, Option.map_eq_some_iff] at hi; obtain ⟨x, hx, rfl⟩ := hi; exact { hP with ho := intsT_g hv hx }
  | 13 => simp only [partI, Option.map_eq_some_iff] at hi; obtain ⟨x, hx, rfl⟩ := hi; exact { hP with mi := intsT_g hv hx }
  | 14 => simp only [partI, Option.map_eq_some_iff] at hi; obtain ⟨x, hx, rfl⟩ := hi; exact { hP with se := intsT_g hv hx }
  | 15 => simp only [partI, Option.map_eq_some_iff] at hi; obtain ⟨x, hx, rfl⟩ := hi; exact { hP with ea := intsT_g hv hx }
  | (n + 16) => simp [partI] at hi
theorem OptG.len {n : Nat} {o : Opt} (h : OptG n o) (hn : n ≤ 1000000) : RuleLen (ruleOf o) :=
  ⟨by have := h.dy.1; show o.dy.length ≤ _; omega, by have := h.sp.1; show o.sp.length ≤ _; omega, by have := h.mo.1; show o.mo.length ≤ _; omega, by have := h.md.1; show o.md.length ≤ _; omega, by have := h.yd.1; show o.yd.length ≤ _; omega, by have := h.wn.1; show o.wn.length ≤ _; omega, by have := h.ho.1; show o.ho.length ≤ _; omega, by have := h.mi.1; show o.mi.length ≤ _; omega, by have := h.se.1; show o.se.length ≤ _; omega, by have := h.ea.1; show o.ea.length ≤ _; omega⟩
theorem OptG.inn {n : Nat} {o : Opt} (h : OptG n o) : RuleIn (ruleOf o) :=
  ⟨⟨h.fq.1, by have := h.fq.2; show o.fq ≤ 255; omega⟩, h.iv, h.ct, h.sp.2, h.mo.2, h.md.2, h.yd.2, h.wn.2, h.dy.2, h.ho.2, h.mi.2, h.se.2, h.ea.2⟩
/-- what the reference hands back, as a row of cells and a code -/
theorem ps_cells {w w' : World} {o : Out RuleD} {e : Ending} (h : PSPost w o e w') : ∃ cs : Array Value, e = .returned (.tuple #[.agg cs, .int .u8 o.code]) ∧ cs.size = 18 ∧ cs.all (·.oneCell') = true ∧ Below w.heap.size w w' ∧ ∀ r, o = .right r → RuleIs w' (.agg cs) r := by
  obtain ⟨hb, h⟩ := h
  cases o with
  | right r =>
    obtain ⟨v, he, hv⟩ := h
    obtain ⟨cs, rfl, h1, h2⟩ := ruleVal_cells hv
    exact ⟨cs, he, h1, h2, hb, fun r' e' => by cases e'; exact hv⟩
  | wrong => exact ⟨ruleZ0, h, rfl, ruleZ0_one, hb, fun r' e' => by cases e'⟩
  | opn => exact ⟨ruleZ0, h, rfl, ruleZ0_one, hb, fun r' e' => by cases e'⟩
structure Cel2 (w W : World) (B1 B3 : Nat) : Prop where
  lt1 : B1 < W.heap.size
  lt3 : B3 < W.heap.size
  good : Good W
  hb : Below w.heap.size w W
theorem cel_call {w W w1 : World} {B1 B3 : Nat} {L1 L3 : Array Value} (h : (∀ i, W.cell? ⟨B1, i, none⟩ = L1[i]?) ∧ (∀ i, W.cell? ⟨B3, i, none⟩ = L3[i]?) ∧ Cel2 w W B1 B3) (hb : Below W.heap.size W w1) :
    (∀ i, w1.cell? ⟨B1, i, none⟩ = L1[i]?) ∧ (∀ i, w1.cell? ⟨B3, i, none⟩ = L3[i]?) ∧ Cel2 w w1 B1 B3 :=
  ⟨fun i => ((bcell hb).1 B1 i h.2.2.lt1).trans (h.1 i), fun i => ((bcell hb).1 B3 i h.2.2.lt3).trans (h.2.1 i), Nat.lt_of_lt_of_le h.2.2.lt1 hb.size, Nat.lt_of_lt_of_le h.2.2.lt3 hb.size, h.2.2.good.below hb, h.2.2.hb.trans (hb.mono h.2.2.hb.size)⟩
theorem cel_drew {w W : World} {B1 B3 : Nat} {L1 L3 : Array Value} (h : (∀ i, W.cell? ⟨B1, i, none⟩ = L1[i]?) ∧ (∀ i, W.cell? ⟨B3, i, none⟩ = L3[i]?) ∧ Cel2 w W B1 B3) :
    (∀ i, W.drew.cell? ⟨B1, i, none⟩ = L1[i]?) ∧ (∀ i, W.drew.cell? ⟨B3, i, none⟩ = L3[i]?) ∧ Cel2 w W.drew B1 B3 := cel_call h (Below.refl _ _).drew
theorem cel_good {w W : World} {B1 B3 : Nat} {L1 L3 : Array Value} (h : (∀ i, W.cell? ⟨B1, i, none⟩ = L1[i]?) ∧ (∀ i, W.cell? ⟨B3, i, none⟩ = L3[i]?) ∧ Cel2 w W B1 B3) : Good W := h.2.2.good
theorem two_hb {w W : World} {B1 B3 : Nat} {L1 L3 : Array Value} {r : RuleD} (h : (∀ i, W.cell? ⟨B1, i, none⟩ = L1[i]?) ∧ (∀ i, W.cell? ⟨B3, i, none⟩ = L3[i]?) ∧ Two w W B1 B3 L1 L3 r) : Below w.heap.size w W := h.2.2.k.hb

/-! ### FnTextAny -/
attribute [local go_sem ↓] Go.wp_at_zero Go.wp_at_succ lockL_eq
set_option maxRecDepth 100000 in
set_option maxHeartbeats 12800000 in
theorem law_any (hrule : RuleAny) (l : List UInt8) (w : World) (hG : Good w) (hD : DayNms w) (hF : Freqs w) :
    Calls Tryz.prog 3 #[.string (mkS l)] w fun e w' => e = .returned (.bool true) ∧ Below w.heap.size w w' := by
  have zl := size_mkS l
  have HG := Lib.hid hG
  have H19 := Lib.hid (fun w hG => awake_any hrule option_any w hG)
  rcases Nat.lt_or_ge 2147483647 l.length with hlong | hle
  · have hd : decide ((2147483647 : Int) < (l.length : Int)) = true := by simp; omega
    clear hG hD hF hrule
    go_enter Tryz.func3, Tryz.ntmps3
    go_wp2
    go_ret
    exact ⟨rfl, Below.refl _ _⟩
  have hd : decide ((2147483647 : Int) < (l.length : Int)) = false := by simp; omega
  rcases Nat.lt_or_ge 2000 l.length with hlong | hlen
  · have hd2 : decide ((2000 : Int) < (l.length : Int)) = true := by simp; omega
    clear hG hD hF hrule
    go_enter Tryz.func3, Tryz.ntmps3
    go_wp2_with (first
      | (go_at_call 19; go_must (refine (H19.out _ HG.out).mono ?_; rintro e w1 ⟨rfl, hb1⟩))
      | (fail))
    go_ret
    exact ⟨rfl, hb1⟩
  have hd2 : decide ((2000 : Int) < (l.length : Int)) = false := by simp; omega
  have H20 := Lib.hid ((parseS_any l w hD hF (by omega)).mono fun e w' h => ps_cells h)
  have hag := parS_agree l
  have h21 := fun w hG => parse21_any hrule l w hG (by omega)
  have hgg := fun o (h : optT l = some o) => optT_g l o h
  generalize parS l = R at *
  generalize optT l = O at *
  clear hG hD hF hrule
  cases R with
  | opn =>
    have H20 : Hid (Calls Tryz.prog 20 #[.string (mkS l)] w fun e w' => ∃ cs : Array Value, e = .returned (.tuple #[.agg cs, .int .u8 2]) ∧ cs.size = 18 ∧ cs.all (·.oneCell') = true ∧ Below w.heap.size w w' ∧ True) := Lib.hid (H20.out.mono fun e w' ⟨cs, a, b, c, d, _⟩ => ⟨cs, a, b, c, d, trivial⟩)
    clear h21 hag hgg
    go_enter Tryz.func3, Tryz.ntmps3
    go_wp2_with (first
      | (go_at_call 20; go_must (refine H20.out.mono ?_; rintro e w1 ⟨cs, rfl, hcs, hone, hb1, _⟩; have HCS := Lib.hid hcs; clear hcs))
      | (refine Great.wpList_runTo rfl (some 3) rfl _ _ (run_al26 _ _ rfl _) ?_)
      | (refine wpList_store_fresh rfl 26 _ _ rfl ruleZ0 cs rfl rfl (by rw [HCS.out]; as_aux_lemma => kernel_rfl) (by rw [HCS.out]; rfl) hone ?_)
      | (go_at_call 19; go_must (refine (H19.out _ ((HG.out.below hb1).below ((Below.refl _ _).alloc (Nat.le_refl _) _))).mono ?_; rintro e w2 ⟨rfl, hb2⟩))
      | (fail))
    go_ret
    have hb3 : Below w.heap.size w (w1.alloc (.cells cs 26)) := hb1.trans (((Below.refl _ _).alloc (Nat.le_refl _) _).mono hb1.size)
    exact ⟨rfl, hb3.trans (hb2.mono hb3.size)⟩
  | wrong =>
    have hO : O = none := hag
    subst hO
    have H20 : Hid (Calls Tryz.prog 20 #[.string (mkS l)] w fun e w' => ∃ cs : Array Value, e = .returned (.tuple #[.agg cs, .int .u8 1]) ∧ cs.size = 18 ∧ cs.all (·.oneCell') = true ∧ Below w.heap.size w w' ∧ True) := Lib.hid (H20.out.mono fun e w' ⟨cs, a, b, c, d, _⟩ => ⟨cs, a, b, c, d, trivial⟩)
    have H21 := Lib.hid h21
    clear h21 hag hgg
    go_enter Tryz.func3, Tryz.ntmps3
    go_upto_region 9 with (first
      | (go_at_call 20; go_must (refine H20.out.mono ?_; rintro e w1 ⟨cs, rfl, hcs, hone, hb1, _⟩; have HCS := Lib.hid hcs; clear hcs; have hb3 : Below w.heap.size w (w1.alloc (.cells cs 26)) := hb1.trans (((Below.refl _ _).alloc (Nat.le_refl _) _).mono hb1.size); have hg3 := HG.out.below hb3))
      | (refine Great.wpList_runTo rfl (some 3) rfl _ _ (run_al26 _ _ rfl _) ?_)
      | (refine wpList_store_fresh rfl 26 _ _ rfl ruleZ0 cs rfl rfl (by rw [HCS.out]; as_aux_lemma => kernel_rfl) (by rw [HCS.out]; rfl) hone ?_)
      | (go_at_call 21; go_must (refine (H21.out _ hg3).mono ?_; rintro e w4 ⟨hb4, rfl⟩))
      | (refine Great.wpList_runTo rfl (some 5) rfl _ _ (run_al31 _ _ rfl _) ?_)
      | (refine wpList_store_fresh rfl 31 _ _ rfl ruleZ0 ruleZ0 rfl rfl (by as_aux_lemma => kernel_rfl) rfl ruleZ0_one ?_)
      | (fail))
    have hb5 : Below w.heap.size w w4 := hb3.trans (hb4.mono hb3.size)
    have hb6 : Below w.heap.size w (w4.alloc (.cells ruleZ0 31)) := hb5.trans (((Below.refl _ _).alloc (Nat.le_refl _) _).mono hb5.size)
    have hK0 := Lib.hid (And.intro (HG.out.below hb6) hb6)
    change Code.wp _ _ _ _ (w4.alloc (.cells ruleZ0 31))
    generalize w4.alloc (.cells ruleZ0 31) = Wf at *
    clear hb3 hb4 hb5 hb6 hg3 hb1 hone HCS H21 H20 HG
    generalize w4.heap.size = B3 at *
    generalize w1.heap.size = B1 at *
    refine wp_region_tableG (β := Unit) (fun _ => #[.string (mkS l), undef, .bool true, .pointer (some ⟨B1, 0, none⟩), .int .u8 1, .pointer (some ⟨B3, 0, none⟩), .bool false, .string (mkS l), .int .i64 l.length, .bool false, .string (mkS l), .int .i64 l.length, .bool false, undef, .tuple #[.agg cs, .int .u8 1], .string (mkS l), .tuple #[.agg cs, .int .u8 1], .agg cs, .int .u8 1, .int .u8 1, .bool false, undef, .tuple #[.agg ruleZ0, .bool false], .string (mkS l), .tuple #[.agg ruleZ0, .bool false], .agg ruleZ0, .bool false, .bool true, .bool true, .bool false, .int .u8 1, .bool false, .bool true, .bool true, .bool true, .bool false, .bool true, .bool true, undef, undef, undef, undef, .bool true, .bool true]) (fun _ _ W => Good W ∧ Below w.heap.size w W) 44 (fun _ => rfl) rfl (by kernel_rfl) () rfl [2, 27, 28, 29, 30, 31, 32, 33, 34, 35, 36, 37, 38, 39, 40, 41, 42, 43] (by kernel_rfl) (by kernel_rfl) (⟨hK0.out.1.below (Below.refl _ _).drew, hK0.out.2.trans ((Below.refl _ _).drew.mono hK0.out.2.size)⟩) ?hs ?hdone
    case hs =>
      refine ⟨.inl ⟨fun _ => rfl, StepF.of (fun b listed w1 hB hf hdep K' Q' hK' => ?_)⟩, ?_⟩
      · clear hf hdep
        go_simp
        go_at_call 19
        refine (H19.out _ hB.1).mono ?_
        rintro e w2 ⟨rfl, hb2⟩
        try dsimp only
        refine hK'.out _ _ ⟨rfl, b, fun _ _ => rfl, fun d e => (by cases e; rfl), ⟨hB.1.below hb2, hB.2.trans (hb2.mono hB.2.size)⟩⟩
      refine ⟨.inl ⟨fun _ => rfl, StepF.of (fun b listed w1 hB hf hdep K' Q' hK' => ?_)⟩, ?_⟩
      · clear hf hdep
        go_simp
        refine hK'.out _ _ ⟨rfl, b, fun _ _ => rfl, fun d e => (by cases e; rfl), hB⟩
      refine ⟨.inl ⟨fun _ => rfl, StepF.of (fun b listed w1 hB hf hdep K' Q' hK' => ?_)⟩, ?_⟩
      · clear hf hdep
        go_simp
        refine hK'.out _ _ ⟨rfl, b, fun _ _ => rfl, fun d e => (by cases e; rfl), hB⟩
      refine ⟨.inl ⟨fun _ => rfl, StepF.of (fun b listed w1 hB hf hdep K' Q' hK' => ?_)⟩, ?_⟩
      · clear hf hdep
        go_simp
        refine hK'.out _ _ ⟨rfl, b, fun _ _ => rfl, fun d e => (by cases e; rfl), hB⟩
      refine ⟨.inl ⟨fun _ => rfl, StepF.of (fun b listed w1 hB hf hdep K' Q' hK' => ?_)⟩, ?_⟩
      · clear hf hdep
        go_simp
        refine hK'.out _ _ ⟨rfl, b, fun _ _ => rfl, fun d e => (by cases e; rfl), hB⟩
      refine ⟨.inl ⟨fun _ => rfl, StepF.of (fun b listed w1 hB hf hdep K' Q' hK' => ?_)⟩, ?_⟩
      · clear hf hdep
        go_simp
        refine hK'.out _ _ ⟨rfl, b, fun _ _ => rfl, fun d e => (by cases e; rfl), hB⟩
      refine ⟨.inl ⟨fun _ => rfl, StepF.of (fun b listed w1 hB hf hdep K' Q' hK' => ?_)⟩, ?_⟩
      · clear hf hdep
        go_simp
        refine hK'.out _ _ ⟨rfl, b, fun _ _ => rfl, fun d e => (by cases e; rfl), hB⟩
      refine ⟨.inl ⟨fun _ => rfl, StepF.of (fun b listed w1 hB hf hdep K' Q' hK' => ?_)⟩, ?_⟩
      · clear hf hdep
        go_simp
        refine hK'.out _ _ ⟨rfl, b, fun _ _ => rfl, fun d e => (by cases e; rfl), hB⟩
      refine ⟨.inl ⟨fun _ => rfl, StepF.of (fun b listed w1 hB hf hdep K' Q' hK' => ?_)⟩, ?_⟩
      · clear hf hdep
        go_simp
        refine hK'.out _ _ ⟨rfl, b, fun _ _ => rfl, fun d e => (by cases e; rfl), hB⟩
      refine ⟨.inl ⟨fun _ => rfl, StepF.of (fun b listed w1 hB hf hdep K' Q' hK' => ?_)⟩, ?_⟩
      · clear hf hdep
        go_simp
        refine hK'.out _ _ ⟨rfl, b, fun _ _ => rfl, fun d e => (by cases e; rfl), hB⟩
      refine ⟨.inl ⟨fun _ => rfl, StepF.of (fun b listed w1 hB hf hdep K' Q' hK' => ?_)⟩, ?_⟩
      · clear hf hdep
        go_simp
        refine hK'.out _ _ ⟨rfl, b, fun _ _ => rfl, fun d e => (by cases e; rfl), hB⟩
      refine ⟨.inr ⟨fun _ => rfl, fun b listed w1 hB hls hf => ⟨fun d e => (by cases e; rfl), hB⟩⟩, ?_⟩
      refine ⟨.inr ⟨fun _ => rfl, fun b listed w1 hB hls hf => ⟨fun d e => (by cases e; rfl), hB⟩⟩, ?_⟩
      refine ⟨.inr ⟨fun _ => rfl, fun b listed w1 hB hls hf => ⟨fun d e => (by cases e; rfl), hB⟩⟩, ?_⟩
      refine ⟨.inr ⟨fun _ => rfl, fun b listed w1 hB hls hf => ⟨fun d e => (by cases e; rfl), hB⟩⟩, ?_⟩
      refine ⟨.inl ⟨fun _ => rfl, StepF.of (fun b listed w1 hB hf hdep K' Q' hK' => ?_)⟩, ?_⟩
      · clear hf hdep
        go_simp
        refine hK'.out _ _ ⟨rfl, b, fun _ _ => rfl, fun d e => (by cases e; rfl), hB⟩
      refine ⟨.inl ⟨fun _ => rfl, StepF.of (fun b listed w1 hB hf hdep K' Q' hK' => ?_)⟩, ?_⟩
      · clear hf hdep
        go_simp
        refine hK'.out _ _ ⟨rfl, b, fun _ _ => rfl, fun d e => (by cases e; rfl), hB⟩
      refine ⟨.inl ⟨fun _ => rfl, StepF.of (fun b listed w1 hB hf hdep K' Q' hK' => ?_)⟩, ?_⟩
      · clear hf hdep
        go_simp
        refine hK'.out _ _ ⟨rfl, b, fun _ _ => rfl, fun d e => (by cases e; rfl), hB⟩
      trivial
    case hdone =>
      intro b listed w5 hK hall
      clear hall
      go_wp2
      go_ret
      exact ⟨rfl, hK.2⟩
  | right r =>
    obtain ⟨o, hO, hrel⟩ := hag
    subst hO
    have H20 : Hid (Calls Tryz.prog 20 #[.string (mkS l)] w fun e w' => ∃ cs : Array Value, e = .returned (.tuple #[.agg cs, .int .u8 0]) ∧ cs.size = 18 ∧ cs.all (·.oneCell') = true ∧ Below w.heap.size w w' ∧ ∀ r', Out.right r = .right r' → RuleIs w' (.agg cs) r') := H20
    have hgo := hgg o rfl
    have HLN := Lib.hid (hgo.len (by omega))
    have h21' : ∀ w, Good w → Calls Tryz.prog 21 #[.string (mkS l)] w fun e w' => Below w.heap.size w w' ∧ ∃ v, e = .returned (.tuple #[v, .bool true]) ∧ RuleIs w' v (ruleOf o) := h21
    have hro := hrel.eq
    rw [hro] at h21' HLN
    have H21 := Lib.hid h21'
    clear h21 h21' hgg hgo hrel hro
    go_enter Tryz.func3, Tryz.ntmps3
    go_upto_region 9 with (first
      | (go_at_call 20; go_must (refine H20.out.mono ?_; rintro e w1 ⟨cs, rfl, hcs, hone, hb1, hv1⟩; have HCS := Lib.hid hcs; clear hcs; have HV1 := Lib.hid (hv1 r rfl); clear hv1; have hb3 : Below w.heap.size w (w1.alloc (.cells cs 26)) := hb1.trans (((Below.refl _ _).alloc (Nat.le_refl _) _).mono hb1.size); have hg3 := HG.out.below hb3))
      | (refine Great.wpList_runTo rfl (some 3) rfl _ _ (run_al26 _ _ rfl _) ?_)
      | (refine wpList_store_fresh rfl 26 _ _ rfl ruleZ0 cs rfl rfl (by rw [HCS.out]; as_aux_lemma => kernel_rfl) (by rw [HCS.out]; rfl) hone ?_)
      | (go_at_call 21; go_must (refine (H21.out _ hg3).mono ?_; rintro e w4 ⟨hb4, v4, rfl, hv4⟩; obtain ⟨ds, rfl, hds, hone2⟩ := ruleVal_cells hv4; have HDS := Lib.hid hds; clear hds; have HV4 := Lib.hid hv4; clear hv4))
      | (refine Great.wpList_runTo rfl (some 5) rfl _ _ (run_al31 _ _ rfl _) ?_)
      | (refine wpList_store_fresh rfl 31 _ _ rfl ruleZ0 ds rfl rfl (by rw [HDS.out]; as_aux_lemma => kernel_rfl) (by rw [HDS.out]; rfl) hone2 ?_)
      | (fail))
    have hal1 : Below w1.heap.size w1 (w1.alloc (.cells cs 26)) := (Below.refl _ _).alloc (Nat.le_refl _) _
    have hb5 : Below w.heap.size w w4 := hb3.trans (hb4.mono hb3.size)
    have hal4 : Below w4.heap.size w4 (w4.alloc (.cells ds 31)) := (Below.refl _ _).alloc (Nat.le_refl _) _
    have hb6 : Below w.heap.size w (w4.alloc (.cells ds 31)) := hb5.trans (hal4.mono hb5.size)
    have hA : RowAt (w4.alloc (.cells ds 31)) w1.heap.size 26 cs.toList := by
      have h0 : RowAt (w1.alloc (.cells cs 26)) w1.heap.size 26 cs.toList := ⟨by rw [heap_alloc_new]⟩
      exact (h0.below hb4).below hal4
    have hB : RowAt (w4.alloc (.cells ds 31)) w4.heap.size 31 ds.toList := ⟨by rw [heap_alloc_new]⟩
    have hK0 : (∀ i, (w4.alloc (.cells ds 31)).cell? ⟨w1.heap.size, i, none⟩ = cs[i]?) ∧ (∀ i, (w4.alloc (.cells ds 31)).cell? ⟨w4.heap.size, i, none⟩ = ds[i]?) ∧ Two w (w4.alloc (.cells ds 31)) w1.heap.size w4.heap.size cs ds r :=
      ⟨fun i => by rw [hA.cells]; simp, fun i => by rw [hB.cells]; simp, hA.lt, hB.lt, hb6, ((HV1.out.below hal1).below hb4).below hal4, HV4.out.below hal4⟩
    have hcs := HCS.out
    have hds := HDS.out
    have HL1 : ∀ W : World, (∀ i, W.cell? ⟨w1.heap.size, i, none⟩ = cs[i]?) → (lockLoad ⟨w1.heap.size, 0, none⟩ 18).run Tryz.prog W = .ok cs W := fun W h => lockLoad_arr cs 18 hcs h
    have HL3 : ∀ W : World, (∀ i, W.cell? ⟨w4.heap.size, i, none⟩ = ds[i]?) → (lockLoad ⟨w4.heap.size, 0, none⟩ 18).run Tryz.prog W = .ok ds W := fun W h => lockLoad_arr ds 18 hds h
    clear hal1 hal4 hA hB hb3 hb4 hb5 hb6 hg3 hb1 HV1 HV4 hcs hds HCS HDS hone hone2
    generalize w4.alloc (.cells ds 31) = Wf at *
    generalize w4.heap.size = B3 at *
    generalize w1.heap.size = B1 at *
    obtain ⟨hc1, hc3, hkw⟩ := hK0
    as_aux_lemma =>
      go_region_held3 (fun w' => (∀ i, w'.cell? ⟨B1, i, none⟩ = cs[i]?) ∧ (∀ i, w'.cell? ⟨B3, i, none⟩ = ds[i]?) ∧ Two w w' B1 B3 cs ds r) (first
        | (with_reducible assumption)
        | (with_reducible exact two_drew ⟨hc1, hc3, hkw⟩)
        | (with_reducible exact two_drew (by assumption)))
        (first
        | (go_at_call 19; refine (H19.out _ (HG.out.below (two_hb (B1 := B1) (B3 := B3) (L1 := cs) (L3 := ds) (r := r) (w := w) (by with_reducible first | assumption | exact two_drew ⟨hc1, hc3, hkw⟩)))).mono ?_; rintro e w7 ⟨rfl, hb7⟩; have hKb := two_call (by with_reducible first | assumption | exact two_drew ⟨hc1, hc3, hkw⟩) hb7)
        | (go_at_call 23; refine (conv23 r _ _ (two_r3 (B1 := B1) (B3 := B3) (L1 := cs) (L3 := ds) (w := w) (by with_reducible first | assumption | exact two_drew ⟨hc1, hc3, hkw⟩)) HLN.out.out.1).mono ?_; rintro e w8 ⟨v7, rfl, hv7, hb8⟩; have hKc := two_call (by with_reducible first | assumption | exact two_drew ⟨hc1, hc3, hkw⟩) hb8)
        | (go_at_call 22; refine (same_any r _ _ _ hv7 (two_r1 (B1 := B1) (B3 := B3) (L1 := cs) (L3 := ds) (w := w) (by with_reducible assumption)) HLN.out.out).mono ?_; rintro e w9 ⟨rfl, hb9⟩; have hKd := two_call (by with_reducible assumption) hb9))
      all_goals
        go_wp2
        go_ret
        exact ⟨rfl, hKd.2.2.k.hb⟩
end Go.Proofs.YtcfbkkcamiephaaGreatDoor
