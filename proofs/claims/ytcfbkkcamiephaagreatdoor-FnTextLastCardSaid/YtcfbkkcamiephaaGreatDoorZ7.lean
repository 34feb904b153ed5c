import Derived.Test.YtcfbkkcamiephaaGreatDoorBv
import Derived.Test.YtcfbkkcamiephaaGreatDoorQ3
import Derived.Deep.AppendLies
import Derived.Deep.RegionLaw
import Derived.Test.YtcfbkkcamiephaaGreatDoorZ3
namespace Go.Proofs.YtcfbkkcamiephaaGreatDoor
open Go.RowKit

/-! ### textTurned: parts in another order -/
theorem flatP_len (P : List Part) : (flatP P).length = P.length * 2 := by
  induction P with
  | nil => rfl
  | cons p r ih =>
    have e : flatP (p :: r) = strV p.1 :: strV p.2 :: flatP r := rfl
    rw [e, List.length_cons, List.length_cons, ih, List.length_cons]; omega
theorem flatP_app (A B : List Part) : flatP (A ++ B) = flatP A ++ flatP B := by simp [flatP]
theorem flatP_take (P : List Part) (k : Nat) : (flatP P).take (k * 2) = flatP (P.take k) := by
  induction P generalizing k with
  | nil => simp [flatP]
  | cons p r ih =>
    cases k with
    | zero => rfl
    | succ k =>
      have e : flatP (p :: r) = strV p.1 :: strV p.2 :: flatP r := rfl
      rw [e, show (k + 1) * 2 = k * 2 + 1 + 1 by omega, List.take_succ_cons, List.take_succ_cons, ih, List.take_succ_cons]
      rfl
/-- the first k parts are owned, too -/
theorem own_take {w : World} {B : Nat} {g c : Nat} {P : List Part} (h : w.ownsRow B 46 2 (.slice (some ⟨g, 0, none⟩) P.length c) P.length (flatP P)) (k : Nat) (hk : k ≤ P.length) : w.ownsRow B 46 2 (.slice (some ⟨g, 0, none⟩) k c) k (flatP (P.take k)) := by
  obtain ⟨h1, h2⟩ := h
  rcases h2 with ⟨hv, h0⟩ | ⟨g', cap, cur, hv, hb, hh, hc, hm, hs, ht⟩
  · cases hv
  · injection hv with hv0 hv1 hv2
    subst hv2
    injection hv0 with hv0
    injection hv0 with hv0
    subst hv0
    refine ⟨by rw [flatP_len, List.length_take, Nat.min_eq_left hk], .inr ⟨g, c, cur, rfl, hb, hh, by omega, hm, hs, ?_⟩⟩
    rw [← flatP_take, ← ht, List.take_take, Nat.min_eq_left (by omega)]
/-- a part that is appended lies in the block that was there, or in a new one -/
theorem app_apart {w w' : World} {B n : Nat} {v v' : Value} {xs : List Value} {ty : TypeId} (hown : w.ownsRow B 46 2 v n xs) (a : Addr) (c : Nat) (news : List Value) (hl : news.length = 1 * 2) (hnews : ∀ j u, news[j]? = some u → w.cell? (a.add j) = some u) (h1 : ∀ u ∈ news, u.oneCell' = true) (hn : n ≤ 100000)
    (hr : (Builtin.append_ #[43, 43] ty #[v, .slice (some a) 1 c]).run Tryz.prog w = .ok v' w') : v'.ownBlock = v.ownBlock ∨ v'.ownBlock = some w.heap.size := by
  obtain ⟨i0, hi, hz0, hz1, hz2⟩ := info_parts Tryz.info46
  have hl' : news.length = 1 * i0.size := by rw [hz1]; exact hl
  have hown' := hown
  rcases hown.2 with ⟨rfl, rfl⟩ | ⟨g, cap, cur, rfl, hbg, hg, hnc, hcm, hcs, htake⟩
  · rw [run_append_nil (P := Tryz.prog) w 43 ty 46 i0 _ Tryz.u43 hi hz0 a 1 c news hl' hnews (by omega) (by omega) (by rw [hz2]; omega)] at hr
    injection hr with e1 e2
    rw [← e1]
    exact .inr rfl
  · by_cases hroom : n + 1 ≤ cap
    · rw [run_append_room (P := Tryz.prog) w 43 ty 46 i0 Tryz.u43 hi g n cap cur hg a 1 c news hl' hnews h1 hroom (by rw [hz1, hl, hcs]; omega)] at hr
      injection hr with e1 e2
      rw [← e1]
      exact .inl rfl
    · have holds : ∀ j u, xs[j]? = some u → w.cell? ((⟨g, 0, none⟩ : Addr).add j) = some u := hown'.cells (g := g) rfl
      rw [run_append_grow (P := Tryz.prog) w 43 ty 46 i0 _ Tryz.u43 hi hz0 ⟨g, 0, none⟩ n cap xs (by rw [hz1]; exact hown'.1) holds a 1 c news hl' hnews (by omega) (by omega) (growslice_fits (by omega) (by rw [hz2]; omega))] at hr
      injection hr with e1 e2
      rw [← e1]
      exact .inr rfl
/-- the order that numbers choose -/
def turnL : List Nat → List Part → Nat → List Part
  | _, _, 0 => []
  | os, P, n + 1 =>
    let k := match os with | [] => 0 | x :: _ => x % P.length
    (P.take (k + 1)).drop k ++ turnL os.tail (P.eraseIdx k) n
end Go.Proofs.YtcfbkkcamiephaaGreatDoor
namespace Go.Proofs.YtcfbkkcamiephaaGreatDoor
open Go.RowKit

attribute [local go_sem ↓] Go.wp_at_zero Go.wp_at_succ
theorem part_news {w : World} {g gq : Nat} {P : List Part} (h : PartRow w g gq P) : ∀ j u, (flatP P)[j]? = some u → w.cell? ((⟨g, gq, none⟩ : Addr).add j) = some u := fun j u hu => by
  have hj : j < (flatP P).length := (List.getElem?_eq_some_iff.1 hu).1
  rw [flatP_len] at hj
  have hadd : (⟨g, gq, none⟩ : Addr).add j = ⟨g, gq + j, none⟩ := by unfold Addr.add; split <;> simp_all
  rw [hadd]
  have hi : j / 2 < P.length := by omega
  have hc := h.cell (j / 2) P[j / 2] (List.getElem?_eq_getElem hi)
  obtain ⟨e0, e1⟩ := flatP_at P (j / 2) P[j / 2] (List.getElem?_eq_getElem hi)
  rcases Nat.mod_two_eq_zero_or_one j with hm | hm
  · have e : j / 2 * 2 = j := by omega
    rw [e] at e0 hc
    rw [hc.1, ← hu, e0]
  · have e : j / 2 * 2 + 1 = j := by omega
    rw [e] at e1
    rw [show gq + j = gq + j / 2 * 2 + 1 by omega, hc.2, ← hu, e1]
theorem flatP_one (P : List Part) : ∀ u ∈ flatP P, u.oneCell' = true := fun u hu => by
  unfold flatP at hu
  obtain ⟨p, _, hp⟩ := List.mem_flatMap.1 hu
  simp only [encP, List.mem_cons, List.not_mem_nil, or_false] at hp
  rcases hp with rfl | rfl <;> rfl
theorem flatP_drop (P : List Part) (k : Nat) : (flatP P).drop (k * 2) = flatP (P.drop k) := by
  rcases Nat.lt_or_ge P.length k with h | h
  · rw [List.drop_eq_nil_of_le (by rw [flatP_len]; omega), List.drop_eq_nil_of_le (by omega)]; rfl
  · have e := flatP_app (P.take k) (P.drop k)
    rw [List.take_append_drop] at e
    rw [e]
    have hl : (flatP (P.take k)).length = k * 2 := by rw [flatP_len, List.length_take, Nat.min_eq_left h]
    rw [← hl, List.drop_left]
theorem own_cells {W : World} {B g c : Nat} {L : List Part} (h : W.ownsRow B 46 2 (.slice (some ⟨g, 0, none⟩) L.length c) L.length (flatP L)) (j : Nat) (u : Value) (hu : (flatP L)[j]? = some u) : W.cell? ⟨g, j, none⟩ = some u := by
  have hadd : (⟨g, 0, none⟩ : Addr).add j = ⟨g, j, none⟩ := by unfold Addr.add; split <;> simp_all
  rw [← hadd]
  exact h.cells (g := g) rfl j u hu
set_option maxRecDepth 100000 in
/-- a part is taken out of a list of parts, in place -/
theorem step_cut {ops : Array Oper} {o : Oper} {a : Act} {K : Act → World → Prop} {Q : Exit → Act → World → Prop} {E : Prop} {W : World} {B g c k m mc : Nat} {L : List Part} {A : Addr} (s z : Operand)
    (h : W.ownsRow B 46 2 (.slice (some ⟨g, 0, none⟩) L.length c) L.length (flatP L)) (hk : k < L.length) (hm : m = L.length - (k + 1)) (hl : L.length ≤ 1000) (hbase : B ≤ W.heap.size) (hA : 0 < m → A = ⟨g, (k + 1) * 2, none⟩)
    (hgd : o.guard = none) (ho : o.op = .call { callee := .builtin .append, args := #[s, z], argTypes := #[43, 43] }) (hs : a.eval s = .slice (some ⟨g, 0, none⟩) k c) (hx : a.eval z = .slice (some A) m mc)
    (h' : ∀ w1, w1.ownsRow B 46 2 (.slice (some ⟨g, 0, none⟩) (k + m) c) (k + m) (flatP (L.take k ++ L.drop (k + 1))) → W.grownBy w1 (some g) → K (a.put o.dst (.slice (some ⟨g, 0, none⟩) (k + m) c)) w1) :
    if Region.wanted o (yielded ops a.tmps) = true then Oper.wp Tryz.prog o a W K Q else E := by
  have hw : Region.wanted o (yielded ops a.tmps) = true := by simp [Region.wanted, hgd]
  rw [if_pos hw]
  obtain ⟨i0, hi, hz0, hz1, hz2⟩ := info_parts Tryz.info46
  have hown := own_take h k (by omega)
  have hnl : (flatP (L.drop (k + 1))).length = m * 2 := by rw [flatP_len, List.length_drop, hm]
  have hnews : ∀ j u, (flatP (L.drop (k + 1)))[j]? = some u → W.cell? (A.add j) = some u := fun j u hu => by
    have hj : j < (flatP (L.drop (k + 1))).length := (List.getElem?_eq_some_iff.1 hu).1
    rw [hnl] at hj
    rw [hA (by omega)]
    have hadd : (⟨g, (k + 1) * 2, none⟩ : Addr).add j = ⟨g, (k + 1) * 2 + j, none⟩ := by unfold Addr.add; split <;> simp_all
    rw [hadd]
    refine own_cells h _ u ?_
    rw [← flatP_drop, List.getElem?_drop] at hu
    exact hu
  obtain ⟨v', w', hr, ho1, hg1, _⟩ := run_append_own (P := Tryz.prog) W B 43 o.type 46 i0 _ 2 32 Tryz.u43 hi hz0 hz1 hz2 rfl (by omega) _ k (flatP (L.take k)) hown A m mc (flatP (L.drop (k + 1))) hnl hnews (flatP_one _) (by simp only [maxLen]; omega) (by omega) hbase
  obtain ⟨cur, hcur, hcc, hcs⟩ : ∃ cur, W.heap[g]? = some (.cells cur 46 (0, 0)) ∧ L.length ≤ c ∧ cur.size = c * 2 := by
    rcases h.2 with ⟨hv, _⟩ | ⟨g', cap, cur, hv, hb, hh, hc, hmx, hs, ht⟩
    · cases hv
    · injection hv with hv0 hv1 hv2
      injection hv0 with hv0
      injection hv0 with hv0
      subst hv2
      subst hv0
      exact ⟨cur, hh, hc, hs⟩
  have hr2 := run_append_room (P := Tryz.prog) W 43 o.type 46 i0 Tryz.u43 hi g k c cur hcur A m mc (flatP (L.drop (k + 1))) (by rw [hz1]; exact hnl) hnews (flatP_one _) (by omega) (by rw [hz1, hnl, hcs]; omega)
  have hv : v' = .slice (some ⟨g, 0, none⟩) (k + m) c := by
    have e := hr.symm.trans hr2
    injection e with e1 _
  subst hv
  rw [← flatP_app] at ho1
  have hK := h' w' ho1 hg1
  unfold Oper.wp
  simp [execOp, ho, resolve, invoke, builtin, hs, hx, hr, Result.andThen]
  exact hK
structure TurnSt (w W : World) (g1 c1 : Nat) (vo : Value) (L O P : List Part) : Prop where
  hb : Below w.heap.size w W
  ownL : W.ownsRow w.heap.size 46 2 (.slice (some ⟨g1, 0, none⟩) L.length c1) L.length (flatP L)
  ownO : W.ownsRow w.heap.size 46 2 vo O.length (flatP O)
  ne : vo.ownBlock ≠ some g1
  perm : (O ++ L).Perm P
theorem TurnSt.lc {w W : World} {g1 c1 : Nat} {vo : Value} {L O P : List Part} (h : TurnSt w W g1 c1 vo L O P) : L.length ≤ c1 := by
  rcases h.ownL.2 with ⟨hv, _⟩ | ⟨g', cap, cur, hv, hb, hh, hc, hmx, hs, ht⟩
  · cases hv
  · injection hv with hv0 hv1 hv2
    subst hv2
    exact hc
theorem perm_move (O L : List Part) (k : Nat) (hk : k < L.length) : ((O ++ [L[k]]) ++ (L.take k ++ L.drop (k + 1))).Perm (O ++ L) := by
  have e : L = L.take k ++ L[k] :: L.drop (k + 1) := by
    rw [← List.drop_eq_getElem_cons hk, List.take_append_drop]
  rw [List.append_assoc]
  refine List.Perm.append_left O ?_
  rw [List.singleton_append]
  refine (List.perm_middle.symm).trans ?_
  rw [← e]
def lenV : Value → Nat
  | .slice _ n _ => n
  | _ => 0
set_option maxRecDepth 100000 in
set_option maxHeartbeats 3200000 in
/-- textTurned: the parts in another order. -/
theorem turned_any (P : List Part) (os : List Nat) (v vo : Value) (w : World) (hv : PartsV w v P) (hvo : BytesV w vo os) (hP : 0 < P.length) (hl : P.length ≤ 1000) (_hos : os.length ≤ 2147483647) (ho8 : ∀ x ∈ os, x ≤ 255) :
    Calls Tryz.prog 34 #[v, vo] w fun e w' => ∃ v' P', e = .returned v' ∧ P'.Perm P ∧ PartsV w' v' P' ∧ Below w.heap.size w w' := by
  obtain ⟨a, c, rfl, hr⟩ := hv
  obtain ⟨ao, co, rfl, hro⟩ := hvo
  have HRO := Lib.hid hro
  have HO8 := Lib.hid ho8
  obtain ⟨g, gq, rfl, hg⟩ : ∃ g gq, a = some ⟨g, gq, none⟩ ∧ PartRow w g gq P := by
    rcases hr with h | h
    · rw [h] at hP; cases hP
    · exact h
  have hal : Below w.heap.size w (w.alloc (.cells #[] 46)) := (Below.refl _ _).alloc (Nat.le_refl _) _
  have HN := Lib.hid (part_news (hg.below hal))
  have HAL := Lib.hid hal
  have HO : Hid ((w.alloc (.cells #[] 46)).ownsRow w.heap.size 46 2 (.slice (some ⟨w.heap.size, 0, none⟩) 0 0) 0 []) := Lib.hid ⟨rfl, .inr ⟨w.heap.size, 0, #[], rfl, Nat.le_refl _, heap_alloc_new _ _, Nat.le_refl _, by decide, rfl, rfl⟩⟩
  obtain ⟨i0, hi, hz0, hz1, hz2⟩ := info_parts Tryz.info46
  clear hr hro hg hal ho8
  go_enter Tryz.func34, Tryz.ntmps34
  go_upto_region 3 with (first
    | (at_builtin; go_must (refine wpList_append_lies (w.alloc (.cells #[] 46)) rfl (.tmp 8) (.tmp 9) 43 rfl w.heap.size 46 i0 _ 2 32 Tryz.u43 hi hz0 hz1 hz2 rfl (by omega) (.slice (some ⟨w.heap.size, 0, none⟩) 0 0) 0 [] rfl HO.out ⟨g, gq, none⟩ P.length c (flatP P) rfl (flatP_len P) HN.out (flatP_one P) hP (by simp only [maxLen]; omega) (by omega) (by simp) _ rfl (fun g1 c1 w2 h1 h2 _ _ => ?_)))
    | (fail))
  have HS0 : Hid (TurnSt w w2 g1 c1 (.slice none 0 0) P [] P) := Lib.hid ⟨HAL.out.grown h2 HAL.out.size (fun k hk => (HO.out.lt k hk).1), by have := h1; rw [Nat.zero_add, List.nil_append] at this; exact this, World.ownsRow_nil _ _ _ _, by simp [Value.ownBlock], .refl _⟩
  clear h1 h2 HN HO HAL
  go_wp2_with fail
  go_loopw [0, 5, 6] (fun l ov i wr => ∃ L O c1, l = .slice (some ⟨g1, 0, none⟩) L.length c1 ∧ i = .int .i64 (O.length : Int) ∧ Hid (TurnSt w wr g1 c1 ov L O P)) (fun l _ _ _ => lenV l)
  case atStart => exact ⟨P, [], c1, rfl, rfl, HS0⟩
  case round =>
  clear HS0
  obtain ⟨L, O, c1, rfl, rfl, HS⟩ := hrel
  by_cases hlt : 0 < L.length
  case neg =>
    have hL : L = [] := List.eq_nil_of_length_eq_zero (by omega)
    subst hL
    go_wp2
    go_ret
    exact ⟨_, O, rfl, by have := HS.out.perm; rw [List.append_nil] at this; exact this, parts_own HS.out.ownO, HS.out.hb⟩
  have hsum : O.length + L.length = P.length := by
    have := HS.out.perm.length_eq
    rw [List.length_append] at this
    exact this
  have hlt2 : (0 : Int) < (L.length : Int) := by omega
  have hz : ((L.length : Int) == 0) = false := beq_eq_false_iff_ne.2 (by omega)
  have hLc := HS.out.lc
  go_upto_if 19 with fail
  go_cut [7] from 11 to 42 (fun kv wx => ∃ k : Nat, kv = .int .i64 (k : Int) ∧ k < L.length ∧ wx = wr)
  case first =>
    by_cases hio : O.length < os.length
    · obtain ⟨go, gp, rfl, hgo⟩ : ∃ g gq, ao = some ⟨g, gq, none⟩ ∧ ByteRowQ w g gq os := by
        rcases HRO.out with h | h
        · rw [h] at hio; cases hio
        · exact h
      have hcx := (hgo.below HS.out.hb).cell O.length os[O.length] (by simp [hio])
      have hx8 := HO8.out _ (List.getElem_mem hio)
      generalize os[O.length] = x at hcx hx8
      have hwx : wrap64 (x : Int) = (x : Int) := IntWalk.wrap64_in _ (by omega)
      obtain ⟨k, hk, hrem⟩ : ∃ k : Nat, k < L.length ∧ Int.tmod (x : Int) (L.length : Int) = (k : Int) := ⟨x % L.length, Nat.mod_lt _ hlt, rfl⟩
      clear hgo
      go_wp2
      go_meet
      exact ⟨k, rfl, hk, rfl⟩
    · go_wp2
      go_meet
      exact ⟨0, rfl, hlt, rfl⟩
  case rest =>
  obtain ⟨k, rfl, hk, rfl⟩ := hcut
  have hLP : L.length ≤ 1000 := by omega
  have hOP : O.length ≤ 1000 := by omega
  have hP0 := flatP_at L k L[k] (List.getElem?_eq_getElem hk)
  have hc0 := own_cells HS.out.ownL (k * 2) _ hP0.1
  have hc1 := own_cells HS.out.ownL (k * 2 + 1) _ hP0.2
  have HPM := Lib.hid ((perm_move O L k hk).trans HS.out.perm)
  clear hP0
  generalize L[k] = p at hc0 hc1 HPM
  obtain ⟨p1, p2⟩ := p
  simp only at hc0 hc1
  have hal : Below wc.heap.size wc (wc.alloc (.cells #[strV p1, strV p2] 46)) := (Below.refl _ _).alloc (Nat.le_refl _) _
  have HOA := Lib.hid (own_call HS.out.ownO hal)
  have HLA := Lib.hid (own_call HS.out.ownL hal)
  have HBA : Hid (Below w.heap.size w (wc.alloc (.cells #[strV p1, strV p2] 46))) := Lib.hid (HS.out.hb.trans (hal.mono HS.out.hb.size))
  have HNW : Hid (∀ j u, [strV p1, strV p2][j]? = some u → (wc.alloc (.cells #[strV p1, strV p2] 46)).cell? ((⟨wc.heap.size, 0, none⟩ : Addr).add j) = some u) := Lib.hid (World.news_of_block (cs := #[strV p1, strV p2]) (t := 46) (fr := (0, 0)) (heap_alloc_new wc _))
  have HG1 : Hid (g1 < wc.heap.size) := Lib.hid (HS.out.ownL.lt g1 rfl).2
  have HNE := Lib.hid HS.out.ne
  clear hal HS
  go_upto_region 10 with (first
    | (at_builtin; go_must (refine wpList_append_lies (wc.alloc (.cells #[strV p1, strV p2] 46)) rfl (.tmp 28) (.tmp 33) 43 rfl w.heap.size 46 i0 _ 2 32 Tryz.u43 hi hz0 hz1 hz2 rfl (by omega) _ O.length (flatP O) rfl HOA.out ⟨wc.heap.size, 0, none⟩ 1 1 [strV p1, strV p2] rfl rfl HNW.out (by simp [strV, Value.oneCell']) (by omega) (by simp only [maxLen]; omega) (by omega) HBA.out.size _ rfl (fun g5 c5 w3 h1 h2 h3 _ => ?_)))
    | (fail))
  have HL3 : Hid (w3.drew.ownsRow w.heap.size 46 2 (.slice (some ⟨g1, 0, none⟩) L.length c1) L.length (flatP L)) := Lib.hid (World.ownsRow.drew (HLA.out.kept h2 (.inr (fun e => HNE.out e.symm))))
  have HO3 : Hid (w3.drew.ownsRow w.heap.size 46 2 (.slice (some ⟨g5, 0, none⟩) (O.length + 1) c5) (O.length + 1) (flatP (O ++ [(p1, p2)]))) := Lib.hid (World.ownsRow.drew (by rw [flatP_snoc]; exact h1))
  have HN3 : Hid (g5 ≠ g1) := Lib.hid (fun e => by
    rcases h3 with h3 | h3
    · exact HNE.out (h3.trans (by rw [e]))
    · have := HG1.out
      simp at h3
      omega)
  have HB3 : Hid (Below w.heap.size w w3.drew) := Lib.hid (Below.drew (HBA.out.grown h2 HBA.out.size (fun k hk => (HOA.out.lt k hk).1)))
  clear h1 h2 h3 HNW HOA HLA HBA HG1 HNE hc0 hc1
  obtain ⟨A, hA1, HA2⟩ : ∃ A : Addr, (if c1 = k + 1 then some (⟨g1, 0, none⟩ : Addr) else some ⟨g1, (k + 1) * 2, none⟩) = some A ∧ Hid (0 < L.length - (k + 1) → A = ⟨g1, (k + 1) * 2, none⟩) := by
    by_cases h : c1 = k + 1
    · exact ⟨⟨g1, 0, none⟩, by rw [if_pos h], Lib.hid (fun h0 => by omega)⟩
    · exact ⟨⟨g1, (k + 1) * 2, none⟩, by rw [if_neg h], Lib.hid (fun _ => rfl)⟩
  have hwr : IntKind.i64.wrap ((k : Int) + 1) = (k : Int) + 1 := by rw [IntKind.wrap_i64]; omega
  have hp0 : (0 : Int) ≤ (k : Int) + 1 := by omega
  have hp1 : (k : Int) + 1 ≤ (L.length : Int) := by omega
  have hp2 : ((k : Int) + 1).toNat = k + 1 := by omega
  have hkc : k ≤ c1 := by omega
  have HLn : Hid ((L.take k ++ L.drop (k + 1)).length = k + (L.length - (k + 1))) := Lib.hid (by rw [List.length_append, List.length_take, List.length_drop]; omega)
  have hOl : (O ++ [(p1, p2)]).length = O.length + 1 := by simp
  go_region_law (refine step_cut (W := w3.drew) (B := w.heap.size) (g := g1) (c := c1) (k := k) (L := L) (A := A) (m := L.length - (k + 1)) (mc := c1 - (k + 1)) (.tmp 37) (.tmp 41) HL3.out hk (Eq.refl _) hLP HB3.out.size HA2.out (Eq.refl _) (Eq.refl _) (by simp [Act.eval, Act.put]) (by simp [Act.eval, Act.put]) ?_; intro w4 hown4 hg4)
  all_goals
    go_wp2
    go_roundw
    case rel =>
      refine ⟨L.take k ++ L.drop (k + 1), O ++ [(p1, p2)], c1, by rw [HLn.out], by rw [hOl]; go_num, Lib.hid ⟨HB3.out.grown hg4 HB3.out.size (fun j hj => (HL3.out.lt j hj).1), by rw [HLn.out]; exact hown4, by rw [hOl]; exact HO3.out.kept hg4 (.inr (fun e => HN3.out (by simpa [Value.ownBlock] using e))), fun e => HN3.out (by simpa [Value.ownBlock] using e), HPM.out⟩⟩
    case measure => simp [lenV]; omega
end Go.Proofs.YtcfbkkcamiephaaGreatDoor
namespace Go.Proofs.YtcfbkkcamiephaaGreatDoor
open Go.RowKit

attribute [local go_sem ↓] Go.wp_at_zero Go.wp_at_succ lockL_eq

/-! ### FnTextOrder -/
theorem perm_map_inv {α β : Type} (f : α → β) {P' Q : List β} (h : P'.Perm Q) : ∀ L : List α, Q = L.map f → ∃ L' : List α, L'.Perm L ∧ P' = L'.map f := by
  induction h with
  | nil =>
    intro L hL
    cases L with
    | nil => exact ⟨[], .refl _, rfl⟩
    | cons a r => cases hL
  | cons x _ ih =>
    intro L hL
    cases L with
    | nil => cases hL
    | cons a r =>
      rw [List.map_cons] at hL
      injection hL with h1 h2
      obtain ⟨L', h3, h4⟩ := ih r h2
      exact ⟨a :: L', h3.cons a, by rw [List.map_cons, ← h1, ← h4]⟩
  | swap x y l =>
    intro L hL
    cases L with
    | nil => cases hL
    | cons a r =>
      cases r with
      | nil => cases hL
      | cons b r =>
        rw [List.map_cons, List.map_cons] at hL
        injection hL with h1 h2
        injection h2 with h2 h3
        exact ⟨b :: a :: r, .swap a b r, by rw [List.map_cons, List.map_cons, ← h1, ← h2, ← h3]⟩
  | trans _ _ ih1 ih2 =>
    intro L hL
    obtain ⟨L2, a, b⟩ := ih2 L hL
    obtain ⟨L1, c, d⟩ := ih1 L2 b
    exact ⟨L1, c.trans a, d⟩
structure Ck7 (w W : World) (_B1 : Nat) (L1 : Array Value) (r : RuleD) : Prop where
  hb : Below w.heap.size w W
  dn : DayNms W
  fr : Freqs W
  r1 : RuleIs W (.agg L1) r
theorem turned_text (o : Opt) (h : OptN o) (P' : List Part) (hp : P'.Perm (pairsOf o)) :
    optT (joinP P') = some { o with st := (0, 0) } ∧ optT (rrule ++ joinP P') = some { o with st := (0, 0) } ∧ (joinP P').length ≤ 450015 ∧ PartsShort P' := by
  have hs := pairs_short o h.ok
  have hlen : (joinP P').length ≤ 450015 := by
    have := (short_sub (M := P'.map txP) (partsP_short o h.ok) (by rw [← pairs_txP, List.length_map, List.length_map]; exact Nat.le_of_eq hp.length_eq) (fun x hx => by
      rw [← pairs_txP]
      obtain ⟨p, hp1, rfl⟩ := List.mem_map.1 hx
      exact List.mem_map_of_mem (hp.mem_iff.1 hp1))).join 59
    exact this
  have hsh : PartsShort P' := ⟨by rw [hp.length_eq]; exact hs.len, fun p hp1 => hs.each p (hp.mem_iff.1 hp1)⟩
  obtain ⟨L, hL, rfl⟩ := perm_map_inv _ hp (idxs o) rfl
  have e : joinP (L.map fun i => (keyNm i, valL o i)) = joinT o L := by
    unfold joinP joinT
    rw [List.map_map]
    rfl
  rw [e] at hlen ⊢
  obtain ⟨h1, h2⟩ := order_back o h L hL
  exact ⟨h1, h2, hlen, hsh⟩
set_option maxRecDepth 100000 in
set_option maxHeartbeats 12800000 in
theorem law_order (hrule : RuleAny) (r : RuleD) (v vo : Value) (os : List Nat) (nm : Bool) (w : World) (hG : Good w) (hD : DayNms w) (hF : Freqs w) (hv : RuleIs w v r) (hin : RuleIn r) (hvo : BytesV w vo os) (ho8 : ∀ x ∈ os, x ≤ 255) :
    Calls Tryz.prog 7 #[v, vo, .bool nm] w fun e w' => e = .returned (.bool true) ∧ Below w.heap.size w w' := by
  obtain ⟨cs, rfl, hcs, _⟩ := ruleVal_cells hv
  have hal : Below w.heap.size w (w.alloc (.cells cs 26)) := (Below.refl _ _).alloc (Nat.le_refl _) _
  have hbox : RowAt (w.alloc (.cells cs 26)) w.heap.size 26 cs.toList := ⟨by rw [heap_alloc_new]⟩
  have HBX := Lib.hid hbox
  have HCS := Lib.hid hcs
  have HV0 := Lib.hid hv
  have HV := Lib.hid (hv.below hal)
  have HAL := Lib.hid hal
  have HG := Lib.hid hG
  have HD := Lib.hid hD
  have HF := Lib.hid hF
  have HVO := Lib.hid hvo
  have HO8 := Lib.hid ho8
  obtain ⟨ao, co, rfl, _⟩ := hvo
  have H19 := Lib.hid (fun w hG => awake_any hrule option_any w hG)
  have H24 := Lib.hid (fun w hv => fits_any r (.agg cs) w hv)
  clear hbox hcs hv hal hG hD hF ho8
  cases hfit : fitsB r with
  | false =>
    rw [hfit] at H24
    clear hfit H19 hrule hin HG HD HF
    go_enter Tryz.func7, Tryz.ntmps7
    go_wp2_with (first
      | (refine wpList_load_row rfl 26 _ rfl w.heap.size rfl 26 cs (0, 0) _ HBX.out.blk Tryz.underlying26 rfl (by rw [HCS.out]; as_aux_lemma => kernel_rfl) ?_)
      | (go_at_call 24; go_must (refine (H24.out _ HV.out).mono ?_; rintro e w1 ⟨rfl, hb1⟩))
      | (fail))
    go_ret
    exact ⟨rfl, HAL.out.trans (hb1.mono HAL.out.size)⟩
  | true =>
    have hdl : r.dy.length ≤ 2147483647 := by
      simp only [fitsB, Bool.and_eq_true, decide_eq_true_eq] at hfit
      exact hfit.1.1.1.1.2
    rw [hfit] at H24
    have H25 := Lib.hid (fun w hv => textRule_any r (.agg cs) w hv hin.fq hdl)
    clear hfit hdl
    have HIN := Lib.hid hin
    have HRL := Lib.hid hrule
    clear hin hrule
    obtain ⟨p1, hp1⟩ : ∃ q, decide ((2147483647 : Int) < (os.length : Int)) = q := ⟨_, rfl⟩
    cases p1 with
    | true =>
      go_enter Tryz.func7, Tryz.ntmps7
      go_wp2_with (first
        | (refine wpList_load_row rfl 26 _ rfl w.heap.size rfl 26 cs (0, 0) _ HBX.out.blk Tryz.underlying26 rfl (by rw [HCS.out]; as_aux_lemma => kernel_rfl) ?_)
        | (go_at_call 24; go_must (refine (H24.out _ HV.out).mono ?_; rintro e w1 ⟨rfl, hb1⟩))
        | (fail))
      go_ret
      exact ⟨rfl, HAL.out.trans (hb1.mono HAL.out.size)⟩
    | false =>
    have HOS : Hid (os.length ≤ 2147483647) := Lib.hid (by have := of_decide_eq_false hp1; omega)
    go_enter Tryz.func7, Tryz.ntmps7
    go_upto_region 3 with (first
      | (refine wpList_load_row rfl 26 _ rfl w.heap.size rfl 26 cs (0, 0) _ HBX.out.blk Tryz.underlying26 rfl (by rw [HCS.out]; as_aux_lemma => kernel_rfl) ?_)
      | (go_at_call 24; go_must (refine (H24.out _ HV.out).mono ?_; rintro e w1 ⟨rfl, hb1⟩; have HB1 := Lib.hid hb1; clear hb1))
      | (fail))
    have hr1 := Lib.hid (HBX.out.below HB1.out)
    go_upto_if 18 with (first
      | (refine wpList_load_row rfl 26 _ rfl w.heap.size rfl 26 cs (0, 0) _ hr1.out.blk Tryz.underlying26 rfl (by rw [HCS.out]; as_aux_lemma => kernel_rfl) ?_)
      | (go_at_call 25; go_must (refine (H25.out _ (HV.out.below HB1.out)).mono ?_; rintro e w2 ⟨b, rfl, hT, hb2⟩; have HB2 := Lib.hid hb2; have HT := Lib.hid hT; clear hb2 hT))
      | (fail))
    have hB2 : Hid (Below w.heap.size w w2) := Lib.hid ((HAL.out.trans (HB1.out.mono HAL.out.size)).trans (HB2.out.mono (HAL.out.trans (HB1.out.mono HAL.out.size)).size))
    cases b with
    | false =>
      go_wp2_with (first
        | (go_at_call 19; go_must (refine (H19.out _ (HG.out.below hB2.out)).mono ?_; rintro e w3 ⟨rfl, hb3⟩))
        | (fail))
      go_ret
      exact ⟨rfl, hB2.out.trans (hb3.mono hB2.out.size)⟩
    | true =>
      have hT := HT.out rfl
      have hN := optN_of hT HIN.out
      have hRB := ruleOf_bare hT
      have hLn := ruleLen hT
      have hLb : RuleLen (bareOf r) := ⟨hLn.out⟩
      have HPne : Hid (0 < (pairsOf (optOf r)).length) := Lib.hid (by
        unfold pairsOf
        rw [List.length_map]
        exact List.length_pos_iff.2 (idxs_ne _))
      have HPS := Lib.hid (pairs_short (optOf r) hN.ok)
      have h29 : Hid (∀ W, Ck7 w W w.heap.size cs r → Calls Tryz.prog 29 #[.agg cs] W fun e w' => ∃ v', e = .returned v' ∧ PartsV w' v' (pairsOf (optOf r)) ∧ Below W.heap.size W w') := Lib.hid (fun W h => (ruleParts_any r (.agg cs) W h.dn h.fr h.r1 hT HIN.out).mono fun e w' ⟨v', h1, h2, h3⟩ => ⟨v', h1, parts_own h2, h3⟩)
      have h34 : Hid (∀ v W, PartsV W v (pairsOf (optOf r)) → BytesV W (.slice ao os.length co) os → Calls Tryz.prog 34 #[v, .slice ao os.length co] W fun e w' => ∃ v' P', e = .returned v' ∧ P'.Perm (pairsOf (optOf r)) ∧ PartsV w' v' P' ∧ Below W.heap.size W w') := Lib.hid (fun v W h1 h2 => turned_any _ os v _ W h1 h2 HPne.out HPS.out.len HOS.out HO8.out)
      have h30 : Hid (∀ v P' W, P'.Perm (pairsOf (optOf r)) → PartsV W v P' → Calls Tryz.prog 30 #[v] W fun e w' => e = .returned (.string (mkS (joinP P'))) ∧ Below W.heap.size W w') := Lib.hid (fun v P' W h1 h2 => partsText_any P' v W h2 (turned_text _ hN P' h1).2.2.2)
      have HTX : Hid (∀ P' : List Part, P'.Perm (pairsOf (optOf r)) → optT (joinP P') = some { optOf r with st := (0, 0) } ∧ optT (rrule ++ joinP P') = some { optOf r with st := (0, 0) } ∧ (joinP P').length ≤ 450015) := Lib.hid (fun P' h => ⟨(turned_text _ hN P' h).1, (turned_text _ hN P' h).2.1, (turned_text _ hN P' h).2.2.1⟩)
      have h27 : Hid (∀ l v W, l.length ≤ 1000000 → optT l = some { optOf r with st := (0, 0) } → Good W → RuleIs W v (bareOf r) → Calls Tryz.prog 27 #[.string (mkS l), v] W fun e w' => e = .returned (.bool true) ∧ Below W.heap.size W w') := Lib.hid (fun l v W hl ho hG hv => parsed_yes HRL.out l { optOf r with st := (0, 0) } v W hG hl ho (by rw [hRB]; exact hv) (by rw [hRB]; exact hLb))
      have hr2 := Lib.hid (hr1.out.below HB2.out)
      have hV2 := Lib.hid ((HV.out.below HB1.out).below HB2.out)
      have HK0 : Hid (Ck7 w w2 w.heap.size cs r) :=
        Lib.hid ⟨hB2.out, HD.out.below hB2.out, HF.out.below hB2.out, hV2.out⟩
      clear hT hN hRB hLn hLb HT HRL HIN H24 H25 HBX HV HB1 HAL hr1 HB2 hV2 HPne HPS HOS
      generalize pairsOf (optOf r) = P at *
      go_upto_region 6 with (first
        | (refine wpList_load_row rfl 26 _ rfl w.heap.size rfl 26 cs (0, 0) _ hr2.out.blk Tryz.underlying26 rfl (by rw [HCS.out]; as_aux_lemma => kernel_rfl) ?_)
        | (go_at_call 29; go_must (refine (h29.out _ HK0.out).mono ?_; rintro e w3 ⟨v3, rfl, hv3, hb3⟩; have HV3 := Lib.hid hv3; have HB3 := Lib.hid (hB2.out.trans (hb3.mono hB2.out.size)); have hr3 := Lib.hid (hr2.out.below hb3); clear hv3 hb3))
        | (go_at_call 34; go_must (refine (h34.out _ _ HV3.out (HVO.out.below HB3.out)).mono ?_; rintro e w4 ⟨v4, P4, rfl, hp4, hv4, hb4⟩; have HV4 := Lib.hid hv4; have HP4 := Lib.hid hp4; have HB4 := Lib.hid (HB3.out.trans (hb4.mono HB3.out.size)); have hr4 := Lib.hid (hr3.out.below hb4); clear hv4 hp4 hb4))
        | (go_at_call 30; go_must (refine (h30.out _ _ _ HP4.out HV4.out).mono ?_; rintro e w5 ⟨rfl, hb5⟩; have HB5 := Lib.hid (HB4.out.trans (hb5.mono HB4.out.size)); have hr5 := Lib.hid (hr4.out.below hb5); clear hb5))
        | (fail))
      obtain ⟨ht1, ht2, ht3⟩ := HTX.out P4 HP4.out
      clear HTX HK0 hr2 hr3 hr4 HV3 HV4 HP4 HB3 HB4 h29 h34 h30 hB2
      generalize joinP P4 = t1 at *
      have HT1 := Lib.hid ht1
      have HT2 := Lib.hid ht2
      clear ht1 ht2
      obtain ⟨t2, ht2⟩ : ∃ t2, t2 = rrule ++ t1 := ⟨_, rfl⟩
      rw [← ht2] at HT2
      have lt2 : t2.length = t1.length + 6 := by rw [ht2, List.length_append]; show 6 + _ = _; omega
      have kk : ({ data := #[82, 82, 85, 76, 69, 58] } : ByteArray) ++ mkS t1 = mkS t2 := by rw [ht2]; exact str_app rrule t1
      have zt1 := size_mkS t1
      have zt2 := size_mkS t2
      have hq1 : cs.toList[1]? = some (cs[1]'(by rw [HCS.out]; omega)) := by simp
      have hq2 : cs.toList[2]? = some (cs[2]'(by rw [HCS.out]; omega)) := by simp
      have hc1 := hr5.out.cell 1 hq1
      have hc2 := hr5.out.cell 2 hq2
      have hf1 := hr5.out.frozen 1
      have hf2 := hr5.out.frozen 2
      generalize cs[1]'(by rw [HCS.out]; omega) = x1 at hc1
      generalize cs[2]'(by rw [HCS.out]; omega) = x2 at hc2
      clear ht2 hq1 hq2
      have HST : Hid (∃ W2, W2 = (w5.setCell ⟨w.heap.size, 1, none⟩ (.bool false)).setCell ⟨w.heap.size, 2, none⟩ (.int .i64 0) ∧ Below w.heap.size w W2 ∧ ∃ ds : Array Value, ds.size = 18 ∧ RowAt W2 w.heap.size 26 ds.toList ∧ RuleIs W2 (.agg ds) (bareOf r)) := Lib.hid (by
        have hbw : Below w.heap.size w ((w5.setCell ⟨w.heap.size, 1, none⟩ (.bool false)).setCell ⟨w.heap.size, 2, none⟩ (.int .i64 0)) := (HB5.out.setCell (Nat.le_refl _) _).setCell (Nat.le_refl _) _
        refine ⟨_, rfl, hbw, (cs.setIfInBounds 1 (.bool false)).setIfInBounds 2 (.int .i64 0), by simp [HCS.out], ?_, bare_cells (HV0.out.below hbw)⟩
        have h := (hr5.out.set 1 (.bool false)).set 2 (.int .i64 0)
        simpa using h)
      cases nm
      all_goals
        go_upto_region 9 with fail
        obtain ⟨W2, hW2, hbw, ds, hds, hrow, hri⟩ := HST.out
        rw [← hW2]
        have HBW := Lib.hid hbw
        have HRW := Lib.hid hrow
        have HRI := Lib.hid hri
        have HDS := Lib.hid hds
        clear hW2 hbw hds hrow hri HST
        go_wp2_with (first
          | (go_at_call 19; go_must (refine (H19.out _ (HG.out.below HBW.out)).mono ?_; rintro e w7 ⟨rfl, hb7⟩; have HB7 := Lib.hid (HBW.out.trans (hb7.mono HBW.out.size)); have HR7 := Lib.hid (HRW.out.below hb7); have HI7 := Lib.hid (HRI.out.below hb7); have hld := lockLoad_arr (W := w7) (B := w.heap.size) ds 18 HDS.out (fun i => by rw [HR7.out.cells]; simp); clear hb7))
          | (refine wpList_load_row rfl 26 _ rfl w.heap.size rfl 26 ds (0, 0) _ HR7.out.blk Tryz.underlying26 rfl (by rw [HDS.out]; as_aux_lemma => kernel_rfl) ?_)
          | (go_at_call_of 27 (Value.string (mkS t1)); go_must (refine (h27.out t1 _ _ (by omega) HT1.out (HG.out.below HB7.out) HI7.out).mono ?_; rintro e w8 ⟨rfl, hb8⟩))
          | (go_at_call_of 27 (Value.string (mkS t2)); go_must (refine (h27.out t2 _ _ (by omega) HT2.out (HG.out.below HB7.out) HI7.out).mono ?_; rintro e w8 ⟨rfl, hb8⟩))
          | (fail))
        go_ret
        exact ⟨rfl, HB7.out.trans (hb8.mono HB7.out.size)⟩
end Go.Proofs.YtcfbkkcamiephaaGreatDoor
