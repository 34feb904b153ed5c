import Derived.Test.YtcfbkkcamiephaaGreatDoorS1
namespace Go.Proofs.YtcfbkkcamiephaaGreatDoor
open Go.RowKit

/-! ### A region in whatever order, each operation shown once; those that its guards leave out are passed over -/
section
variable {P : Program} {ops : Array Oper} {Q : Exit → Act → World → Prop}
def guardB (ops : List Oper) (o : Oper) : Bool := match o.guard with
  | none => true
  | some (j, _) => match ops[j]? with
    | none => false
    | some oj => match oj.dst with
      | none => false
      | some d => ops.zipIdx.all fun p => (match p.1.dst with | some d' => d' != d | none => true) || edgeB o p.2
def operG (n : Nat) (ops : List Oper) (i : Nat) (o : Oper) : Bool :=
  guardB ops o &&
  ((match o.op with | .select .. => false | _ => true) &&
  ((o.after.all fun e => !Region.binds .any e || decide (e.on < i)) &&
  ((match o.dst with | none => true | some d => decide (d < n)) &&
  (o.op.operands.toList.all fun x => match x with
    | .tmp k => ops.zipIdx.all fun p => (match p.1.dst with | some d => d != k | none => true) || edgeB o p.2
    | _ => true))))
def chkG (n : Nat) (ops : List Oper) : Bool := ops.zipIdx.all fun p => operG n ops p.2 p.1
/-- What an operation does, shown once; or that its guard leaves it out. -/
def StepG (P : Program) (ops : Array Oper) {β : Type} (lit : β → Array Value) (K : β → Array Bool → World → Prop) (m i : Nat) (o : Oper) : Prop :=
  ((∀ b, Region.wanted o (yielded ops (lit b)) = true) ∧ StepF P lit K m i o) ∨
  ((∀ b, Region.wanted o (yielded ops (lit b)) = false) ∧ ∀ b listed w, K b listed w → listed.size = m → listed[i]? = some false → (∀ d, o.dst = some d → (lit b).getD d undef = undef) ∧ K b (listed.setIfInBounds i true) w)
theorem chk_getG {n : Nat} (hc : chkG n ops.toList = true) {i : Nat} {o : Oper} (ho : ops[i]? = some o) : operG n ops.toList i o = true := by
  unfold chkG at hc
  rw [List.all_eq_true] at hc
  exact hc (o, i) (List.mem_zipIdx_iff_getElem?.2 (by simpa using ho))
theorem eval_tabG {n : Nat} {i : Nat} {o : Oper} {listed : Array Bool} {a : Act} {tb : Array Value} (hb : operG n ops.toList i o = true)
    (hdep : ∀ e ∈ o.after, Region.binds .any e = true → listed.getD e.on false = true)
    (hv : ∀ k, (∀ (i : Nat) (o : Oper), ops[i]? = some o → o.dst = some k → listed[i]? = some true) → a.tmps.getD k undef = tb.getD k undef) : execOp a.eval o = execOp (⟨tb, []⟩ : Act).eval o := by
  unfold operG at hb
  simp only [Bool.and_eq_true] at hb
  obtain ⟨_, h2, _, _, h5⟩ := hb
  refine execOp_congr o (fun cs b e => by rw [e] at h2; cases h2) fun x hx => ?_
  cases x with
  | tmp k =>
    rw [List.all_eq_true] at h5
    have h6 := h5 (.tmp k) (by simpa using hx)
    simp only [List.all_eq_true] at h6
    show a.tmps.getD k undef = tb.getD k undef
    refine hv k fun j oj hj hjk => ?_
    have h7 := h6 (oj, j) (List.mem_zipIdx_iff_getElem?.2 (by simpa using hj))
    simp only [hjk] at h7
    simp only [bne_self_eq_false, Bool.false_or] at h7
    unfold edgeB at h7
    obtain ⟨e, he, hb⟩ := Array.any_eq_true'.1 h7
    rw [Bool.and_eq_true, beq_iff_eq] at hb
    have := hdep e he hb.1
    rw [hb.2] at this
    exact getD_some this
  | const v => rfl
  | global g => rfl
  | func f => rfl
theorem wanted_tabG {n : Nat} {i : Nat} {o : Oper} {listed : Array Bool} {a : Act} {tb : Array Value} (hb : operG n ops.toList i o = true)
    (hdep : ∀ e ∈ o.after, Region.binds .any e = true → listed.getD e.on false = true)
    (hv : ∀ k, (∀ (i : Nat) (o : Oper), ops[i]? = some o → o.dst = some k → listed[i]? = some true) → a.tmps.getD k undef = tb.getD k undef) (hsz : a.tmps.size = n) (hn : tb.size = n) :
    Region.wanted o (yielded ops a.tmps) = Region.wanted o (yielded ops tb) := by
  unfold operG at hb
  rw [Bool.and_eq_true] at hb
  have h1 := hb.1
  unfold guardB at h1
  unfold Region.wanted
  cases hg : o.guard with
  | none => rfl
  | some q =>
    obtain ⟨j, c⟩ := q
    rw [hg] at h1
    simp only at h1 ⊢
    cases hj : ops.toList[j]? with
    | none => rw [hj] at h1; cases h1
    | some oj =>
      rw [hj] at h1
      simp only at h1
      cases hd : oj.dst with
      | none => rw [hd] at h1; cases h1
      | some d =>
        rw [hd] at h1
        simp only at h1
        have hjo : ops[j]? = some oj := by simpa using hj
        have he : a.tmps.getD d undef = tb.getD d undef := by
          rw [List.all_eq_true] at h1
          refine hv d fun x ox hx hxk => ?_
          have h7 := h1 (ox, x) (List.mem_zipIdx_iff_getElem?.2 (by simpa using hx))
          simp only [hxk] at h7
          simp only [bne_self_eq_false, Bool.false_or] at h7
          unfold edgeB at h7
          obtain ⟨e, he, hb⟩ := Array.any_eq_true'.1 h7
          rw [Bool.and_eq_true, beq_iff_eq] at hb
          have := hdep e he hb.1
          rw [hb.2] at this
          exact getD_some this
        have hq : a.tmps[d]? = tb[d]? := by
          simp only [Array.getD_eq_getD_getElem?] at he
          by_cases hdn : d < n
          · have k1 : d < a.tmps.size := by rw [hsz]; exact hdn
            have k2 : d < tb.size := by rw [hn]; exact hdn
            rw [Array.getElem?_eq_getElem k1, Array.getElem?_eq_getElem k2] at he ⊢
            simpa using he
          · rw [Array.getElem?_eq_none (by rw [hsz]; exact Nat.le_of_not_lt hdn), Array.getElem?_eq_none (by rw [hn]; exact Nat.le_of_not_lt hdn)]
        unfold yielded
        rw [hjo]
        simp only [Option.bind_some, hd, hq]
theorem all_listedG {n : Nat} (hc : chkG n ops.toList = true) {listed : Array Bool} (hls : listed.size = ops.size) (hr : Region.ready .any ops listed = []) : ∀ i, i < ops.size → listed[i]? = some true := by
  intro i
  induction i using Nat.strongRecOn with
  | _ i ih =>
    intro hi
    cases hg : listed[i]? with
    | none => rw [Array.getElem?_eq_none_iff] at hg; omega
    | some b =>
      cases b with
      | true => rfl
      | false =>
        exfalso
        have ho : ops[i]? = some ops[i] := by simp [hi]
        have hb := chk_getG hc ho
        unfold operG at hb
        simp only [Bool.and_eq_true] at hb
        obtain ⟨_, _, h3, _, _⟩ := hb
        have : i ∈ Region.ready .any ops listed := by
          unfold Region.ready
          rw [List.mem_filter, List.mem_range]
          refine ⟨hi, ?_⟩
          rw [Bool.and_eq_true]
          refine ⟨by simp [Array.getD_eq_getD_getElem?, hg], ?_⟩
          rw [ho]
          simp only [Option.map_some, Option.getD_some]
          rw [Array.all_eq_true_iff_forall_mem] at h3 ⊢
          intro e he
          have h := h3 e he
          cases hbd : Region.binds .any e with
          | false => rfl
          | true =>
            rw [hbd] at h
            simp only [Bool.not_true, Bool.false_or, decide_eq_true_eq] at h
            have := ih e.on h (by omega)
            simp [Array.getD_eq_getD_getElem?, this]
        rw [hr] at this; cases this
/-- **THE LAW**: a region in whatever order, with guards. -/
theorem wp_region_tableG {β : Type} {id : Nat} {a : Act} {w : World} (lit : β → Array Value) (K : β → Array Bool → World → Prop) (n : Nat) (hn : ∀ b, (lit b).size = n) (hm : P.follows .mixedOrders = true)
    (hc : chkG n ops.toList = true) (b0 : β) (ha : a.tmps.size = n) (ds : List Nat) (hds : (ds.all fun d => ops.toList.any fun o => o.dst == some d) = true) (hb : mask ds a.tmps = mask ds (lit b0))
    (hK : K b0 (Array.replicate ops.size false) w.drew) (hs : StepsL (StepG P ops lit K ops.size) 0 ops.toList)
    (hdone : ∀ b listed w', K b listed w' → (∀ i, i < ops.size → listed[i]? = some true) → Q .normal ⟨lit b, a.defers⟩ w') : (Code.region id ops true).wp P Q a w := by
  refine wp_region_any hm (wpAny_inv .any (TabI ops lit K n a.defers) (fun _ _ _ h => h.1) ?_ ?_ ops.size _ a _ ?_ ?_)
  · intro listed a' w' i hI hi
    obtain ⟨hls, b, hsz, hD, hv, hKb⟩ := hI
    obtain ⟨_, hf, o, ho, hdep⟩ := ready_spec hi
    have hop := chk_getG hc ho
    have hev := eval_tabG hop hdep hv
    have hop' := hop
    unfold operG at hop'
    simp only [Bool.and_eq_true] at hop'
    obtain ⟨_, _, _, h4, _⟩ := hop'
    have hd : ∀ d, o.dst = some d → d < n := fun d hd => by rw [hd] at h4; simpa using h4
    have hwt : ∀ b', Region.wanted o (yielded ops (lit b')) = Region.wanted o (yielded ops (lit b)) → Region.wanted o (yielded ops a'.tmps) = Region.wanted o (yielded ops (lit b')) := fun b' h => (wanted_tabG hop hdep hv hsz (hn b)).trans h.symm
    have H := StepsL.get _ 0 hs i o (by simpa using ho)
    rw [Nat.zero_add] at H
    rcases H with ⟨hwant, H⟩ | ⟨hwant, H⟩
    case inr =>
      unfold wpOp
      simp only [ho]
      rw [hwt b rfl, hwant b]
      obtain ⟨hu, hK'⟩ := H b listed w' hKb hls (getD_none hf)
      exact tab_next hn ho hls hsz hD hd hv ⟨b, fun _ _ => rfl, fun d e => by
        rw [hu d e, e, put_getD _ _ _ _ (by rw [hn]; exact hd d e), if_pos rfl], hK'⟩
    have H := H b listed w' hKb hls (getD_none hf) (fun e he hbd => getD_some (hdep e he hbd))
    unfold wpOp
    simp only [ho]
    rw [if_pos (by rw [hwt b rfl]; exact hwant b)]
    refine .inl ?_
    unfold Oper.wp at H ⊢
    rw [hev]
    generalize (execOp (⟨lit b, []⟩ : Act).eval o).run P w' = r at H ⊢
    cases r with
    | ok nx w2 =>
      cases nx <;> simp only [Oper.upon] at H ⊢
      case value v => exact tab_next hn ho hls hsz hD hd hv H.2
      case skip => exact tab_next hn ho hls hsz hD hd hv H.2
      case defer d =>
        exfalso
        have := H.1
        unfold Act.put at this
        split at this <;> simp at this
      case enter f args =>
        refine Calls.mono H fun e w3 he => ?_
        cases e with
        | returned v => exact tab_next hn ho hls hsz hD hd hv he.2
        | panicked c => exact he.elim
        | outgrown => obtain ⟨_, _, h⟩ := he; exact h.elim
      case row row args => exact Rows.mono H fun v w3 he => tab_next hn ho hls hsz hD hd hv he.2
      all_goals exact H.elim
    | halt x w2 => cases x <;> simp only [Oper.upon] at H ⊢
  · intro listed a' w' hI hr
    obtain ⟨hls, b, hsz, hD, hv, hKb⟩ := hI
    have hall := all_listedG hc hls hr
    have : a' = ⟨lit b, a.defers⟩ := by
      obtain ⟨t, df⟩ := a'
      simp only at hsz hD hv
      subst hD
      congr 1
      refine Array.ext (by rw [hsz, hn]) fun k h1 h2 => ?_
      have := hv k (fun i o ho _ => hall i (Array.getElem?_eq_some_iff.1 ho).1)
      simpa [Array.getD_eq_getD_getElem?, h1, h2] using this
    rw [this]
    exact hdone b listed w' hKb hall
  · unfold unl
    refine Nat.le_trans (List.length_filter_le ..) (by simp)
  · refine ⟨by simp, b0, ha, rfl, fun k hk => mask_get hb ?_, hK⟩
    cases hck : ds.contains k with
    | false => rfl
    | true =>
      exfalso
      rw [List.all_eq_true] at hds
      obtain ⟨o, ho, hd⟩ := List.any_eq_true.1 (hds k (by simpa using hck))
      obtain ⟨i, hi, rfl⟩ := List.getElem_of_mem ho
      have := hk i (ops.toList[i]) (by simp [show i < ops.size by simpa using hi]) (by simpa using hd)
      simp [Array.getElem?_replicate] at this
end
end Go.Proofs.YtcfbkkcamiephaaGreatDoor
