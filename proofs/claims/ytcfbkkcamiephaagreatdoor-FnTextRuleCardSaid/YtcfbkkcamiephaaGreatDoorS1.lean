import Derived.Test.YtcfbkkcamiephaaGreatDoorA1
import Derived.WalkSpells
import Derived.WalkLawsBesides
import Derived.Deep.RegionHeld
namespace Go.Proofs.YtcfbkkcamiephaaGreatDoor
open Go.RowKit

/-! ### the reference's calendar -/
theorem leapS_any (y : Int) (w : World) : Calls Tryz.prog 146 #[.int .i64 y] w fun e w' => e = .returned (.bool (leapB y)) ∧ w = w' := by
  have h4 := tq y 4 (by omega)
  have h100 := tq y 100 (by omega)
  have h400 := tq y 400 (by omega)
  by_cases c4 : y.tmod 4 = 0
  · by_cases c100 : y.tmod 100 = 0
    · by_cases c400 : y.tmod 400 = 0
      · have e : leapB y = true := by unfold leapB; simp; omega
        have H := Lib.hid e; clear e
        clear h4 h100 h400
        go_enter Tryz.func146, Tryz.ntmps146
        go_wp2
        go_ret
        exact ⟨ret_bool H.out.symm, rfl⟩
      · have e : leapB y = false := by unfold leapB; simp; omega
        have H := Lib.hid e; clear e
        clear h4 h100 h400
        go_enter Tryz.func146, Tryz.ntmps146
        go_wp2
        go_ret
        exact ⟨ret_bool (by rw [H.out]; simpa using c400), rfl⟩
    · have e : leapB y = true := by unfold leapB; simp; omega
      have H := Lib.hid e; clear e
      clear h4 h100 h400
      go_enter Tryz.func146, Tryz.ntmps146
      go_wp2
      go_ret
      exact ⟨ret_bool H.out.symm, rfl⟩
  · have e : leapB y = false := by unfold leapB; simp; omega
    have H := Lib.hid e; clear e
    clear h4 h100 h400
    go_enter Tryz.func146, Tryz.ntmps146
    go_wp2
    go_ret
    exact ⟨ret_bool H.out.symm, rfl⟩

def ydays (y : Int) : Int := if leapB y then 366 else 365
theorem yearDays_any (y : Int) (w : World) : Calls Tryz.prog 112 #[.int .i64 y] w fun e w' => e = .returned (.int .i64 (ydays y)) ∧ w = w' := by
  cases hl : leapB y
  all_goals
    have H := Lib.hid hl; clear hl
    go_enter Tryz.func112, Tryz.ntmps112
    go_wp2_with (go_at_call 146; refine (leapS_any _ _).mono ?_; rintro e w' ⟨rfl, rfl⟩; rw [H.out])
    go_ret
    exact ⟨ret_int (by simp [ydays, H.out]), rfl⟩
theorem monthDaysS_any (m y : Int) (w : World) : Calls Tryz.prog 85 #[.int .i64 y, .int .i64 m] w fun e w' => e = .returned (.int .i64 (mdays m y)) ∧ w = w' := by
  by_cases c2 : m = 2
  · subst c2
    have hb : 365 ≤ ydays y ∧ ydays y ≤ 366 := by unfold ydays; split <;> omega
    have H : Hid (ydays y - 337 = mdays 2 y) := Lib.hid (by unfold ydays mdays; cases leapB y <;> rfl)
    go_enter Tryz.func85, Tryz.ntmps85
    go_wp2_with (go_at_call 112; go_must (refine (yearDays_any _ _).mono ?_; rintro e w' ⟨rfl, rfl⟩))
    go_ret
    exact ⟨ret_int H.out, rfl⟩
  · by_cases c4 : m = 4 ∨ m = 6 ∨ m = 9 ∨ m = 11
    · rcases c4 with rfl | rfl | rfl | rfl
      all_goals
        go_enter Tryz.func85, Tryz.ntmps85
        go_wp2
        go_ret
        exact ⟨rfl, rfl⟩
    · have h : mdays m y = 31 := by simp [mdays, c2, c4]
      have H := Lib.hid h; clear h
      have a4 : m ≠ 4 := by omega
      have a6 : m ≠ 6 := by omega
      have a9 : m ≠ 9 := by omega
      have a11 : m ≠ 11 := by omega
      clear c4
      go_enter Tryz.func85, Tryz.ntmps85
      go_wp2
      go_ret
      exact ⟨ret_int H.out.symm, rfl⟩

theorem newYear_any (y : Int) (w : World) (h1 : 1 ≤ y) (h2 : y ≤ 1000000) : Calls Tryz.prog 84 #[.int .i64 y] w fun e w' => e = .returned (.int .i64 (daysTo y)) ∧ w = w' := by
  go_enter Tryz.func84, Tryz.ntmps84
  go_wp2
  go_ret
  exact ⟨ret_int (by unfold daysTo; omega), rfl⟩
set_option maxHeartbeats 800000 in
theorem daysOf_any (y d : Int) (m : Nat) (w : World) (h1 : 1 ≤ y) (h2 : y ≤ 1000000) (hm : 1 ≤ m) (hm2 : m ≤ 12) (hd : 0 ≤ d ∧ d ≤ 1000) : Calls Tryz.prog 52 #[.int .i64 y, .int .i64 m, .int .i64 d] w fun e w' => e = .returned (.int .i64 (daysTo y + d - 1 + mcum y (m - 1))) ∧ w = w' := by
  have hb := daysTo_bd y (by omega) (by omega)
  go_enter Tryz.func52, Tryz.ntmps52
  go_wp2_with (go_at_call 84; go_must (refine (newYear_any y _ h1 h2).mono ?_; rintro e w' ⟨rfl, rfl⟩))
  go_loop [7, 8] (fun n k => ∃ j : Nat, 1 ≤ j ∧ j ≤ m ∧ k = .int .i64 j ∧ n = .int .i64 (daysTo y + d - 1 + mcum y (j - 1))) (fun _ k => m - (intOf k).toNat)
  case atStart => exact ⟨1, by omega, hm, rfl, by simp [mcum]⟩
  case round =>
    obtain ⟨j, hj, hjm, rfl, rfl⟩ := hrel
    by_cases hlt : j < m
    · have hms := mcum_succ y (j - 1)
      have hcb := mcum_bd y (j - 1)
      have hmb := mdays_bd (j : Int) y
      have hj1 : j - 1 + 1 = j := by omega
      have hj2 : ((j - 1 : Nat) : Int) + 1 = j := by omega
      rw [hj1, hj2] at hms
      have HMS := Lib.hid hms
      clear hms hj1 hj2
      go_wp2_with (go_at_call 85; go_must (refine (monthDaysS_any (j : Int) y _).mono ?_; rintro e w' ⟨rfl, rfl⟩))
      go_round
      case rel => exact ⟨j + 1, by omega, by omega, by go_num, by rw [Nat.add_sub_cancel, HMS.out]; go_num⟩
      case measure => simp [intOf]; omega
    · obtain rfl : j = m := by omega
      go_wp2
      go_ret
      exact ⟨rfl, rfl⟩
end Go.Proofs.YtcfbkkcamiephaaGreatDoor
namespace Go.Proofs.YtcfbkkcamiephaaGreatDoor
open Go.RowKit

/-! ### A region in whatever order, each operation shown once -/
section
variable {P : Program} {ops : Array Oper} {Q : Exit → Act → World → Prop}
/-- what is still to come up -/
def unl (n : Nat) (listed : Array Bool) : Nat := ((List.range n).filter fun i => !listed.getD i true).length
theorem filt_lt {α : Type} (p q : α → Bool) (h : ∀ x, q x = true → p x = true) : ∀ (l : List α), (∃ x ∈ l, p x = true ∧ q x = false) → (l.filter q).length < (l.filter p).length := by
  intro l
  induction l with
  | nil => rintro ⟨x, hx, _⟩; cases hx
  | cons y r ih =>
    rintro ⟨x, hx, h1, h2⟩
    have hle : (r.filter q).length ≤ (r.filter p).length := by
      clear ih h1 h2 hx
      induction r with
      | nil => simp
      | cons z t iht =>
        rw [List.filter_cons, List.filter_cons]
        by_cases hq : q z = true
        · rw [if_pos hq, if_pos (h z hq)]; simp; exact iht
        · rw [if_neg hq]; split <;> (try simp) <;> omega
    rw [List.filter_cons, List.filter_cons]
    rcases List.mem_cons.1 hx with rfl | hx
    · rw [if_pos h1, if_neg (by rw [h2]; decide), List.length_cons]; omega
    · have := ih ⟨x, hx, h1, h2⟩
      by_cases hq : q y = true
      · rw [if_pos hq, if_pos (h y hq)]; simp; exact this
      · rw [if_neg hq]; split <;> (try simp) <;> omega
theorem ready_spec {md : Region.Mode} {listed : Array Bool} {i : Nat} (h : i ∈ Region.ready md ops listed) : i < ops.size ∧ listed.getD i true = false ∧ ∃ o, ops[i]? = some o ∧ ∀ e ∈ o.after, Region.binds md e = true → listed.getD e.on false = true := by
  unfold Region.ready at h
  rw [List.mem_filter, List.mem_range] at h
  obtain ⟨h1, h2⟩ := h
  rw [Bool.and_eq_true] at h2
  obtain ⟨h2, h3⟩ := h2
  refine ⟨h1, by simpa using h2, ops[i], by simp [h1], ?_⟩
  rw [Array.getElem?_eq_getElem h1] at h3
  simp only [Option.map_some, Option.getD_some] at h3
  intro e he hb
  have := Array.all_eq_true_iff_forall_mem.1 h3 e he
  rw [hb] at this
  simpa using this
theorem wpAny_inv (md : Region.Mode) (Inv : Array Bool → Act → World → Prop) (hsz : ∀ listed a w, Inv listed a w → listed.size = ops.size)
    (hstep : ∀ listed a w i, Inv listed a w → i ∈ Region.ready md ops listed → wpOp P ops Q i (Inv (listed.setIfInBounds i true)) a w)
    (hdone : ∀ listed a w, Inv listed a w → Region.ready md ops listed = [] → Q .normal a w) :
    ∀ fuel listed a w, unl ops.size listed ≤ fuel → Inv listed a w → wpAny P md ops Q fuel listed a w
  | 0, listed, a, w, hu, hI => by
    have hr : Region.ready md ops listed = [] := by
      rw [List.eq_nil_iff_forall_not_mem]
      intro i hi
      obtain ⟨h1, h2, _⟩ := ready_spec hi
      unfold unl at hu
      have h0 := List.eq_nil_of_length_eq_zero (Nat.le_zero.1 hu)
      have : i ∈ (List.range ops.size).filter fun i => !listed.getD i true := List.mem_filter.2 ⟨List.mem_range.2 h1, by rw [h2]; rfl⟩
      rw [h0] at this; cases this
    exact ⟨hr, hdone _ _ _ hI hr⟩
  | fuel + 1, listed, a, w, hu, hI => by
    refine ⟨fun hr => hdone _ _ _ hI hr, fun i hi => ?_⟩
    refine wpOp_mono (fun a' w' hI' => wpAny_inv md Inv hsz hstep hdone fuel _ a' w' ?_ hI') (hstep _ _ _ _ hI hi)
    obtain ⟨h1, h2, _⟩ := ready_spec hi
    have hs := hsz _ _ _ hI
    have : unl ops.size (listed.setIfInBounds i true) < unl ops.size listed := by
      unfold unl
      refine filt_lt _ _ (fun x hx => ?_) _ ⟨i, List.mem_range.2 h1, by rw [h2]; rfl, by simp [hs, h1]⟩
      by_cases hxi : i = x
      · subst hxi; rw [h2]; rfl
      · simpa [Array.getElem?_setIfInBounds, hxi] using hx
    omega
/-- What is to be decided of the region's operations. -/
def edgeB (o : Oper) (j : Nat) : Bool := o.after.any fun e => Region.binds .any e && e.on == j
def operB (n : Nat) (ops : List Oper) (i : Nat) (o : Oper) : Bool :=
  (match o.guard with | none => true | some _ => false) &&
  ((match o.op with | .select .. => false | _ => true) &&
  ((o.after.all fun e => !Region.binds .any e || decide (e.on < i)) &&
  ((match o.dst with | none => true | some d => decide (d < n)) &&
  (o.op.operands.toList.all fun x => match x with
    | .tmp k => ops.zipIdx.all fun p => (match p.1.dst with | some d => d != k | none => true) || edgeB o p.2
    | _ => true))))
def chkB (n : Nat) (ops : List Oper) : Bool := ops.zipIdx.all fun p => operB n ops p.2 p.1
/-- What an operation does, shown once, in the state that holds every value of the table. -/
def StepF (P : Program) {β : Type} (lit : β → Array Value) (K : β → Array Bool → World → Prop) (m i : Nat) (o : Oper) : Prop :=
  ∀ b listed w, K b listed w → listed.size = m → listed[i]? = some false → (∀ e ∈ o.after, Region.binds .any e = true → listed[e.on]? = some true) →
    Oper.wp P o ⟨lit b, []⟩ w (fun a' w' => a'.defers = [] ∧ ∃ b', (∀ k, o.dst ≠ some k → (lit b').getD k undef = (lit b).getD k undef) ∧ (∀ d, o.dst = some d → a'.tmps.getD d undef = (lit b').getD d undef) ∧ K b' (listed.setIfInBounds i true) w') (fun _ _ _ => False)
/-- the same, with what follows kept shut -/
theorem StepF.of {β : Type} {lit : β → Array Value} {K : β → Array Bool → World → Prop} {m i : Nat} {o : Oper}
    (h : ∀ b listed w, K b listed w → listed[i]? = some false → (∀ e ∈ o.after, Region.binds .any e = true → listed[e.on]? = some true) →
      ∀ (K' : Act → World → Prop) (Q' : Exit → Act → World → Prop), Shut (∀ a' w', (a'.defers = [] ∧ ∃ b', (∀ k, o.dst ≠ some k → (lit b').getD k undef = (lit b).getD k undef) ∧ (∀ d, o.dst = some d → a'.tmps.getD d undef = (lit b').getD d undef) ∧ K b' (listed.setIfInBounds i true) w') → K' a' w') →
        Oper.wp P o ⟨lit b, []⟩ w K' Q') : StepF P lit K m i o :=
  fun b listed w hK _ hf hd => h b listed w hK hf hd _ _ (fun _ _ h => h)
def StepsL (F : Nat → Oper → Prop) : Nat → List Oper → Prop
  | _, [] => True
  | i, o :: r => F i o ∧ StepsL F (i + 1) r
theorem StepsL.get {F : Nat → Oper → Prop} : ∀ (l : List Oper) (j : Nat), StepsL F j l → ∀ i o, l[i]? = some o → F (j + i) o
  | [], _, _, i, o, h => by simp at h
  | x :: r, j, hs, 0, o, h => by simp at h; subst h; exact hs.1
  | x :: r, j, hs, i + 1, o, h => by
    have := StepsL.get r (j + 1) hs.2 i o (by simpa using h)
    rwa [show j + (i + 1) = j + 1 + i by omega]
theorem getD_some {listed : Array Bool} {i : Nat} (h : listed.getD i false = true) : listed[i]? = some true := by
  rw [Array.getD_eq_getD_getElem?] at h
  cases he : listed[i]? with
  | none => rw [he] at h; cases h
  | some b => rw [he] at h; simp at h; rw [h]
theorem getD_none {listed : Array Bool} {i : Nat} (h : listed.getD i true = false) : listed[i]? = some false := by
  rw [Array.getD_eq_getD_getElem?] at h
  cases he : listed[i]? with
  | none => rw [he] at h; cases h
  | some b => rw [he] at h; simp at h; rw [h]
/-- the invariant -/
def TabI {β : Type} (ops : Array Oper) (lit : β → Array Value) (K : β → Array Bool → World → Prop) (n : Nat) (D : List Deferred) (listed : Array Bool) (a : Act) (w : World) : Prop :=
  listed.size = ops.size ∧ ∃ b, a.tmps.size = n ∧ a.defers = D ∧ (∀ k, (∀ (i : Nat) (o : Oper), ops[i]? = some o → o.dst = some k → listed[i]? = some true) → a.tmps.getD k undef = (lit b).getD k undef) ∧ K b listed w
theorem put_getD (a : Act) (d k : Nat) (v : Value) (hd : d < a.tmps.size) : (a.put (some d) v).tmps.getD k undef = if d = k then v else a.tmps.getD k undef := by
  unfold Act.put
  simp only [Array.getD_eq_getD_getElem?]
  by_cases h : d = k
  · subst h; simp [hd]
  · rw [if_neg h, Array.getElem?_setIfInBounds_ne h]
theorem tab_next {β : Type} {lit : β → Array Value} {K : β → Array Bool → World → Prop} {n : Nat} {D : List Deferred} (hn : ∀ b, (lit b).size = n) {listed : Array Bool} {a : Act} {w' : World} {b : β} {i : Nat} {o : Oper} {v : Value}
    (ho : ops[i]? = some o) (hls : listed.size = ops.size) (hsz : a.tmps.size = n) (hD : a.defers = D) (hd : ∀ d, o.dst = some d → d < n)
    (hv : ∀ k, (∀ (i : Nat) (o : Oper), ops[i]? = some o → o.dst = some k → listed[i]? = some true) → a.tmps.getD k undef = (lit b).getD k undef)
    (hK : ∃ b', (∀ k, o.dst ≠ some k → (lit b').getD k undef = (lit b).getD k undef) ∧ (∀ d, o.dst = some d → ((⟨lit b, []⟩ : Act).put o.dst v).tmps.getD d undef = (lit b').getD d undef) ∧ K b' (listed.setIfInBounds i true) w') :
    TabI ops lit K n D (listed.setIfInBounds i true) (a.put o.dst v) w' := by
  obtain ⟨b', h1, h2, h3⟩ := hK
  refine ⟨by simp [hls], b', ?_, ?_, fun k hk => ?_, h3⟩
  · unfold Act.put; split <;> simp [hsz]
  · unfold Act.put; split <;> simp [hD]
  · by_cases hdk : o.dst = some k
    · have hlt := hd k hdk
      have e := h2 k hdk
      rw [hdk] at e ⊢
      rw [put_getD _ _ _ _ (by rw [hsz]; exact hlt), if_pos rfl]
      rw [put_getD _ _ _ _ (by rw [hn]; exact hlt), if_pos rfl] at e
      exact e
    · rw [h1 k hdk, ← hv k (fun j oj hj hjk => by
        have hne : i ≠ j := fun e => by subst e; rw [ho] at hj; injection hj with hj; subst hj; exact hdk hjk
        have := hk j oj hj hjk
        rwa [Array.getElem?_setIfInBounds_ne hne] at this)]
      cases hdo : o.dst with
      | none => rfl
      | some d =>
        have hlt := hd d hdo
        rw [put_getD _ _ _ _ (by rw [hsz]; exact hlt), if_neg (fun e => hdk (by rw [hdo, e]))]
theorem chk_get {n : Nat} (hc : chkB n ops.toList = true) {i : Nat} {o : Oper} (ho : ops[i]? = some o) : operB n ops.toList i o = true := by
  unfold chkB at hc
  rw [List.all_eq_true] at hc
  exact hc (o, i) (List.mem_zipIdx_iff_getElem?.2 (by simpa using ho))
theorem eval_tab {n : Nat} {i : Nat} {o : Oper} {listed : Array Bool} {a : Act} {tb : Array Value} (hb : operB n ops.toList i o = true)
    (hdep : ∀ e ∈ o.after, Region.binds .any e = true → listed.getD e.on false = true)
    (hv : ∀ k, (∀ (i : Nat) (o : Oper), ops[i]? = some o → o.dst = some k → listed[i]? = some true) → a.tmps.getD k undef = tb.getD k undef) : execOp a.eval o = execOp (⟨tb, []⟩ : Act).eval o := by
  unfold operB at hb
  simp only [Bool.and_eq_true] at hb
  obtain ⟨_, h2, _, _, h5⟩ := hb
  refine execOp_congr o (fun cs b e => by rw [e] at h2; cases h2) fun x hx => ?_
  cases x with
  | tmp k =>
    rw [List.all_eq_true] at h5
    have h6 := h5 (.tmp k) (by simpa using hx)
    simp only [List.all_eq_true] at h6
    show a.tmps.getD k undef = tb.getD k undef
    refine hv k fun j oj hj hjk => ?_
    have h7 := h6 (oj, j) (List.mem_zipIdx_iff_getElem?.2 (by simpa using hj))
    simp only [hjk] at h7
    simp only [bne_self_eq_false, Bool.false_or] at h7
    unfold edgeB at h7
    obtain ⟨e, he, hb⟩ := Array.any_eq_true'.1 h7
    rw [Bool.and_eq_true, beq_iff_eq] at hb
    have := hdep e he hb.1
    rw [hb.2] at this
    exact getD_some this
  | const v => rfl
  | global g => rfl
  | func f => rfl
theorem all_listed {n : Nat} (hc : chkB n ops.toList = true) {listed : Array Bool} (hls : listed.size = ops.size) (hr : Region.ready .any ops listed = []) : ∀ i, i < ops.size → listed[i]? = some true := by
  intro i
  induction i using Nat.strongRecOn with
  | _ i ih =>
    intro hi
    cases hg : listed[i]? with
    | none => rw [Array.getElem?_eq_none_iff] at hg; omega
    | some b =>
      cases b with
      | true => rfl
      | false =>
        exfalso
        have ho : ops[i]? = some ops[i] := by simp [hi]
        have hb := chk_get hc ho
        unfold operB at hb
        simp only [Bool.and_eq_true] at hb
        obtain ⟨_, _, h3, _, _⟩ := hb
        have : i ∈ Region.ready .any ops listed := by
          unfold Region.ready
          rw [List.mem_filter, List.mem_range]
          refine ⟨hi, ?_⟩
          rw [Bool.and_eq_true]
          refine ⟨by simp [Array.getD_eq_getD_getElem?, hg], ?_⟩
          rw [ho]
          simp only [Option.map_some, Option.getD_some]
          rw [Array.all_eq_true_iff_forall_mem] at h3 ⊢
          intro e he
          have h := h3 e he
          cases hbd : Region.binds .any e with
          | false => rfl
          | true =>
            rw [hbd] at h
            simp only [Bool.not_true, Bool.false_or, decide_eq_true_eq] at h
            have := ih e.on h (by omega)
            simp [Array.getD_eq_getD_getElem?, this]
        rw [hr] at this; cases this
/-- the slots that the region does not write -/
def mask (ds : List Nat) (t : Array Value) : List Value := t.toList.zipIdx.map fun p => if ds.contains p.2 then undef else p.1
theorem mask_get {ds : List Nat} {s t : Array Value} (h : mask ds s = mask ds t) {k : Nat} (hk : ds.contains k = false) : s.getD k undef = t.getD k undef := by
  have e := congrArg (fun l => l[k]?) h
  unfold mask at e
  simp only [List.getElem?_map, List.getElem?_zipIdx, Nat.zero_add, Option.map_map, Array.getElem?_toList] at e
  simp only [Array.getD_eq_getD_getElem?]
  cases h1 : s[k]? <;> cases h2 : t[k]? <;> simp [h1, h2] at e ⊢
  have hk' : k ∉ ds := by simpa using hk
  simpa [hk'] using e
/-- **THE LAW**: a region in whatever order, each of its operations shown once. -/
theorem wp_region_table {β : Type} {id : Nat} {a : Act} {w : World} (lit : β → Array Value) (K : β → Array Bool → World → Prop) (n : Nat) (hn : ∀ b, (lit b).size = n) (hm : P.follows .mixedOrders = true)
    (hc : chkB n ops.toList = true) (b0 : β) (ha : a.tmps.size = n) (ds : List Nat) (hds : (ds.all fun d => ops.toList.any fun o => o.dst == some d) = true) (hb : mask ds a.tmps = mask ds (lit b0))
    (hK : K b0 (Array.replicate ops.size false) w.drew) (hs : StepsL (StepF P lit K ops.size) 0 ops.toList)
    (hdone : ∀ b listed w', K b listed w' → (∀ i, i < ops.size → listed[i]? = some true) → Q .normal ⟨lit b, a.defers⟩ w') : (Code.region id ops true).wp P Q a w := by
  refine wp_region_any hm (wpAny_inv .any (TabI ops lit K n a.defers) (fun _ _ _ h => h.1) ?_ ?_ ops.size _ a _ ?_ ?_)
  · intro listed a' w' i hI hi
    obtain ⟨hls, b, hsz, hD, hv, hKb⟩ := hI
    obtain ⟨_, hf, o, ho, hdep⟩ := ready_spec hi
    have hop := chk_get hc ho
    have hev := eval_tab hop hdep hv
    have hop' := hop
    unfold operB at hop'
    simp only [Bool.and_eq_true] at hop'
    obtain ⟨h1, _, _, h4, _⟩ := hop'
    have hd : ∀ d, o.dst = some d → d < n := fun d hd => by rw [hd] at h4; simpa using h4
    have hg : o.guard = none := by cases hg : o.guard with
      | none => rfl
      | some x => rw [hg] at h1; cases h1
    have H := StepsL.get _ 0 hs i o (by simpa using ho)
    rw [Nat.zero_add] at H
    have H := H b listed w' hKb hls (getD_none hf) (fun e he hbd => getD_some (hdep e he hbd))
    unfold wpOp
    simp only [ho]
    rw [if_pos (by unfold Region.wanted; rw [hg])]
    refine .inl ?_
    unfold Oper.wp at H ⊢
    rw [hev]
    generalize (execOp (⟨lit b, []⟩ : Act).eval o).run P w' = r at H ⊢
    cases r with
    | ok nx w2 =>
      cases nx <;> simp only [Oper.upon] at H ⊢
      case value v => exact tab_next hn ho hls hsz hD hd hv H.2
      case skip => exact tab_next hn ho hls hsz hD hd hv H.2
      case defer d =>
        exfalso
        have := H.1
        unfold Act.put at this
        split at this <;> simp at this
      case enter f args =>
        refine Calls.mono H fun e w3 he => ?_
        cases e with
        | returned v => exact tab_next hn ho hls hsz hD hd hv he.2
        | panicked c => exact he.elim
        | outgrown => obtain ⟨_, _, h⟩ := he; exact h.elim
      case row row args => exact Rows.mono H fun v w3 he => tab_next hn ho hls hsz hD hd hv he.2
      all_goals exact H.elim
    | halt x w2 => cases x <;> simp only [Oper.upon] at H ⊢
  · intro listed a' w' hI hr
    obtain ⟨hls, b, hsz, hD, hv, hKb⟩ := hI
    have hall := all_listed hc hls hr
    have : a' = ⟨lit b, a.defers⟩ := by
      obtain ⟨t, df⟩ := a'
      simp only at hsz hD hv
      subst hD
      congr 1
      refine Array.ext (by rw [hsz, hn]) fun k h1 h2 => ?_
      have := hv k (fun i o ho _ => hall i (Array.getElem?_eq_some_iff.1 ho).1)
      simpa [Array.getD_eq_getD_getElem?, h1, h2] using this
    rw [this]
    exact hdone b listed w' hKb hall
  · unfold unl
    refine Nat.le_trans (List.length_filter_le ..) (by simp)
  · refine ⟨by simp, b0, ha, rfl, fun k hk => mask_get hb ?_, hK⟩
    cases hck : ds.contains k with
    | false => rfl
    | true =>
      exfalso
      rw [List.all_eq_true] at hds
      obtain ⟨o, ho, hd⟩ := List.any_eq_true.1 (hds k (by simpa using hck))
      obtain ⟨i, hi, rfl⟩ := List.getElem_of_mem ho
      have := hk i (ops.toList[i]) (by simp [show i < ops.size by simpa using hi]) (by simpa using hd)
      simp [Array.getElem?_replicate] at this
end
end Go.Proofs.YtcfbkkcamiephaaGreatDoor
