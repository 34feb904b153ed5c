/-
  FnTextDates: the law returns true for every input, and the input reads as it did (the tied card).
  Conditions: those of the given row alone.
-/
import Derived.Test.YtcfbkkcamiephaaGreatDoorH4
import Derived.Test.YtcfbkkcamiephaaGreatDoorO1
import Derived.Test.YtcfbkkcamiephaaGreatDoorL1
import Derived.Test.YtcfbkkcamiephaaGreatDoorE7
import Derived.Test.YtcfbkkcamiephaaGreatDoorCards
import Derived.Test.YtcfbkkcamiephaaGreatDoorTie
import Derived.WalkKit
import Derived.ProofKit
import Derived.OpenShut
import Derived.Carry
import Derived.JoinedCond
import Derived.Deep.DeepHandedRow
import Derived.Deep.DeepWitnessRowRef
namespace Go.Proofs.YtcfbkkcamiephaaGreatDoor.fnTextDates
open Go.ChangeShapes Go.WideShapes Go.ChangeAt Go.RowKit Go.Lib Go.ChangeMaps

/-! ### the closed facts of the row, each by itself -/
theorem band {a b : Bool} (ha : a = true) (hb : b = true) : (a && b) = true := by rw [ha, hb]; rfl
theorem j0 : (Rows.fnTextDatesRow.wf (OpenSpec.ofChange (OpenSpec.ofChange Rows.fnTextDatesSpec).bare)) = true := by kernel_rfl
theorem j1 : (laidOutB Tryz.prog) = true := by kernel_rfl
theorem j2 : (mapsRowed Tryz.prog) = true := by kernel_rfl
theorem j3 : (Tryz.f17.params.all (Tryz.prog.readableRec ·)) = true := by kernel_rfl
theorem j4 : (namedTie Tryz.prog Rows.fnTextDatesRow.named (OpenSpec.ofChange Rows.fnTextDatesSpec).bare.vars) = true := by kernel_rfl
theorem j5 : ((Rows.fnTextDatesRow.stops == [])) = true := by kernel_rfl
theorem j6 : ((Tryz.prog.stops == [])) = true := by kernel_rfl
theorem j7 : ((Rows.fnTextDatesRow.knobs == [])) = true := by kernel_rfl
theorem j8 : ((Tryz.prog.stopKnobs == [])) = true := by kernel_rfl
theorem j9 : ((Rows.fnTextDatesRow.inPlace == Tryz.prog.inPlace 17)) = true := by kernel_rfl
theorem j10 : ((Rows.fnTextDatesRow.unfollowed == Tryz.prog.unfollowed 17)) = true := by kernel_rfl
theorem j11 : ((Rows.fnTextDatesRow.recurses == Tryz.prog.recurses 17)) = true := by kernel_rfl
theorem j12 : ((Rows.fnTextDatesRow.named == Tryz.prog.varsNamed 17)) = true := by kernel_rfl
theorem j13 : ((Rows.fnTextDatesRow.maps == (Tryz.f17.params.toList ++ (OpenSpec.ofChange Rows.fnTextDatesSpec).bare.plain.varTypes Tryz.prog).any (Tryz.prog.mapsRec ·))) = true := by kernel_rfl
theorem j14 : ((Rows.fnTextDatesRow.ifaces == (Tryz.f17.params.toList ++ (OpenSpec.ofChange Rows.fnTextDatesSpec).bare.plain.varTypes Tryz.prog).any (Tryz.prog.ifacesRec ·))) = true := by kernel_rfl
theorem j15 : ((Rows.fnTextDatesRow.mapsOut == Tryz.prog.mapsAmong Tryz.f17.resultTypes.toList)) = true := by kernel_rfl
theorem j16 : ((Rows.fnTextDatesRow.loops == (Tryz.f17.params.toList ++ (OpenSpec.ofChange Rows.fnTextDatesSpec).bare.plain.varTypes Tryz.prog).any (Tryz.prog.loopsFrom ·))) = true := by kernel_rfl
theorem j17 : ((Rows.fnTextDatesRow.wideKeys == (Tryz.f17.params.toList ++ (OpenSpec.ofChange Rows.fnTextDatesSpec).bare.plain.varTypes Tryz.prog ++ Tryz.f17.resultTypes.toList).any (Tryz.prog.wideKeysFrom ·))) = true := by kernel_rfl
theorem j18 : ((OpenSpec.ofChange Rows.fnTextDatesSpec).bare.vars.all (Tryz.prog.varReadable ·)) = true := by kernel_rfl
theorem j19 : (Tryz.f17.resultTypes.all (fun t => Tryz.prog.readableRec t && decide (t < Tryz.prog.types.size))) = true := by kernel_rfl
theorem j20 : ((Rows.fnTextDatesRow.ifacesOut == Tryz.f17.resultTypes.toList.any (Tryz.prog.ifacesRec ·))) = true := by kernel_rfl
theorem j21 : ((Rows.fnTextDatesRow.loopsOut == Tryz.f17.resultTypes.toList.any (Tryz.prog.loopsFrom ·))) = true := by kernel_rfl
theorem j22 : ((Rows.fnTextDatesRow.plainKeys == Tryz.prog.plainKeys)) = true := by kernel_rfl
theorem j23 : (Rows.fnTextDatesRow.shortTexts.isNone) = true := by kernel_rfl
theorem j24 : (Tryz.prog.stopsHeard) = true := by kernel_rfl
theorem j25 : (Tryz.prog.mayEnter) = true := by kernel_rfl
theorem j26 : ((Rows.fnTextDatesRow.lifted == Tryz.prog.liftsFinal)) = true := by kernel_rfl
theorem j27 : ((Tryz.prog.make == some Rows.fnTextDatesRow.make)) = true := by kernel_rfl
theorem j28 : ((Rows.fnTextDatesRow.kinds == (if Rows.fnTextDatesRow.domain.isEmpty then [] else Tryz.f17.params.toList.map fun t => match Tryz.prog.underlying t with | some (.int k) => some k | _ => none))) = true := by kernel_rfl
theorem j29 : ((Rows.fnTextDatesRow.pinned == Rows.fnTextDatesRow.pinnedBy)) = true := by kernel_rfl
theorem j30 : ((Rows.fnTextDatesRow.veiled == (Tryz.f17.params.toList ++ (OpenSpec.ofChange Rows.fnTextDatesSpec).bare.plain.varTypes Tryz.prog ++ Tryz.f17.resultTypes.toList).any (Tryz.prog.veiledRec ·))) = true := by kernel_rfl
theorem j31 : (Rows.fnTextDatesRow.veiledFits Tryz.prog Tryz.f17.params.toList (Tryz.f17.params.toList ++ (OpenSpec.ofChange Rows.fnTextDatesSpec).bare.plain.varTypes Tryz.prog ++ Tryz.f17.resultTypes.toList)) = true := by kernel_rfl
set_option maxRecDepth 100000 in
theorem closed : joinedFacts Tryz.pinned.checked.prog 17 Tryz.f17 (OpenSpec.ofChange Rows.fnTextDatesSpec).bare Rows.fnTextDatesRow = true := (band (band (band (band (band (band (band (band (band (band (band (band (band (band (band (band (band (band (band (band (band (band (band (band (band (band (band (band (band (band (band j0 j1) j2) j3) j4) j5) j6) j7) j8) j9) j10) j11) j12) j13) j14) j15) j16) j17) j18) j19) j20) j21) j22) j23) j24) j25) j26) j27) j28) j29) j30) j31)

theorem own : ownKnob Tryz.prog.godebug = none := by kernel_rfl
theorem laid_met (os : Os) (args : Array Value) : laidMet Tryz.prog Rows.fnTextDatesRow.laid ((laidWorld os).forCall (fun _ _ => 0) ⟨#[], args, []⟩).memory :=
  (((((piece1 os args).append (piece3 os args) (by kernel_rfl)).append (piece4 os args) (by kernel_rfl)).append (piece5 os args) (by kernel_rfl)).append (piece6 os args) (by kernel_rfl)).met
theorem good {W : World} (h : laidMet Tryz.prog Rows.fnTextDatesRow.laid W) : Good W :=
  good_of h (by simp [Rows.fnTextDatesRow]; kernel_rfl) (by simp [Rows.fnTextDatesRow]; kernel_rfl) (by simp [Rows.fnTextDatesRow]; kernel_rfl) (by simp [Rows.fnTextDatesRow]; kernel_rfl) (by simp [Rows.fnTextDatesRow]; kernel_rfl) (by simp [Rows.fnTextDatesRow]; kernel_rfl)
    (List.mem_of_getElem? (i := 5) rfl) (List.mem_of_getElem? (i := 4) rfl) (List.mem_of_getElem? (i := 8) rfl) (List.mem_of_getElem? (i := 9) rfl) (List.mem_of_getElem? (i := 10) rfl) (List.mem_of_getElem? (i := 11) rfl) (List.mem_of_getElem? (i := 12) rfl) (List.mem_of_getElem? (i := 13) rfl) (List.mem_of_getElem? (i := 14) rfl)

set_option maxRecDepth 100000 in
set_option maxHeartbeats 1600000 in
/-- What the walk gives, for every argument and every world that holds the list. -/
theorem contract (H : Type) (enc : TypeId × Value → H) (W : World) (base : Nat) (args : Array Value) (ds gs : List (DataW H)) (before : List MemPlace)
    (hval : ∀ (j : Nat) t v, Tryz.f17.params[j]? = some t → args[j]? = some v → Value.okWide Tryz.prog W .any base t v)
    (hW : DataW.Whole enc Tryz.prog Tryz.f17.params.toList Rows.fnTextDatesSpec.vars false W args.toList ds gs before) (hL : laidMet Tryz.prog Rows.fnTextDatesRow.laid W) :
    Calls Tryz.prog 17 args W fun e W' => ∃ v, e = .returned v ∧ Rows.fnTextDatesSpec.post enc Tryz.prog Tryz.f17 false true false false W args v W' := by
  have hW' := hW
  obtain ⟨p, q, hA0, hV, rfl, hfz, hnd⟩ := hW
  have hA : DataW.TrodAll enc Tryz.prog W 0 (fun _ => true) true Tryz.f17.params.toList args.toList ds p := hA0
  rw [Tryz.params17] at hA hval
  obtain ⟨v0, vs0, d0, ds0, p0, q0, hargs0, e0, f0, h0, r0⟩ := trodAll_cons hA
  obtain ⟨v1, vs1, d1, ds1, p1, q1, hargs1, e1, f1, h1, r1⟩ := trodAll_cons r0
  obtain ⟨v2, vs2, d2, ds2, p2, q2, hargs2, e2, f2, h2, r2⟩ := trodAll_cons r1
  obtain ⟨z1, z2, z3⟩ := trodAll_nil r2
  subst z1; subst z2; subst z3
  subst e2; subst f2; subst hargs2
  subst e1; subst f1; subst hargs1
  subst e0; subst f0
  obtain rfl : args = #[v0, v1, v2] := by cases args; simp_all
  obtain ⟨z4, z5⟩ := trodVars_none hV
  subst z4; subst z5
  have hk0 := h0
  obtain ⟨xs0, hx0⟩ := moms_open (hval 0 49 v0 rfl rfl) h0
  have hk1 := h1
  obtain ⟨xs1, hx1⟩ := bytes_open (hval 1 37 v1 rfl rfl) h1
  obtain ⟨n2, zz2, zy2, zx2, hw2⟩ := open_int Tryz.underlying5 (hval 2 5 v2 rfl rfl) h2
  subst zz2; subst zy2; subst zx2
  have hlt0 : ∀ x ∈ p0, x.block < W.heap.size := fun x hx => by simpa using hW'.lt x (by simp [hx])
  have hlt1 : ∀ x ∈ p1, x.block < W.heap.size := fun x hx => by simpa using hW'.lt x (by simp [hx])
  clear hA0
  simp only [List.append_nil] at hW'
  have walk : Calls Tryz.prog 17 #[v0, v1, .int .u8 n2] W fun e w' => e = .returned (.bool true) ∧ Below W.heap.size W w' := (by obtain ⟨a, rfl⟩ : ∃ a : Nat, n2 = (a : Int) := ⟨n2.toNat, by have := wf_8 hw2; omega⟩; exact law_dates rule_any xs0 xs1 a v0 v1 W (good hL) hx0 hx1)
  refine walk.mono fun e W' ⟨he, hg⟩ => ?_
  subst he
  refine ⟨_, rfl, _, _, _, [], (p0 ++ (p1 ++ [])), [], hW', ?_, ?_, ?_, hg.frame _, fun h => by cases h⟩
  · exact trodAll_cons_mk (shut_bool Tryz.underlying4 _) trodAll_mk0
  · exact trodAll_cons_mk (Below.trod j1 (by kernel_rfl) (of_decide_eq_true (by kernel_rfl)) hk0 hg (hlt0)) (trodAll_cons_mk (Below.trod j1 (by kernel_rfl) (of_decide_eq_true (by kernel_rfl)) hk1 hg (hlt1)) (trodAll_cons_mk (shut_int Tryz.underlying5 hw2) trodAll_mk0))
  · rfl
theorem reads (os : Os) {H : Type} (enc : TypeId × Value → H) : ∃ places, DataW.whole enc Tryz.prog ((laidWorld os).forCall (fun _ _ => 0) ⟨#[], #[(.slice none 0 0 : Value), .slice none 0 0, .int .u8 0], []⟩).memory Tryz.f17.params.toList Rows.fnTextDatesSpec.vars false #[(.slice none 0 0 : Value), .slice none 0 0, .int .u8 0].toList 8 = some ([.nil, .nil, .lit (.int .u8 0)], [], places) :=
  ⟨[], by kernel_rfl⟩
set_option maxRecDepth 100000 in
set_option maxHeartbeats 1600000 in
theorem lifted (os : Os) (started : os.Started) (H : Type) (enc : TypeId × Value → H) (F : Stop.Interp) :
    ReturnsInHanded {} Tryz.checked os 17 .any ((OpenSpec.ofChange Rows.fnTextDatesSpec).preRow enc Tryz.prog Tryz.f17 Rows.fnTextDatesRow.domain false Rows.fnTextDatesRow.laid) (((OpenSpec.ofChange Rows.fnTextDatesSpec).at F).post enc Tryz.prog Tryz.f17 false true false false) := by
  obtain ⟨places, hx⟩ := reads os enc
  refine returnsInHanded_of_row (C := Tryz.checked) (s := OpenSpec.ofChange Rows.fnTextDatesSpec) own started (by kernel_rfl) Tryz.func17
    (witness_row_atRef (enc := enc) (C := Tryz.checked) false (laidWorld os) #[(.slice none 0 0 : Value), .slice none 0 0, .int .u8 0] rfl (by kernel_rfl) (by kernel_rfl) (by kernel_rfl)
      (OpenSpec.preRow_of_cond 8 hx (by kernel_rfl) (fun k hk => by cases hk) (by kernel_rfl) (laid_met os _))) ?_
  intro W base args ds gs before hval hW _ _ _ hL _ _
  exact contract H enc W base args ds gs before hval hW hL
theorem named : Tryz.pinned.checked.prog.funcNamed Rows.fnTextDatesRow.func = some 17 := by kernel_rfl
theorem inst : Tryz.f17.isInstance Tryz.pinned.checked.prog Rows.fnTextDatesRow.origin Rows.fnTextDatesRow.targs := of_decide_eq_true (by kernel_rfl)
theorem wrap : Tryz.f17.isWrapper Tryz.pinned.checked.prog Rows.fnTextDatesRow.wrapper Rows.fnTextDatesRow.mainSum := by
  unfold Func.isWrapper; first | (rw [if_pos (by decide +kernel)]; kernel_rfl) | (rw [if_neg (by decide +kernel)]; exact ⟨rfl, rfl⟩)
set_option maxRecDepth 100000 in
set_option maxHeartbeats 1600000 in
theorem said : Rows.FnTextDatesSaid :=
  OpenClaim.holds_of_cond 17 Tryz.f17 rfl rfl rfl rfl rfl rfl rfl ⟨rfl, rfl, rfl, rfl, rfl⟩ rfl rfl rfl rfl rfl named Tryz.func17 closed inst wrap
    (fun os started H enc _ F => by rw [OpenClaim.pre_eq_preRow]; exact lifted os started H enc F)
theorem plain (f : FuncId) (fn : Func) (hf : Tryz.pinned.checked.prog.funcNamed "pub-ferial/laws.FnTextDates" = some f) (hfn : Tryz.pinned.checked.prog.funcs[f]? = some fn) :
    true = Tryz.pinned.checked.prog.looks [] ∧ ∀ (j : Nat) t, fn.params[j]? = some t → Tryz.pinned.checked.prog.wantsStandIn t = false := by
  obtain rfl : f = 17 := Option.some.inj (named.symm.trans hf) |>.symm
  obtain rfl : fn = Tryz.f17 := (Option.some.inj (Tryz.func17.symm.trans hfn)).symm
  refine ⟨by kernel_rfl, fun j t ht => ?_⟩
  rw [Tryz.params17] at ht
  have hm := Array.mem_of_getElem? ht
  have hc : t = 5 ∨ t = 37 ∨ t = 49 := by
    simp at hm
    first
      | (rcases hm with h | h | h <;> simp [h])
      | (rcases hm with h | h <;> simp [h])
  rcases hc with rfl | rfl | rfl
  · exact (show Tryz.prog.wantsStandIn 5 = false by kernel_rfl)
  · exact (show Tryz.prog.wantsStandIn 37 = false by kernel_rfl)
  · exact (show Tryz.prog.wantsStandIn 49 = false by kernel_rfl)
theorem looked : Tryz.pinned.checked.prog.looks [] = true := by kernel_rfl
/-- The card. -/
theorem card : Rows.FnTextDatesCardSaid :=
  Claim7.holds_tied_plain_at .later [] _ _ _ _ said (fun _ h => by cases h) (by kernel_rfl) (fun _ h => by cases h) fnTextDates_row_tie rfl ⟨rfl, rfl⟩ (by kernel_rfl) rfl plain (by kernel_rfl)
end Go.Proofs.YtcfbkkcamiephaaGreatDoor.fnTextDates
