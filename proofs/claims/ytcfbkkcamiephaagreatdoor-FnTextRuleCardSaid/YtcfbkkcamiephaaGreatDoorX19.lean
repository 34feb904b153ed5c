/-
  FnTextRule: the law returns true for every input, and the input reads as it did (the tied card).
  Conditions: those of the given row alone.
-/
import Derived.Test.YtcfbkkcamiephaaGreatDoorRj
import Derived.Test.YtcfbkkcamiephaaGreatDoorO1
import Derived.Test.YtcfbkkcamiephaaGreatDoorL1
import Derived.Test.YtcfbkkcamiephaaGreatDoorE7
import Derived.Test.YtcfbkkcamiephaaGreatDoorCards
import Derived.Test.YtcfbkkcamiephaaGreatDoorTie
import Derived.WalkKit
import Derived.ProofKit
import Derived.OpenShut
import Derived.Carry
import Derived.JoinedCond
import Derived.Deep.DeepHandedRow
import Derived.Deep.DeepWitnessRowRef
namespace Go.Proofs.YtcfbkkcamiephaaGreatDoor.fnTextRule
open Go.ChangeShapes Go.WideShapes Go.ChangeAt Go.RowKit Go.Lib Go.ChangeMaps

/-! ### the closed facts of the row, each by itself -/
theorem band {a b : Bool} (ha : a = true) (hb : b = true) : (a && b) = true := by rw [ha, hb]; rfl
theorem j0 : (Rows.fnTextRuleRow.wf (OpenSpec.ofChange (OpenSpec.ofChange Rows.fnTextRuleSpec).bare)) = true := by kernel_rfl
theorem j1 : (laidOutB Tryz.prog) = true := by kernel_rfl
theorem j2 : (mapsRowed Tryz.prog) = true := by kernel_rfl
theorem j3 : (Tryz.f12.params.all (Tryz.prog.readableRec ·)) = true := by kernel_rfl
theorem j4 : (namedTie Tryz.prog Rows.fnTextRuleRow.named (OpenSpec.ofChange Rows.fnTextRuleSpec).bare.vars) = true := by kernel_rfl
theorem j5 : ((Rows.fnTextRuleRow.stops == [])) = true := by kernel_rfl
theorem j6 : ((Tryz.prog.stops == [])) = true := by kernel_rfl
theorem j7 : ((Rows.fnTextRuleRow.knobs == [])) = true := by kernel_rfl
theorem j8 : ((Tryz.prog.stopKnobs == [])) = true := by kernel_rfl
theorem j9 : ((Rows.fnTextRuleRow.inPlace == Tryz.prog.inPlace 12)) = true := by kernel_rfl
theorem j10 : ((Rows.fnTextRuleRow.unfollowed == Tryz.prog.unfollowed 12)) = true := by kernel_rfl
theorem j11 : ((Rows.fnTextRuleRow.recurses == Tryz.prog.recurses 12)) = true := by kernel_rfl
theorem j12 : ((Rows.fnTextRuleRow.named == Tryz.prog.varsNamed 12)) = true := by kernel_rfl
theorem j13 : ((Rows.fnTextRuleRow.maps == (Tryz.f12.params.toList ++ (OpenSpec.ofChange Rows.fnTextRuleSpec).bare.plain.varTypes Tryz.prog).any (Tryz.prog.mapsRec ·))) = true := by kernel_rfl
theorem j14 : ((Rows.fnTextRuleRow.ifaces == (Tryz.f12.params.toList ++ (OpenSpec.ofChange Rows.fnTextRuleSpec).bare.plain.varTypes Tryz.prog).any (Tryz.prog.ifacesRec ·))) = true := by kernel_rfl
theorem j15 : ((Rows.fnTextRuleRow.mapsOut == Tryz.prog.mapsAmong Tryz.f12.resultTypes.toList)) = true := by kernel_rfl
theorem j16 : ((Rows.fnTextRuleRow.loops == (Tryz.f12.params.toList ++ (OpenSpec.ofChange Rows.fnTextRuleSpec).bare.plain.varTypes Tryz.prog).any (Tryz.prog.loopsFrom ·))) = true := by kernel_rfl
theorem j17 : ((Rows.fnTextRuleRow.wideKeys == (Tryz.f12.params.toList ++ (OpenSpec.ofChange Rows.fnTextRuleSpec).bare.plain.varTypes Tryz.prog ++ Tryz.f12.resultTypes.toList).any (Tryz.prog.wideKeysFrom ·))) = true := by kernel_rfl
theorem j18 : ((OpenSpec.ofChange Rows.fnTextRuleSpec).bare.vars.all (Tryz.prog.varReadable ·)) = true := by kernel_rfl
theorem j19 : (Tryz.f12.resultTypes.all (fun t => Tryz.prog.readableRec t && decide (t < Tryz.prog.types.size))) = true := by kernel_rfl
theorem j20 : ((Rows.fnTextRuleRow.ifacesOut == Tryz.f12.resultTypes.toList.any (Tryz.prog.ifacesRec ·))) = true := by kernel_rfl
theorem j21 : ((Rows.fnTextRuleRow.loopsOut == Tryz.f12.resultTypes.toList.any (Tryz.prog.loopsFrom ·))) = true := by kernel_rfl
theorem j22 : ((Rows.fnTextRuleRow.plainKeys == Tryz.prog.plainKeys)) = true := by kernel_rfl
theorem j23 : (Rows.fnTextRuleRow.shortTexts.isNone) = true := by kernel_rfl
theorem j24 : (Tryz.prog.stopsHeard) = true := by kernel_rfl
theorem j25 : (Tryz.prog.mayEnter) = true := by kernel_rfl
theorem j26 : ((Rows.fnTextRuleRow.lifted == Tryz.prog.liftsFinal)) = true := by kernel_rfl
theorem j27 : ((Tryz.prog.make == some Rows.fnTextRuleRow.make)) = true := by kernel_rfl
theorem j28 : ((Rows.fnTextRuleRow.kinds == (if Rows.fnTextRuleRow.domain.isEmpty then [] else Tryz.f12.params.toList.map fun t => match Tryz.prog.underlying t with | some (.int k) => some k | _ => none))) = true := by kernel_rfl
theorem j29 : ((Rows.fnTextRuleRow.pinned == Rows.fnTextRuleRow.pinnedBy)) = true := by kernel_rfl
theorem j30 : ((Rows.fnTextRuleRow.veiled == (Tryz.f12.params.toList ++ (OpenSpec.ofChange Rows.fnTextRuleSpec).bare.plain.varTypes Tryz.prog ++ Tryz.f12.resultTypes.toList).any (Tryz.prog.veiledRec ·))) = true := by kernel_rfl
theorem j31 : (Rows.fnTextRuleRow.veiledFits Tryz.prog Tryz.f12.params.toList (Tryz.f12.params.toList ++ (OpenSpec.ofChange Rows.fnTextRuleSpec).bare.plain.varTypes Tryz.prog ++ Tryz.f12.resultTypes.toList)) = true := by kernel_rfl
set_option maxRecDepth 100000 in
theorem closed : joinedFacts Tryz.pinned.checked.prog 12 Tryz.f12 (OpenSpec.ofChange Rows.fnTextRuleSpec).bare Rows.fnTextRuleRow = true := (band (band (band (band (band (band (band (band (band (band (band (band (band (band (band (band (band (band (band (band (band (band (band (band (band (band (band (band (band (band (band j0 j1) j2) j3) j4) j5) j6) j7) j8) j9) j10) j11) j12) j13) j14) j15) j16) j17) j18) j19) j20) j21) j22) j23) j24) j25) j26) j27) j28) j29) j30) j31)

theorem own : ownKnob Tryz.prog.godebug = none := by kernel_rfl
theorem laid_met (os : Os) (args : Array Value) : laidMet Tryz.prog Rows.fnTextRuleRow.laid ((laidWorld os).forCall (fun _ _ => 0) ⟨#[], args, []⟩).memory :=
  (((((((piece1 os args).append (pieceD os args) (by kernel_rfl)).append (piece2 os args) (by kernel_rfl)).append (piece3 os args) (by kernel_rfl)).append (piece4 os args) (by kernel_rfl)).append (piece5 os args) (by kernel_rfl)).append (piece6 os args) (by kernel_rfl)).met
theorem good {W : World} (h : laidMet Tryz.prog Rows.fnTextRuleRow.laid W) : Good W :=
  good_of h (by simp [Rows.fnTextRuleRow]; kernel_rfl) (by simp [Rows.fnTextRuleRow]; kernel_rfl) (by simp [Rows.fnTextRuleRow]; kernel_rfl) (by simp [Rows.fnTextRuleRow]; kernel_rfl) (by simp [Rows.fnTextRuleRow]; kernel_rfl) (by simp [Rows.fnTextRuleRow]; kernel_rfl)
    (List.mem_of_getElem? (i := 7) rfl) (List.mem_of_getElem? (i := 6) rfl) (List.mem_of_getElem? (i := 10) rfl) (List.mem_of_getElem? (i := 11) rfl) (List.mem_of_getElem? (i := 12) rfl) (List.mem_of_getElem? (i := 13) rfl) (List.mem_of_getElem? (i := 14) rfl) (List.mem_of_getElem? (i := 15) rfl) (List.mem_of_getElem? (i := 16) rfl)
theorem freqs {W : World} (h : laidMet Tryz.prog Rows.fnTextRuleRow.laid W) : Freqs W := freqs_of h (List.mem_of_getElem? (i := 5) rfl)
theorem dayNms {W : World} (h : laidMet Tryz.prog Rows.fnTextRuleRow.laid W) : DayNms W := dayNms_of h (List.mem_of_getElem? (i := 4) rfl)

set_option maxRecDepth 100000 in
set_option maxHeartbeats 1600000 in
/-- What the walk gives, for every argument and every world that holds the list. -/
theorem contract (H : Type) (enc : TypeId × Value → H) (W : World) (base : Nat) (args : Array Value) (ds gs : List (DataW H)) (before : List MemPlace)
    (hval : ∀ (j : Nat) t v, Tryz.f12.params[j]? = some t → args[j]? = some v → Value.okWide Tryz.prog W .any base t v)
    (hW : DataW.Whole enc Tryz.prog Tryz.f12.params.toList Rows.fnTextRuleSpec.vars false W args.toList ds gs before) (hL : laidMet Tryz.prog Rows.fnTextRuleRow.laid W) :
    Calls Tryz.prog 12 args W fun e W' => ∃ v, e = .returned v ∧ Rows.fnTextRuleSpec.post enc Tryz.prog Tryz.f12 false true false false W args v W' := by
  have hW' := hW
  obtain ⟨p, q, hA0, hV, rfl, hfz, hnd⟩ := hW
  have hA : DataW.TrodAll enc Tryz.prog W 0 (fun _ => true) true Tryz.f12.params.toList args.toList ds p := hA0
  rw [Tryz.params12] at hA hval
  obtain ⟨v0, vs0, d0, ds0, p0, q0, hargs0, e0, f0, h0, r0⟩ := trodAll_cons hA
  obtain ⟨z1, z2, z3⟩ := trodAll_nil r0
  subst z1; subst z2; subst z3
  subst e0; subst f0
  obtain rfl : args = #[v0] := by cases args; simp_all
  obtain ⟨z4, z5⟩ := trodVars_none hV
  subst z4; subst z5
  have hk0 := h0
  obtain ⟨r0', hv0, hin0⟩ := rule_open (hval 0 26 v0 rfl rfl) h0
  have hlt0 : ∀ x ∈ p0, x.block < W.heap.size := fun x hx => by simpa using hW'.lt x (by simp [hx])
  clear hA0
  simp only [List.append_nil] at hW'
  have walk : Calls Tryz.prog 12 #[v0] W fun e w' => e = .returned (.bool true) ∧ Below W.heap.size W w' := (law_rule build_any rule_any r0' v0 W (good hL) (dayNms hL) (freqs hL) hv0 hin0)
  refine walk.mono fun e W' ⟨he, hg⟩ => ?_
  subst he
  refine ⟨_, rfl, _, _, _, [], (p0 ++ []), [], hW', ?_, ?_, ?_, hg.frame _, fun h => by cases h⟩
  · exact trodAll_cons_mk (shut_bool Tryz.underlying4 _) trodAll_mk0
  · exact trodAll_cons_mk (Below.trod j1 (by kernel_rfl) (of_decide_eq_true (by kernel_rfl)) hk0 hg (hlt0)) trodAll_mk0
  · rfl
theorem reads (os : Os) {H : Type} (enc : TypeId × Value → H) : ∃ places, DataW.whole enc Tryz.prog ((laidWorld os).forCall (fun _ _ => 0) ⟨#[], #[(.agg #[.int .u8 0, .bool false, .int .i64 0, .int .i64 0, .int .i64 0, .int .i64 0, .bool false, .int .i64 0, .slice none 0 0, .slice none 0 0, .slice none 0 0, .slice none 0 0, .slice none 0 0, .slice none 0 0, .slice none 0 0, .slice none 0 0, .slice none 0 0, .slice none 0 0] : Value)], []⟩).memory Tryz.f12.params.toList Rows.fnTextRuleSpec.vars false #[(.agg #[.int .u8 0, .bool false, .int .i64 0, .int .i64 0, .int .i64 0, .int .i64 0, .bool false, .int .i64 0, .slice none 0 0, .slice none 0 0, .slice none 0 0, .slice none 0 0, .slice none 0 0, .slice none 0 0, .slice none 0 0, .slice none 0 0, .slice none 0 0, .slice none 0 0] : Value)].toList 8 = some ([.agg [.lit (.int .u8 0), .lit (.bool false), .lit (.int .i64 0), .lit (.int .i64 0), .lit (.int .i64 0), .lit (.int .i64 0), .lit (.bool false), .lit (.int .i64 0), .nil, .nil, .nil, .nil, .nil, .nil, .nil, .nil, .nil, .nil]], [], places) :=
  ⟨[], by kernel_rfl⟩
set_option maxRecDepth 100000 in
set_option maxHeartbeats 1600000 in
theorem lifted (os : Os) (started : os.Started) (H : Type) (enc : TypeId × Value → H) (F : Stop.Interp) :
    ReturnsInHanded {} Tryz.checked os 12 .any ((OpenSpec.ofChange Rows.fnTextRuleSpec).preRow enc Tryz.prog Tryz.f12 Rows.fnTextRuleRow.domain false Rows.fnTextRuleRow.laid) (((OpenSpec.ofChange Rows.fnTextRuleSpec).at F).post enc Tryz.prog Tryz.f12 false true false false) := by
  obtain ⟨places, hx⟩ := reads os enc
  refine returnsInHanded_of_row (C := Tryz.checked) (s := OpenSpec.ofChange Rows.fnTextRuleSpec) own started (by kernel_rfl) Tryz.func12
    (witness_row_atRef (enc := enc) (C := Tryz.checked) false (laidWorld os) #[(.agg #[.int .u8 0, .bool false, .int .i64 0, .int .i64 0, .int .i64 0, .int .i64 0, .bool false, .int .i64 0, .slice none 0 0, .slice none 0 0, .slice none 0 0, .slice none 0 0, .slice none 0 0, .slice none 0 0, .slice none 0 0, .slice none 0 0, .slice none 0 0, .slice none 0 0] : Value)] rfl (by kernel_rfl) (by kernel_rfl) (by kernel_rfl)
      (OpenSpec.preRow_of_cond 8 hx (by kernel_rfl) (fun k hk => by cases hk) (by kernel_rfl) (laid_met os _))) ?_
  intro W base args ds gs before hval hW _ _ _ hL _ _
  exact contract H enc W base args ds gs before hval hW hL
theorem named : Tryz.pinned.checked.prog.funcNamed Rows.fnTextRuleRow.func = some 12 := by kernel_rfl
theorem inst : Tryz.f12.isInstance Tryz.pinned.checked.prog Rows.fnTextRuleRow.origin Rows.fnTextRuleRow.targs := of_decide_eq_true (by kernel_rfl)
theorem wrap : Tryz.f12.isWrapper Tryz.pinned.checked.prog Rows.fnTextRuleRow.wrapper Rows.fnTextRuleRow.mainSum := by
  unfold Func.isWrapper; first | (rw [if_pos (by decide +kernel)]; kernel_rfl) | (rw [if_neg (by decide +kernel)]; exact ⟨rfl, rfl⟩)
set_option maxRecDepth 100000 in
set_option maxHeartbeats 1600000 in
theorem said : Rows.FnTextRuleSaid :=
  OpenClaim.holds_of_cond 12 Tryz.f12 rfl rfl rfl rfl rfl rfl rfl ⟨rfl, rfl, rfl, rfl, rfl⟩ rfl rfl rfl rfl rfl named Tryz.func12 closed inst wrap
    (fun os started H enc _ F => by rw [OpenClaim.pre_eq_preRow]; exact lifted os started H enc F)
theorem plain (f : FuncId) (fn : Func) (hf : Tryz.pinned.checked.prog.funcNamed "pub-ferial/laws.FnTextRule" = some f) (hfn : Tryz.pinned.checked.prog.funcs[f]? = some fn) :
    true = Tryz.pinned.checked.prog.looks [] ∧ ∀ (j : Nat) t, fn.params[j]? = some t → Tryz.pinned.checked.prog.wantsStandIn t = false := by
  obtain rfl : f = 12 := Option.some.inj (named.symm.trans hf) |>.symm
  obtain rfl : fn = Tryz.f12 := (Option.some.inj (Tryz.func12.symm.trans hfn)).symm
  refine ⟨by kernel_rfl, fun j t ht => ?_⟩
  rw [Tryz.params12] at ht
  have hm := Array.mem_of_getElem? ht
  obtain rfl : t = 26 := by simpa using hm
  exact (show Tryz.prog.wantsStandIn 26 = false by kernel_rfl)
theorem looked : Tryz.pinned.checked.prog.looks [] = true := by kernel_rfl
/-- The card. -/
theorem card : Rows.FnTextRuleCardSaid :=
  Claim7.holds_tied_plain_at .later [] _ _ _ _ said (fun _ h => by cases h) (by kernel_rfl) (fun _ h => by cases h) fnTextRule_row_tie rfl ⟨rfl, rfl⟩ (by kernel_rfl) rfl plain (by kernel_rfl)
end Go.Proofs.YtcfbkkcamiephaaGreatDoor.fnTextRule
