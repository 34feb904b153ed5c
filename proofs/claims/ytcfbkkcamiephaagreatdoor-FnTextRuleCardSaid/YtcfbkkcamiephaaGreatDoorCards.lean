/-
  DERIVED. GIVEN WITH THE SEED: THE CARDS: each row of YtcfbkkcamiephaaGreatDoorRows.lean that lists a variable, with what it lists TIED to the program's text (the seventh form; the later family's looks); each row that meets fmt, with fmt's text TOLD by the authors' own Lean function (tested against real Go, not proved from fmt's source: count such statements apart). THE CARD IS WHAT COUNTS. Prove the row's statement (the work); the ties are given (YtcfbkkcamiephaaGreatDoorTie.lean); close each card by the builder's one call (the guide's Derived/Test/ToyasCard.lean, 'card_holds'). Laid BY PROGRAM, IN A SANDBOX (cutbox-door.mjs). By AI agents, Wed Nov 11 2026. No macro, syntax, notation, axiom, sorry.
-/
import Derived.Test.YtcfbkkcamiephaaGreatDoorRows
import GoSem.ClaimSeven
namespace Go.Proofs.YtcfbkkcamiephaaGreatDoor
namespace Rows

/-- THE TIED CARD OF 'laws.FnTextAny'. -/
def fnTextAnyCard : Claim7 := { stood := { row := fnTextAnyRow, standIns := [], harness := (true, "9c80da9b7a6db997ad497c632fa392537084481fab066649a3adba8378b4987b"), looks := true }, kinds := [], alts := [], laidByText := true, laidKinds := [.data, .data, .data, .data, .data, .data, .sentinel, .sentinel, .listed, .data, .data, .data, .data, .data, .data, .data, .data, .pinned, .pinned], laidTests := true, laidLooks := .later }
def FnTextAnyCardSaid : Prop := Claim7.holds Tryz.pinned (.plain (OpenSpec.ofChange fnTextAnySpec)) fnTextAnyCard

/-- THE TIED CARD OF 'laws.FnTextBlanks'. -/
def fnTextBlanksCard : Claim7 := { stood := { row := fnTextBlanksRow, standIns := [], harness := (true, "9c80da9b7a6db997ad497c632fa392537084481fab066649a3adba8378b4987b"), looks := true }, kinds := [], alts := [], laidByText := true, laidKinds := [.data, .data, .data, .data, .data, .data, .sentinel, .sentinel, .listed, .data, .data, .data, .data, .data, .data, .data, .data, .pinned, .pinned], laidTests := true, laidLooks := .later }
def FnTextBlanksCardSaid : Prop := Claim7.holds Tryz.pinned (.plain (OpenSpec.ofChange fnTextBlanksSpec)) fnTextBlanksCard

/-- THE TIED CARD OF 'laws.FnTextLast'. -/
def fnTextLastCard : Claim7 := { stood := { row := fnTextLastRow, standIns := [], harness := (true, "9c80da9b7a6db997ad497c632fa392537084481fab066649a3adba8378b4987b"), looks := true }, kinds := [], alts := [], laidByText := true, laidKinds := [.data, .data, .data, .data, .data, .data, .sentinel, .sentinel, .listed, .data, .data, .data, .data, .data, .data, .data, .data, .pinned, .pinned], laidTests := true, laidLooks := .later }
def FnTextLastCardSaid : Prop := Claim7.holds Tryz.pinned (.plain (OpenSpec.ofChange fnTextLastSpec)) fnTextLastCard

/-- THE TIED CARD OF 'laws.FnTextMoment'. -/
def fnTextMomentCard : Claim7 := { stood := { row := fnTextMomentRow, standIns := [], harness := (true, "9c80da9b7a6db997ad497c632fa392537084481fab066649a3adba8378b4987b"), looks := true }, kinds := [], alts := [], laidByText := true, laidKinds := [.data, .data, .data, .data, .sentinel, .sentinel, .listed, .data, .data, .data, .data, .data, .data, .data, .data, .pinned, .pinned], laidTests := true, laidLooks := .later }
def FnTextMomentCardSaid : Prop := Claim7.holds Tryz.pinned (.plain (OpenSpec.ofChange fnTextMomentSpec)) fnTextMomentCard

/-- THE TIED CARD OF 'laws.FnTextOrder'. -/
def fnTextOrderCard : Claim7 := { stood := { row := fnTextOrderRow, standIns := [], harness := (true, "9c80da9b7a6db997ad497c632fa392537084481fab066649a3adba8378b4987b"), looks := true }, kinds := [], alts := [], laidByText := true, laidKinds := [.data, .data, .data, .data, .data, .data, .sentinel, .sentinel, .listed, .data, .data, .data, .data, .data, .data, .data, .data, .pinned, .pinned], laidTests := true, laidLooks := .later }
def FnTextOrderCardSaid : Prop := Claim7.holds Tryz.pinned (.plain (OpenSpec.ofChange fnTextOrderSpec)) fnTextOrderCard

/-- THE TIED CARD OF 'laws.FnTextRefused'. -/
def fnTextRefusedCard : Claim7 := { stood := { row := fnTextRefusedRow, standIns := [], harness := (true, "9c80da9b7a6db997ad497c632fa392537084481fab066649a3adba8378b4987b"), looks := true }, kinds := [], alts := [], laidByText := true, laidKinds := [.data, .data, .data, .data, .data, .data, .sentinel, .sentinel, .listed, .data, .data, .data, .data, .data, .data, .data, .data, .pinned, .pinned], laidTests := true, laidLooks := .later }
def FnTextRefusedCardSaid : Prop := Claim7.holds Tryz.pinned (.plain (OpenSpec.ofChange fnTextRefusedSpec)) fnTextRefusedCard

/-- THE TIED CARD OF 'laws.FnTextStart'. -/
def fnTextStartCard : Claim7 := { stood := { row := fnTextStartRow, standIns := [], harness := (true, "9c80da9b7a6db997ad497c632fa392537084481fab066649a3adba8378b4987b"), looks := true }, kinds := [], alts := [], laidByText := true, laidKinds := [.data, .data, .data, .data, .data, .data, .sentinel, .sentinel, .listed, .data, .data, .data, .data, .data, .data, .data, .data, .pinned, .pinned], laidTests := true, laidLooks := .later }
def FnTextStartCardSaid : Prop := Claim7.holds Tryz.pinned (.plain (OpenSpec.ofChange fnTextStartSpec)) fnTextStartCard

/-- THE TIED CARD OF 'laws.FnTextTwice'. -/
def fnTextTwiceCard : Claim7 := { stood := { row := fnTextTwiceRow, standIns := [], harness := (true, "9c80da9b7a6db997ad497c632fa392537084481fab066649a3adba8378b4987b"), looks := true }, kinds := [], alts := [], laidByText := true, laidKinds := [.data, .data, .data, .data, .data, .data, .sentinel, .sentinel, .listed, .data, .data, .data, .data, .data, .data, .data, .data, .pinned, .pinned], laidTests := true, laidLooks := .later }
def FnTextTwiceCardSaid : Prop := Claim7.holds Tryz.pinned (.plain (OpenSpec.ofChange fnTextTwiceSpec)) fnTextTwiceCard

/-- THE TIED CARD OF 'laws.FnTextDay'. -/
def fnTextDayCard : Claim7 := { stood := { row := fnTextDayRow, standIns := [], harness := (true, "9c80da9b7a6db997ad497c632fa392537084481fab066649a3adba8378b4987b"), looks := true }, kinds := [], alts := [], laidByText := true, laidKinds := [.data, .data, .data, .data, .data, .sentinel, .sentinel, .listed, .data, .data, .data, .data, .data, .data, .data, .data, .pinned, .pinned], laidTests := true, laidLooks := .later }
def FnTextDayCardSaid : Prop := Claim7.holds Tryz.pinned (.plain (OpenSpec.ofChange fnTextDaySpec)) fnTextDayCard

/-- THE TIED CARD OF 'laws.FnTextRule'. -/
def fnTextRuleCard : Claim7 := { stood := { row := fnTextRuleRow, standIns := [], harness := (true, "9c80da9b7a6db997ad497c632fa392537084481fab066649a3adba8378b4987b"), looks := true }, kinds := [], alts := [], laidByText := true, laidKinds := [.data, .data, .data, .data, .data, .data, .sentinel, .sentinel, .listed, .data, .data, .data, .data, .data, .data, .data, .data, .pinned, .pinned], laidTests := true, laidLooks := .later }
def FnTextRuleCardSaid : Prop := Claim7.holds Tryz.pinned (.plain (OpenSpec.ofChange fnTextRuleSpec)) fnTextRuleCard

/-- THE TIED CARD OF 'laws.FnTextBack'. -/
def fnTextBackCard : Claim7 := { stood := { row := fnTextBackRow, standIns := [], harness := (true, "9c80da9b7a6db997ad497c632fa392537084481fab066649a3adba8378b4987b"), looks := true }, kinds := [], alts := [], laidByText := true, laidKinds := [.data, .data, .data, .data, .sentinel, .sentinel, .listed, .data, .data, .data, .data, .data, .data, .data, .data, .pinned, .pinned], laidTests := true, laidLooks := .later }
def FnTextBackCardSaid : Prop := Claim7.holds Tryz.pinned (.plain (OpenSpec.ofChange fnTextBackSpec)) fnTextBackCard

/-- THE TIED CARD OF 'laws.FnTextIs'. -/
def fnTextIsCard : Claim7 := { stood := { row := fnTextIsRow, standIns := [], harness := (true, "9c80da9b7a6db997ad497c632fa392537084481fab066649a3adba8378b4987b"), looks := true }, kinds := [], alts := [], laidByText := true, laidKinds := [.data, .data, .data, .data, .data, .data, .sentinel, .sentinel, .listed, .data, .data, .data, .data, .data, .data, .data, .data, .pinned, .pinned], laidTests := true, laidLooks := .later }
def FnTextIsCardSaid : Prop := Claim7.holds Tryz.pinned (.plain (OpenSpec.ofChange fnTextIsSpec)) fnTextIsCard

/-- THE TIED CARD OF 'laws.FnTextStartAny'. -/
def fnTextStartAnyCard : Claim7 := { stood := { row := fnTextStartAnyRow, standIns := [], harness := (true, "9c80da9b7a6db997ad497c632fa392537084481fab066649a3adba8378b4987b"), looks := true }, kinds := [], alts := [], laidByText := true, laidKinds := [.data, .data, .data, .data, .sentinel, .sentinel, .listed, .data, .data, .data, .data, .data, .data, .data, .data, .pinned, .pinned], laidTests := true, laidLooks := .later }
def FnTextStartAnyCardSaid : Prop := Claim7.holds Tryz.pinned (.plain (OpenSpec.ofChange fnTextStartAnySpec)) fnTextStartAnyCard

/-- THE TIED CARD OF 'laws.FnTextFreq'. -/
def fnTextFreqCard : Claim7 := { stood := { row := fnTextFreqRow, standIns := [], harness := (true, "9c80da9b7a6db997ad497c632fa392537084481fab066649a3adba8378b4987b"), looks := true }, kinds := [], alts := [], laidByText := true, laidKinds := [.data, .data, .data, .data, .data, .sentinel, .sentinel, .listed, .data, .data, .data, .data, .data, .data, .data, .data, .pinned, .pinned], laidTests := true, laidLooks := .later }
def FnTextFreqCardSaid : Prop := Claim7.holds Tryz.pinned (.plain (OpenSpec.ofChange fnTextFreqSpec)) fnTextFreqCard

/-- THE TIED CARD OF 'laws.FnTextDates'. -/
def fnTextDatesCard : Claim7 := { stood := { row := fnTextDatesRow, standIns := [], harness := (true, "9c80da9b7a6db997ad497c632fa392537084481fab066649a3adba8378b4987b"), looks := true }, kinds := [], alts := [], laidByText := true, laidKinds := [.data, .data, .data, .data, .sentinel, .sentinel, .listed, .data, .data, .data, .data, .data, .data, .data, .data, .pinned, .pinned], laidTests := true, laidLooks := .later }
def FnTextDatesCardSaid : Prop := Claim7.holds Tryz.pinned (.plain (OpenSpec.ofChange fnTextDatesSpec)) fnTextDatesCard

/-- THE TIED CARD OF 'laws.FnTextDatesAny'. -/
def fnTextDatesAnyCard : Claim7 := { stood := { row := fnTextDatesAnyRow, standIns := [], harness := (true, "9c80da9b7a6db997ad497c632fa392537084481fab066649a3adba8378b4987b"), looks := true }, kinds := [], alts := [], laidByText := true, laidKinds := [.data, .data, .data, .data, .sentinel, .sentinel, .listed, .data, .data, .data, .data, .data, .data, .data, .data, .pinned, .pinned], laidTests := true, laidLooks := .later }
def FnTextDatesAnyCardSaid : Prop := Claim7.holds Tryz.pinned (.plain (OpenSpec.ofChange fnTextDatesAnySpec)) fnTextDatesAnyCard

/-- THE SECOND FORM's CARD OF 'laws.FnTextAny'. -/
def fnTextAnyUptoCard : Claim7 := { stood := { row := fnTextAnyUptoRow, standIns := [], harness := (true, "9c80da9b7a6db997ad497c632fa392537084481fab066649a3adba8378b4987b"), looks := true }, kinds := [], alts := [], laidByText := true, laidKinds := [.data, .data, .data, .data, .data, .data, .sentinel, .sentinel, .listed, .data, .data, .data, .data, .data, .data, .data, .data, .pinned, .pinned], laidTests := true, laidLooks := .later }
def FnTextAnyUptoCardSaid : Prop := Claim7.holds Tryz.pinned (.plain (OpenSpec.upto fnTextAnySpec)) fnTextAnyUptoCard

/-- THE SECOND FORM's CARD OF 'laws.FnTextBlanks'. -/
def fnTextBlanksUptoCard : Claim7 := { stood := { row := fnTextBlanksUptoRow, standIns := [], harness := (true, "9c80da9b7a6db997ad497c632fa392537084481fab066649a3adba8378b4987b"), looks := true }, kinds := [], alts := [], laidByText := true, laidKinds := [.data, .data, .data, .data, .data, .data, .sentinel, .sentinel, .listed, .data, .data, .data, .data, .data, .data, .data, .data, .pinned, .pinned], laidTests := true, laidLooks := .later }
def FnTextBlanksUptoCardSaid : Prop := Claim7.holds Tryz.pinned (.plain (OpenSpec.upto fnTextBlanksSpec)) fnTextBlanksUptoCard

/-- THE SECOND FORM's CARD OF 'laws.FnTextLast'. -/
def fnTextLastUptoCard : Claim7 := { stood := { row := fnTextLastUptoRow, standIns := [], harness := (true, "9c80da9b7a6db997ad497c632fa392537084481fab066649a3adba8378b4987b"), looks := true }, kinds := [], alts := [], laidByText := true, laidKinds := [.data, .data, .data, .data, .data, .data, .sentinel, .sentinel, .listed, .data, .data, .data, .data, .data, .data, .data, .data, .pinned, .pinned], laidTests := true, laidLooks := .later }
def FnTextLastUptoCardSaid : Prop := Claim7.holds Tryz.pinned (.plain (OpenSpec.upto fnTextLastSpec)) fnTextLastUptoCard

/-- THE SECOND FORM's CARD OF 'laws.FnTextMoment'. -/
def fnTextMomentUptoCard : Claim7 := { stood := { row := fnTextMomentUptoRow, standIns := [], harness := (true, "9c80da9b7a6db997ad497c632fa392537084481fab066649a3adba8378b4987b"), looks := true }, kinds := [], alts := [], laidByText := true, laidKinds := [.data, .data, .data, .data, .sentinel, .sentinel, .listed, .data, .data, .data, .data, .data, .data, .data, .data, .pinned, .pinned], laidTests := true, laidLooks := .later }
def FnTextMomentUptoCardSaid : Prop := Claim7.holds Tryz.pinned (.plain (OpenSpec.upto fnTextMomentSpec)) fnTextMomentUptoCard

/-- THE SECOND FORM's CARD OF 'laws.FnTextOrder'. -/
def fnTextOrderUptoCard : Claim7 := { stood := { row := fnTextOrderUptoRow, standIns := [], harness := (true, "9c80da9b7a6db997ad497c632fa392537084481fab066649a3adba8378b4987b"), looks := true }, kinds := [], alts := [], laidByText := true, laidKinds := [.data, .data, .data, .data, .data, .data, .sentinel, .sentinel, .listed, .data, .data, .data, .data, .data, .data, .data, .data, .pinned, .pinned], laidTests := true, laidLooks := .later }
def FnTextOrderUptoCardSaid : Prop := Claim7.holds Tryz.pinned (.plain (OpenSpec.upto fnTextOrderSpec)) fnTextOrderUptoCard

/-- THE SECOND FORM's CARD OF 'laws.FnTextRefused'. -/
def fnTextRefusedUptoCard : Claim7 := { stood := { row := fnTextRefusedUptoRow, standIns := [], harness := (true, "9c80da9b7a6db997ad497c632fa392537084481fab066649a3adba8378b4987b"), looks := true }, kinds := [], alts := [], laidByText := true, laidKinds := [.data, .data, .data, .data, .data, .data, .sentinel, .sentinel, .listed, .data, .data, .data, .data, .data, .data, .data, .data, .pinned, .pinned], laidTests := true, laidLooks := .later }
def FnTextRefusedUptoCardSaid : Prop := Claim7.holds Tryz.pinned (.plain (OpenSpec.upto fnTextRefusedSpec)) fnTextRefusedUptoCard

/-- THE SECOND FORM's CARD OF 'laws.FnTextStart'. -/
def fnTextStartUptoCard : Claim7 := { stood := { row := fnTextStartUptoRow, standIns := [], harness := (true, "9c80da9b7a6db997ad497c632fa392537084481fab066649a3adba8378b4987b"), looks := true }, kinds := [], alts := [], laidByText := true, laidKinds := [.data, .data, .data, .data, .data, .data, .sentinel, .sentinel, .listed, .data, .data, .data, .data, .data, .data, .data, .data, .pinned, .pinned], laidTests := true, laidLooks := .later }
def FnTextStartUptoCardSaid : Prop := Claim7.holds Tryz.pinned (.plain (OpenSpec.upto fnTextStartSpec)) fnTextStartUptoCard

/-- THE SECOND FORM's CARD OF 'laws.FnTextTwice'. -/
def fnTextTwiceUptoCard : Claim7 := { stood := { row := fnTextTwiceUptoRow, standIns := [], harness := (true, "9c80da9b7a6db997ad497c632fa392537084481fab066649a3adba8378b4987b"), looks := true }, kinds := [], alts := [], laidByText := true, laidKinds := [.data, .data, .data, .data, .data, .data, .sentinel, .sentinel, .listed, .data, .data, .data, .data, .data, .data, .data, .data, .pinned, .pinned], laidTests := true, laidLooks := .later }
def FnTextTwiceUptoCardSaid : Prop := Claim7.holds Tryz.pinned (.plain (OpenSpec.upto fnTextTwiceSpec)) fnTextTwiceUptoCard

/-- THE SECOND FORM's CARD OF 'laws.FnTextDay'. -/
def fnTextDayUptoCard : Claim7 := { stood := { row := fnTextDayUptoRow, standIns := [], harness := (true, "9c80da9b7a6db997ad497c632fa392537084481fab066649a3adba8378b4987b"), looks := true }, kinds := [], alts := [], laidByText := true, laidKinds := [.data, .data, .data, .data, .data, .sentinel, .sentinel, .listed, .data, .data, .data, .data, .data, .data, .data, .data, .pinned, .pinned], laidTests := true, laidLooks := .later }
def FnTextDayUptoCardSaid : Prop := Claim7.holds Tryz.pinned (.plain (OpenSpec.upto fnTextDaySpec)) fnTextDayUptoCard

/-- THE SECOND FORM's CARD OF 'laws.FnTextRule'. -/
def fnTextRuleUptoCard : Claim7 := { stood := { row := fnTextRuleUptoRow, standIns := [], harness := (true, "9c80da9b7a6db997ad497c632fa392537084481fab066649a3adba8378b4987b"), looks := true }, kinds := [], alts := [], laidByText := true, laidKinds := [.data, .data, .data, .data, .data, .data, .sentinel, .sentinel, .listed, .data, .data, .data, .data, .data, .data, .data, .data, .pinned, .pinned], laidTests := true, laidLooks := .later }
def FnTextRuleUptoCardSaid : Prop := Claim7.holds Tryz.pinned (.plain (OpenSpec.upto fnTextRuleSpec)) fnTextRuleUptoCard

/-- THE SECOND FORM's CARD OF 'laws.FnTextBack'. -/
def fnTextBackUptoCard : Claim7 := { stood := { row := fnTextBackUptoRow, standIns := [], harness := (true, "9c80da9b7a6db997ad497c632fa392537084481fab066649a3adba8378b4987b"), looks := true }, kinds := [], alts := [], laidByText := true, laidKinds := [.data, .data, .data, .data, .sentinel, .sentinel, .listed, .data, .data, .data, .data, .data, .data, .data, .data, .pinned, .pinned], laidTests := true, laidLooks := .later }
def FnTextBackUptoCardSaid : Prop := Claim7.holds Tryz.pinned (.plain (OpenSpec.upto fnTextBackSpec)) fnTextBackUptoCard

/-- THE SECOND FORM's CARD OF 'laws.FnTextIs'. -/
def fnTextIsUptoCard : Claim7 := { stood := { row := fnTextIsUptoRow, standIns := [], harness := (true, "9c80da9b7a6db997ad497c632fa392537084481fab066649a3adba8378b4987b"), looks := true }, kinds := [], alts := [], laidByText := true, laidKinds := [.data, .data, .data, .data, .data, .data, .sentinel, .sentinel, .listed, .data, .data, .data, .data, .data, .data, .data, .data, .pinned, .pinned], laidTests := true, laidLooks := .later }
def FnTextIsUptoCardSaid : Prop := Claim7.holds Tryz.pinned (.plain (OpenSpec.upto fnTextIsSpec)) fnTextIsUptoCard

/-- THE SECOND FORM's CARD OF 'laws.FnTextStartAny'. -/
def fnTextStartAnyUptoCard : Claim7 := { stood := { row := fnTextStartAnyUptoRow, standIns := [], harness := (true, "9c80da9b7a6db997ad497c632fa392537084481fab066649a3adba8378b4987b"), looks := true }, kinds := [], alts := [], laidByText := true, laidKinds := [.data, .data, .data, .data, .sentinel, .sentinel, .listed, .data, .data, .data, .data, .data, .data, .data, .data, .pinned, .pinned], laidTests := true, laidLooks := .later }
def FnTextStartAnyUptoCardSaid : Prop := Claim7.holds Tryz.pinned (.plain (OpenSpec.upto fnTextStartAnySpec)) fnTextStartAnyUptoCard

/-- THE SECOND FORM's CARD OF 'laws.FnTextFreq'. -/
def fnTextFreqUptoCard : Claim7 := { stood := { row := fnTextFreqUptoRow, standIns := [], harness := (true, "9c80da9b7a6db997ad497c632fa392537084481fab066649a3adba8378b4987b"), looks := true }, kinds := [], alts := [], laidByText := true, laidKinds := [.data, .data, .data, .data, .data, .sentinel, .sentinel, .listed, .data, .data, .data, .data, .data, .data, .data, .data, .pinned, .pinned], laidTests := true, laidLooks := .later }
def FnTextFreqUptoCardSaid : Prop := Claim7.holds Tryz.pinned (.plain (OpenSpec.upto fnTextFreqSpec)) fnTextFreqUptoCard

/-- THE SECOND FORM's CARD OF 'laws.FnTextDates'. -/
def fnTextDatesUptoCard : Claim7 := { stood := { row := fnTextDatesUptoRow, standIns := [], harness := (true, "9c80da9b7a6db997ad497c632fa392537084481fab066649a3adba8378b4987b"), looks := true }, kinds := [], alts := [], laidByText := true, laidKinds := [.data, .data, .data, .data, .sentinel, .sentinel, .listed, .data, .data, .data, .data, .data, .data, .data, .data, .pinned, .pinned], laidTests := true, laidLooks := .later }
def FnTextDatesUptoCardSaid : Prop := Claim7.holds Tryz.pinned (.plain (OpenSpec.upto fnTextDatesSpec)) fnTextDatesUptoCard

/-- THE SECOND FORM's CARD OF 'laws.FnTextDatesAny'. -/
def fnTextDatesAnyUptoCard : Claim7 := { stood := { row := fnTextDatesAnyUptoRow, standIns := [], harness := (true, "9c80da9b7a6db997ad497c632fa392537084481fab066649a3adba8378b4987b"), looks := true }, kinds := [], alts := [], laidByText := true, laidKinds := [.data, .data, .data, .data, .sentinel, .sentinel, .listed, .data, .data, .data, .data, .data, .data, .data, .data, .pinned, .pinned], laidTests := true, laidLooks := .later }
def FnTextDatesAnyUptoCardSaid : Prop := Claim7.holds Tryz.pinned (.plain (OpenSpec.upto fnTextDatesAnySpec)) fnTextDatesAnyUptoCard
end Rows
end Go.Proofs.YtcfbkkcamiephaaGreatDoor
