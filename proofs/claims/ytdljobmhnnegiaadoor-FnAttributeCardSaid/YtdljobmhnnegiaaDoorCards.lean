/-
  DERIVED. GIVEN WITH THE SEED: THE CARDS: each row of YtdljobmhnnegiaaDoorRows.lean that lists a variable, with what it lists TIED to the program's text (the seventh form; the later family's looks); each row that meets fmt, with fmt's text TOLD by the authors' own Lean function (tested against real Go, not proved from fmt's source: count such statements apart). THE CARD IS WHAT COUNTS. Prove the row's statement (the work); the ties are given (YtdljobmhnnegiaaDoorTie.lean); close each card by the builder's one call (the guide's Derived/Test/ToyasCard.lean, 'card_holds'). Laid BY PROGRAM, IN A SANDBOX (cutbox-door.mjs). By AI agents, Wed Nov 11 2026. No macro, syntax, notation, axiom, sorry.
-/
import Derived.Test.YtdljobmhnnegiaaDoorRows
import GoSem.ClaimSeven
namespace Go.Proofs.YtdljobmhnnegiaaDoor
namespace Rows

/-- THE TIED CARD OF 'laws.FnBenchmark'. -/
def fnBenchmarkCard : Claim7 := { stood := { row := fnBenchmarkRow, standIns := [], harness := (true, "553e1614708e3d2d33e8b69b91f17bd92ea20aa8df0b2bcc6ac115786417f72c"), looks := false }, kinds := [], alts := [], laidByText := true, laidKinds := [.data, .data, .pinned, .pinned], laidTests := true, laidLooks := .later }
def FnBenchmarkCardSaid : Prop := Claim7.holds Tryd.pinned (.plain (OpenSpec.ofChange fnBenchmarkSpec)) fnBenchmarkCard

/-- THE TIED CARD OF 'laws.FnLines'. -/
def fnLinesCard : Claim7 := { stood := { row := fnLinesRow, standIns := [], harness := (true, "553e1614708e3d2d33e8b69b91f17bd92ea20aa8df0b2bcc6ac115786417f72c"), looks := false }, kinds := [], alts := [], laidByText := true, laidKinds := [.data, .data, .pinned, .pinned], laidTests := true, laidLooks := .later }
def FnLinesCardSaid : Prop := Claim7.holds Tryd.pinned (.plain (OpenSpec.ofChange fnLinesSpec)) fnLinesCard

/-- THE TIED CARD OF 'laws.FnArtifacts'. -/
def fnArtifactsCard : Claim7 := { stood := { row := fnArtifactsRow, standIns := [], harness := (true, "553e1614708e3d2d33e8b69b91f17bd92ea20aa8df0b2bcc6ac115786417f72c"), looks := false }, kinds := [], alts := [], laidByText := true, laidKinds := [.data, .listed, .data, .data, .pinned, .pinned, .pinned], laidTests := true, laidLooks := .later }
def FnArtifactsCardSaid : Prop := Claim7.holds Tryd.pinned (.plain (OpenSpec.ofChange fnArtifactsSpec)) fnArtifactsCard

/-- THE TIED CARD OF 'laws.FnAttribute'. -/
def fnAttributeCard : Claim7 := { stood := { row := fnAttributeRow, standIns := [], harness := (true, "553e1614708e3d2d33e8b69b91f17bd92ea20aa8df0b2bcc6ac115786417f72c"), looks := false }, kinds := [], alts := [], laidByText := true, laidKinds := [.data, .listed, .data, .data, .pinned, .pinned, .pinned], laidTests := true, laidLooks := .later }
def FnAttributeCardSaid : Prop := Claim7.holds Tryd.pinned (.plain (OpenSpec.ofChange fnAttributeSpec)) fnAttributeCard

/-- THE TIED CARD OF 'laws.FnConcatenation'. -/
def fnConcatenationCard : Claim7 := { stood := { row := fnConcatenationRow, standIns := [], harness := (true, "553e1614708e3d2d33e8b69b91f17bd92ea20aa8df0b2bcc6ac115786417f72c"), looks := false }, kinds := [], alts := [], laidByText := true, laidKinds := [.data, .listed, .data, .data, .pinned, .pinned, .pinned], laidTests := true, laidLooks := .later }
def FnConcatenationCardSaid : Prop := Claim7.holds Tryd.pinned (.plain (OpenSpec.ofChange fnConcatenationSpec)) fnConcatenationCard

/-- THE TIED CARD OF 'laws.FnEscaped'. -/
def fnEscapedCard : Claim7 := { stood := { row := fnEscapedRow, standIns := [], harness := (true, "553e1614708e3d2d33e8b69b91f17bd92ea20aa8df0b2bcc6ac115786417f72c"), looks := false }, kinds := [], alts := [], laidByText := true, laidKinds := [.data, .listed, .data, .data, .pinned, .pinned, .pinned], laidTests := true, laidLooks := .later }
def FnEscapedCardSaid : Prop := Claim7.holds Tryd.pinned (.plain (OpenSpec.ofChange fnEscapedSpec)) fnEscapedCard

/-- THE TIED CARD OF 'laws.FnFailedBuild'. -/
def fnFailedBuildCard : Claim7 := { stood := { row := fnFailedBuildRow, standIns := [], harness := (true, "553e1614708e3d2d33e8b69b91f17bd92ea20aa8df0b2bcc6ac115786417f72c"), looks := false }, kinds := [], alts := [], laidByText := true, laidKinds := [.data, .listed, .data, .data, .pinned, .pinned, .pinned], laidTests := true, laidLooks := .later }
def FnFailedBuildCardSaid : Prop := Claim7.holds Tryd.pinned (.plain (OpenSpec.ofChange fnFailedBuildSpec)) fnFailedBuildCard

/-- THE TIED CARD OF 'laws.FnResult'. -/
def fnResultCard : Claim7 := { stood := { row := fnResultRow, standIns := [], harness := (true, "553e1614708e3d2d33e8b69b91f17bd92ea20aa8df0b2bcc6ac115786417f72c"), looks := false }, kinds := [], alts := [], laidByText := true, laidKinds := [.data, .listed, .data, .data, .pinned, .pinned, .pinned], laidTests := true, laidLooks := .later }
def FnResultCardSaid : Prop := Claim7.holds Tryd.pinned (.plain (OpenSpec.ofChange fnResultSpec)) fnResultCard

/-- THE TIED CARD OF 'laws.FnStart'. -/
def fnStartCard : Claim7 := { stood := { row := fnStartRow, standIns := [], harness := (true, "553e1614708e3d2d33e8b69b91f17bd92ea20aa8df0b2bcc6ac115786417f72c"), looks := false }, kinds := [], alts := [], laidByText := true, laidKinds := [.data, .listed, .data, .data, .pinned, .pinned, .pinned], laidTests := true, laidLooks := .later }
def FnStartCardSaid : Prop := Claim7.holds Tryd.pinned (.plain (OpenSpec.ofChange fnStartSpec)) fnStartCard

/-- THE TIED CARD OF 'laws.FnStory'. -/
def fnStoryCard : Claim7 := { stood := { row := fnStoryRow, standIns := [], harness := (true, "553e1614708e3d2d33e8b69b91f17bd92ea20aa8df0b2bcc6ac115786417f72c"), looks := false }, kinds := [], alts := [], laidByText := true, laidKinds := [.data, .listed, .data, .data, .pinned, .pinned, .pinned], laidTests := true, laidLooks := .later }
def FnStoryCardSaid : Prop := Claim7.holds Tryd.pinned (.plain (OpenSpec.ofChange fnStorySpec)) fnStoryCard

/-- THE TIED CARD OF 'laws.FnWaits'. -/
def fnWaitsCard : Claim7 := { stood := { row := fnWaitsRow, standIns := [], harness := (true, "553e1614708e3d2d33e8b69b91f17bd92ea20aa8df0b2bcc6ac115786417f72c"), looks := false }, kinds := [], alts := [], laidByText := true, laidKinds := [.data, .listed, .data, .data, .pinned, .pinned, .pinned], laidTests := true, laidLooks := .later }
def FnWaitsCardSaid : Prop := Claim7.holds Tryd.pinned (.plain (OpenSpec.ofChange fnWaitsSpec)) fnWaitsCard

/-- THE SECOND FORM's CARD OF 'laws.FnBenchmark'. -/
def fnBenchmarkUptoCard : Claim7 := { stood := { row := fnBenchmarkUptoRow, standIns := [], harness := (true, "553e1614708e3d2d33e8b69b91f17bd92ea20aa8df0b2bcc6ac115786417f72c"), looks := false }, kinds := [], alts := [], laidByText := true, laidKinds := [.data, .data, .pinned, .pinned], laidTests := true, laidLooks := .later }
def FnBenchmarkUptoCardSaid : Prop := Claim7.holds Tryd.pinned (.plain (OpenSpec.upto fnBenchmarkSpec)) fnBenchmarkUptoCard

/-- THE SECOND FORM's CARD OF 'laws.FnLines'. -/
def fnLinesUptoCard : Claim7 := { stood := { row := fnLinesUptoRow, standIns := [], harness := (true, "553e1614708e3d2d33e8b69b91f17bd92ea20aa8df0b2bcc6ac115786417f72c"), looks := false }, kinds := [], alts := [], laidByText := true, laidKinds := [.data, .data, .pinned, .pinned], laidTests := true, laidLooks := .later }
def FnLinesUptoCardSaid : Prop := Claim7.holds Tryd.pinned (.plain (OpenSpec.upto fnLinesSpec)) fnLinesUptoCard

/-- THE SECOND FORM's CARD OF 'laws.FnArtifacts'. -/
def fnArtifactsUptoCard : Claim7 := { stood := { row := fnArtifactsUptoRow, standIns := [], harness := (true, "553e1614708e3d2d33e8b69b91f17bd92ea20aa8df0b2bcc6ac115786417f72c"), looks := false }, kinds := [], alts := [], laidByText := true, laidKinds := [.data, .listed, .data, .data, .pinned, .pinned, .pinned], laidTests := true, laidLooks := .later }
def FnArtifactsUptoCardSaid : Prop := Claim7.holds Tryd.pinned (.plain (OpenSpec.upto fnArtifactsSpec)) fnArtifactsUptoCard

/-- THE SECOND FORM's CARD OF 'laws.FnAttribute'. -/
def fnAttributeUptoCard : Claim7 := { stood := { row := fnAttributeUptoRow, standIns := [], harness := (true, "553e1614708e3d2d33e8b69b91f17bd92ea20aa8df0b2bcc6ac115786417f72c"), looks := false }, kinds := [], alts := [], laidByText := true, laidKinds := [.data, .listed, .data, .data, .pinned, .pinned, .pinned], laidTests := true, laidLooks := .later }
def FnAttributeUptoCardSaid : Prop := Claim7.holds Tryd.pinned (.plain (OpenSpec.upto fnAttributeSpec)) fnAttributeUptoCard

/-- THE SECOND FORM's CARD OF 'laws.FnConcatenation'. -/
def fnConcatenationUptoCard : Claim7 := { stood := { row := fnConcatenationUptoRow, standIns := [], harness := (true, "553e1614708e3d2d33e8b69b91f17bd92ea20aa8df0b2bcc6ac115786417f72c"), looks := false }, kinds := [], alts := [], laidByText := true, laidKinds := [.data, .listed, .data, .data, .pinned, .pinned, .pinned], laidTests := true, laidLooks := .later }
def FnConcatenationUptoCardSaid : Prop := Claim7.holds Tryd.pinned (.plain (OpenSpec.upto fnConcatenationSpec)) fnConcatenationUptoCard

/-- THE SECOND FORM's CARD OF 'laws.FnEscaped'. -/
def fnEscapedUptoCard : Claim7 := { stood := { row := fnEscapedUptoRow, standIns := [], harness := (true, "553e1614708e3d2d33e8b69b91f17bd92ea20aa8df0b2bcc6ac115786417f72c"), looks := false }, kinds := [], alts := [], laidByText := true, laidKinds := [.data, .listed, .data, .data, .pinned, .pinned, .pinned], laidTests := true, laidLooks := .later }
def FnEscapedUptoCardSaid : Prop := Claim7.holds Tryd.pinned (.plain (OpenSpec.upto fnEscapedSpec)) fnEscapedUptoCard

/-- THE SECOND FORM's CARD OF 'laws.FnFailedBuild'. -/
def fnFailedBuildUptoCard : Claim7 := { stood := { row := fnFailedBuildUptoRow, standIns := [], harness := (true, "553e1614708e3d2d33e8b69b91f17bd92ea20aa8df0b2bcc6ac115786417f72c"), looks := false }, kinds := [], alts := [], laidByText := true, laidKinds := [.data, .listed, .data, .data, .pinned, .pinned, .pinned], laidTests := true, laidLooks := .later }
def FnFailedBuildUptoCardSaid : Prop := Claim7.holds Tryd.pinned (.plain (OpenSpec.upto fnFailedBuildSpec)) fnFailedBuildUptoCard

/-- THE SECOND FORM's CARD OF 'laws.FnResult'. -/
def fnResultUptoCard : Claim7 := { stood := { row := fnResultUptoRow, standIns := [], harness := (true, "553e1614708e3d2d33e8b69b91f17bd92ea20aa8df0b2bcc6ac115786417f72c"), looks := false }, kinds := [], alts := [], laidByText := true, laidKinds := [.data, .listed, .data, .data, .pinned, .pinned, .pinned], laidTests := true, laidLooks := .later }
def FnResultUptoCardSaid : Prop := Claim7.holds Tryd.pinned (.plain (OpenSpec.upto fnResultSpec)) fnResultUptoCard

/-- THE SECOND FORM's CARD OF 'laws.FnStart'. -/
def fnStartUptoCard : Claim7 := { stood := { row := fnStartUptoRow, standIns := [], harness := (true, "553e1614708e3d2d33e8b69b91f17bd92ea20aa8df0b2bcc6ac115786417f72c"), looks := false }, kinds := [], alts := [], laidByText := true, laidKinds := [.data, .listed, .data, .data, .pinned, .pinned, .pinned], laidTests := true, laidLooks := .later }
def FnStartUptoCardSaid : Prop := Claim7.holds Tryd.pinned (.plain (OpenSpec.upto fnStartSpec)) fnStartUptoCard

/-- THE SECOND FORM's CARD OF 'laws.FnStory'. -/
def fnStoryUptoCard : Claim7 := { stood := { row := fnStoryUptoRow, standIns := [], harness := (true, "553e1614708e3d2d33e8b69b91f17bd92ea20aa8df0b2bcc6ac115786417f72c"), looks := false }, kinds := [], alts := [], laidByText := true, laidKinds := [.data, .listed, .data, .data, .pinned, .pinned, .pinned], laidTests := true, laidLooks := .later }
def FnStoryUptoCardSaid : Prop := Claim7.holds Tryd.pinned (.plain (OpenSpec.upto fnStorySpec)) fnStoryUptoCard

/-- THE SECOND FORM's CARD OF 'laws.FnWaits'. -/
def fnWaitsUptoCard : Claim7 := { stood := { row := fnWaitsUptoRow, standIns := [], harness := (true, "553e1614708e3d2d33e8b69b91f17bd92ea20aa8df0b2bcc6ac115786417f72c"), looks := false }, kinds := [], alts := [], laidByText := true, laidKinds := [.data, .listed, .data, .data, .pinned, .pinned, .pinned], laidTests := true, laidLooks := .later }
def FnWaitsUptoCardSaid : Prop := Claim7.holds Tryd.pinned (.plain (OpenSpec.upto fnWaitsSpec)) fnWaitsUptoCard
end Rows
end Go.Proofs.YtdljobmhnnegiaaDoor
