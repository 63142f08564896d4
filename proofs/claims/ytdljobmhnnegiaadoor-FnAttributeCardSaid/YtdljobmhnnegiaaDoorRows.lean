/-
  NARROWER THAN 'FOR EVERY INPUT', by the rows' own cells (each row's printed sentence says how): FnBenchmark: laid · FnLines: laid · FnArtifacts: laid · FnAttribute: laid · FnConcatenation: laid · FnEscaped: laid · FnFailedBuild: laid · FnResult: laid · FnStart: laid · FnStory: laid · FnWaits: laid.
  DERIVED. THE GIVEN ROWS OF THIS SEAT. 11 by the template 'for every input the law returns true; each argument reads behind the call as it read before'; 0 by the template 'total and deterministic' (their statements: YtdljobmhnnegiaaDoorTotals.lean).
  GIVEN WITH THE SEED: the statements are not yours to turn. If you find one false, say at which input.
  Laid BY PROGRAM, IN A SANDBOX (cutbox-rows.mjs): the forced cells as the released guide's own fill.sh prints them over the translation 3ca4d952dfdf0197… (all of the seat's roots in one cut). By AI agents, Wed Nov 11 2026. No macro, syntax, notation, axiom, sorry.
-/
import Derived.Test.YtdljobmhnnegiaaDoorChecked
import GoSem.PinnedTables
import GoSem.Claim
import GoSem.ClaimJoined
import GoSem.ClaimMapViews
import Derived.JoinedTies
import Derived.KernelRfl
namespace Go.Proofs.YtdljobmhnnegiaaDoor
/- THE CELL 'sum', in the pinned program and in every row, IS THE sha256 OF THE DUMP (.gsa) THAT YtdljobmhnnegiaaDoorProg.lean LOADS. Nothing in Lean hashes anything: it is a label: what it is worth is what the hold of that sum in a sandbox is worth. -/
noncomputable def Tryd.pinned : Pinned := { name := "ytdljobmhnnegiaadoor", sum := "3ca4d952dfdf01978722b56a2cfa597fd12641e1d52124bb5d0efa7d2d470005", checked := Tryd.checked }
namespace Rows
def none {H : Type} : Left H := { results := [], args := [] }

/- WHAT THE LISTED PACKAGE-LEVEL VARIABLES READ AS WHEN THE CALL BEGINS. Each datum BY PROGRAM (the guide's laid-datum.mjs) off the statement by which the dump's own 'gosem.cut.vars' lays the variable. In a bare row this is a premise. The card (YtdljobmhnnegiaaDoorCards.lean) ties it to the program's text. -/
def laid_unicode_utf8_acceptRanges {H : Type} : DataW H := .agg [.agg [.lit (.int .u8 128), .lit (.int .u8 191)], .agg [.lit (.int .u8 160), .lit (.int .u8 191)], .agg [.lit (.int .u8 128), .lit (.int .u8 159)], .agg [.lit (.int .u8 144), .lit (.int .u8 191)], .agg [.lit (.int .u8 128), .lit (.int .u8 143)], .agg [.lit (.int .u8 0), .lit (.int .u8 0)], .agg [.lit (.int .u8 0), .lit (.int .u8 0)], .agg [.lit (.int .u8 0), .lit (.int .u8 0)], .agg [.lit (.int .u8 0), .lit (.int .u8 0)], .agg [.lit (.int .u8 0), .lit (.int .u8 0)], .agg [.lit (.int .u8 0), .lit (.int .u8 0)], .agg [.lit (.int .u8 0), .lit (.int .u8 0)], .agg [.lit (.int .u8 0), .lit (.int .u8 0)], .agg [.lit (.int .u8 0), .lit (.int .u8 0)], .agg [.lit (.int .u8 0), .lit (.int .u8 0)], .agg [.lit (.int .u8 0), .lit (.int .u8 0)]]
def laid_unicode_properties {H : Type} : DataW H := .agg [.lit (.int .u8 1), .lit (.int .u8 1), .lit (.int .u8 1), .lit (.int .u8 1), .lit (.int .u8 1), .lit (.int .u8 1), .lit (.int .u8 1), .lit (.int .u8 1), .lit (.int .u8 1), .lit (.int .u8 1), .lit (.int .u8 1), .lit (.int .u8 1), .lit (.int .u8 1), .lit (.int .u8 1), .lit (.int .u8 1), .lit (.int .u8 1), .lit (.int .u8 1), .lit (.int .u8 1), .lit (.int .u8 1), .lit (.int .u8 1), .lit (.int .u8 1), .lit (.int .u8 1), .lit (.int .u8 1), .lit (.int .u8 1), .lit (.int .u8 1), .lit (.int .u8 1), .lit (.int .u8 1), .lit (.int .u8 1), .lit (.int .u8 1), .lit (.int .u8 1), .lit (.int .u8 1), .lit (.int .u8 1), .lit (.int .u8 144), .lit (.int .u8 130), .lit (.int .u8 130), .lit (.int .u8 130), .lit (.int .u8 136), .lit (.int .u8 130), .lit (.int .u8 130), .lit (.int .u8 130), .lit (.int .u8 130), .lit (.int .u8 130), .lit (.int .u8 130), .lit (.int .u8 136), .lit (.int .u8 130), .lit (.int .u8 130), .lit (.int .u8 130), .lit (.int .u8 130), .lit (.int .u8 132), .lit (.int .u8 132), .lit (.int .u8 132), .lit (.int .u8 132), .lit (.int .u8 132), .lit (.int .u8 132), .lit (.int .u8 132), .lit (.int .u8 132), .lit (.int .u8 132), .lit (.int .u8 132), .lit (.int .u8 130), .lit (.int .u8 130), .lit (.int .u8 136), .lit (.int .u8 136), .lit (.int .u8 136), .lit (.int .u8 130), .lit (.int .u8 130), .lit (.int .u8 160), .lit (.int .u8 160), .lit (.int .u8 160), .lit (.int .u8 160), .lit (.int .u8 160), .lit (.int .u8 160), .lit (.int .u8 160), .lit (.int .u8 160), .lit (.int .u8 160), .lit (.int .u8 160), .lit (.int .u8 160), .lit (.int .u8 160), .lit (.int .u8 160), .lit (.int .u8 160), .lit (.int .u8 160), .lit (.int .u8 160), .lit (.int .u8 160), .lit (.int .u8 160), .lit (.int .u8 160), .lit (.int .u8 160), .lit (.int .u8 160), .lit (.int .u8 160), .lit (.int .u8 160), .lit (.int .u8 160), .lit (.int .u8 160), .lit (.int .u8 160), .lit (.int .u8 130), .lit (.int .u8 130), .lit (.int .u8 130), .lit (.int .u8 136), .lit (.int .u8 130), .lit (.int .u8 136), .lit (.int .u8 192), .lit (.int .u8 192), .lit (.int .u8 192), .lit (.int .u8 192), .lit (.int .u8 192), .lit (.int .u8 192), .lit (.int .u8 192), .lit (.int .u8 192), .lit (.int .u8 192), .lit (.int .u8 192), .lit (.int .u8 192), .lit (.int .u8 192), .lit (.int .u8 192), .lit (.int .u8 192), .lit (.int .u8 192), .lit (.int .u8 192), .lit (.int .u8 192), .lit (.int .u8 192), .lit (.int .u8 192), .lit (.int .u8 192), .lit (.int .u8 192), .lit (.int .u8 192), .lit (.int .u8 192), .lit (.int .u8 192), .lit (.int .u8 192), .lit (.int .u8 192), .lit (.int .u8 130), .lit (.int .u8 136), .lit (.int .u8 130), .lit (.int .u8 136), .lit (.int .u8 1), .lit (.int .u8 1), .lit (.int .u8 1), .lit (.int .u8 1), .lit (.int .u8 1), .lit (.int .u8 1), .lit (.int .u8 1), .lit (.int .u8 1), .lit (.int .u8 1), .lit (.int .u8 1), .lit (.int .u8 1), .lit (.int .u8 1), .lit (.int .u8 1), .lit (.int .u8 1), .lit (.int .u8 1), .lit (.int .u8 1), .lit (.int .u8 1), .lit (.int .u8 1), .lit (.int .u8 1), .lit (.int .u8 1), .lit (.int .u8 1), .lit (.int .u8 1), .lit (.int .u8 1), .lit (.int .u8 1), .lit (.int .u8 1), .lit (.int .u8 1), .lit (.int .u8 1), .lit (.int .u8 1), .lit (.int .u8 1), .lit (.int .u8 1), .lit (.int .u8 1), .lit (.int .u8 1), .lit (.int .u8 1), .lit (.int .u8 16), .lit (.int .u8 130), .lit (.int .u8 136), .lit (.int .u8 136), .lit (.int .u8 136), .lit (.int .u8 136), .lit (.int .u8 136), .lit (.int .u8 130), .lit (.int .u8 136), .lit (.int .u8 136), .lit (.int .u8 224), .lit (.int .u8 130), .lit (.int .u8 136), .lit (.int .u8 0), .lit (.int .u8 136), .lit (.int .u8 136), .lit (.int .u8 136), .lit (.int .u8 136), .lit (.int .u8 132), .lit (.int .u8 132), .lit (.int .u8 136), .lit (.int .u8 192), .lit (.int .u8 130), .lit (.int .u8 130), .lit (.int .u8 136), .lit (.int .u8 132), .lit (.int .u8 224), .lit (.int .u8 130), .lit (.int .u8 132), .lit (.int .u8 132), .lit (.int .u8 132), .lit (.int .u8 130), .lit (.int .u8 160), .lit (.int .u8 160), .lit (.int .u8 160), .lit (.int .u8 160), .lit (.int .u8 160), .lit (.int .u8 160), .lit (.int .u8 160), .lit (.int .u8 160), .lit (.int .u8 160), .lit (.int .u8 160), .lit (.int .u8 160), .lit (.int .u8 160), .lit (.int .u8 160), .lit (.int .u8 160), .lit (.int .u8 160), .lit (.int .u8 160), .lit (.int .u8 160), .lit (.int .u8 160), .lit (.int .u8 160), .lit (.int .u8 160), .lit (.int .u8 160), .lit (.int .u8 160), .lit (.int .u8 160), .lit (.int .u8 136), .lit (.int .u8 160), .lit (.int .u8 160), .lit (.int .u8 160), .lit (.int .u8 160), .lit (.int .u8 160), .lit (.int .u8 160), .lit (.int .u8 160), .lit (.int .u8 192), .lit (.int .u8 192), .lit (.int .u8 192), .lit (.int .u8 192), .lit (.int .u8 192), .lit (.int .u8 192), .lit (.int .u8 192), .lit (.int .u8 192), .lit (.int .u8 192), .lit (.int .u8 192), .lit (.int .u8 192), .lit (.int .u8 192), .lit (.int .u8 192), .lit (.int .u8 192), .lit (.int .u8 192), .lit (.int .u8 192), .lit (.int .u8 192), .lit (.int .u8 192), .lit (.int .u8 192), .lit (.int .u8 192), .lit (.int .u8 192), .lit (.int .u8 192), .lit (.int .u8 192), .lit (.int .u8 192), .lit (.int .u8 136), .lit (.int .u8 192), .lit (.int .u8 192), .lit (.int .u8 192), .lit (.int .u8 192), .lit (.int .u8 192), .lit (.int .u8 192), .lit (.int .u8 192), .lit (.int .u8 192)]
/-- One of Go's own tables, pinned by name: the form's constant. -/
def laid_unicode_Lower : DataW Unit := Go.Pinned.lower
/-- One of Go's own tables, pinned by name: the form's constant. -/
def laid_unicode_utf8_first : DataW Unit := Go.Pinned.utf8First
def laid_unicode_White_Space {H : Type} : DataW H := .ptr (.agg [.slice [.agg [.lit (.int .u16 9), .lit (.int .u16 13), .lit (.int .u16 1)], .agg [.lit (.int .u16 32), .lit (.int .u16 133), .lit (.int .u16 101)], .agg [.lit (.int .u16 160), .lit (.int .u16 5760), .lit (.int .u16 5600)], .agg [.lit (.int .u16 8192), .lit (.int .u16 8202), .lit (.int .u16 1)], .agg [.lit (.int .u16 8232), .lit (.int .u16 8233), .lit (.int .u16 1)], .agg [.lit (.int .u16 8239), .lit (.int .u16 8287), .lit (.int .u16 48)], .agg [.lit (.int .u16 12288), .lit (.int .u16 12288), .lit (.int .u16 1)]] [], .nil, .lit (.int .i64 2)])
def laid_strings_asciiSpace {H : Type} : DataW H := .agg [.lit (.int .u8 0), .lit (.int .u8 0), .lit (.int .u8 0), .lit (.int .u8 0), .lit (.int .u8 0), .lit (.int .u8 0), .lit (.int .u8 0), .lit (.int .u8 0), .lit (.int .u8 0), .lit (.int .u8 1), .lit (.int .u8 1), .lit (.int .u8 1), .lit (.int .u8 1), .lit (.int .u8 1), .lit (.int .u8 0), .lit (.int .u8 0), .lit (.int .u8 0), .lit (.int .u8 0), .lit (.int .u8 0), .lit (.int .u8 0), .lit (.int .u8 0), .lit (.int .u8 0), .lit (.int .u8 0), .lit (.int .u8 0), .lit (.int .u8 0), .lit (.int .u8 0), .lit (.int .u8 0), .lit (.int .u8 0), .lit (.int .u8 0), .lit (.int .u8 0), .lit (.int .u8 0), .lit (.int .u8 0), .lit (.int .u8 1), .lit (.int .u8 0), .lit (.int .u8 0), .lit (.int .u8 0), .lit (.int .u8 0), .lit (.int .u8 0), .lit (.int .u8 0), .lit (.int .u8 0), .lit (.int .u8 0), .lit (.int .u8 0), .lit (.int .u8 0), .lit (.int .u8 0), .lit (.int .u8 0), .lit (.int .u8 0), .lit (.int .u8 0), .lit (.int .u8 0), .lit (.int .u8 0), .lit (.int .u8 0), .lit (.int .u8 0), .lit (.int .u8 0), .lit (.int .u8 0), .lit (.int .u8 0), .lit (.int .u8 0), .lit (.int .u8 0), .lit (.int .u8 0), .lit (.int .u8 0), .lit (.int .u8 0), .lit (.int .u8 0), .lit (.int .u8 0), .lit (.int .u8 0), .lit (.int .u8 0), .lit (.int .u8 0), .lit (.int .u8 0), .lit (.int .u8 0), .lit (.int .u8 0), .lit (.int .u8 0), .lit (.int .u8 0), .lit (.int .u8 0), .lit (.int .u8 0), .lit (.int .u8 0), .lit (.int .u8 0), .lit (.int .u8 0), .lit (.int .u8 0), .lit (.int .u8 0), .lit (.int .u8 0), .lit (.int .u8 0), .lit (.int .u8 0), .lit (.int .u8 0), .lit (.int .u8 0), .lit (.int .u8 0), .lit (.int .u8 0), .lit (.int .u8 0), .lit (.int .u8 0), .lit (.int .u8 0), .lit (.int .u8 0), .lit (.int .u8 0), .lit (.int .u8 0), .lit (.int .u8 0), .lit (.int .u8 0), .lit (.int .u8 0), .lit (.int .u8 0), .lit (.int .u8 0), .lit (.int .u8 0), .lit (.int .u8 0), .lit (.int .u8 0), .lit (.int .u8 0), .lit (.int .u8 0), .lit (.int .u8 0), .lit (.int .u8 0), .lit (.int .u8 0), .lit (.int .u8 0), .lit (.int .u8 0), .lit (.int .u8 0), .lit (.int .u8 0), .lit (.int .u8 0), .lit (.int .u8 0), .lit (.int .u8 0), .lit (.int .u8 0), .lit (.int .u8 0), .lit (.int .u8 0), .lit (.int .u8 0), .lit (.int .u8 0), .lit (.int .u8 0), .lit (.int .u8 0), .lit (.int .u8 0), .lit (.int .u8 0), .lit (.int .u8 0), .lit (.int .u8 0), .lit (.int .u8 0), .lit (.int .u8 0), .lit (.int .u8 0), .lit (.int .u8 0), .lit (.int .u8 0), .lit (.int .u8 0), .lit (.int .u8 0), .lit (.int .u8 0), .lit (.int .u8 0), .lit (.int .u8 0), .lit (.int .u8 0), .lit (.int .u8 0), .lit (.int .u8 0), .lit (.int .u8 0), .lit (.int .u8 0), .lit (.int .u8 0), .lit (.int .u8 0), .lit (.int .u8 0), .lit (.int .u8 0), .lit (.int .u8 0), .lit (.int .u8 0), .lit (.int .u8 0), .lit (.int .u8 0), .lit (.int .u8 0), .lit (.int .u8 0), .lit (.int .u8 0), .lit (.int .u8 0), .lit (.int .u8 0), .lit (.int .u8 0), .lit (.int .u8 0), .lit (.int .u8 0), .lit (.int .u8 0), .lit (.int .u8 0), .lit (.int .u8 0), .lit (.int .u8 0), .lit (.int .u8 0), .lit (.int .u8 0), .lit (.int .u8 0), .lit (.int .u8 0), .lit (.int .u8 0), .lit (.int .u8 0), .lit (.int .u8 0), .lit (.int .u8 0), .lit (.int .u8 0), .lit (.int .u8 0), .lit (.int .u8 0), .lit (.int .u8 0), .lit (.int .u8 0), .lit (.int .u8 0), .lit (.int .u8 0), .lit (.int .u8 0), .lit (.int .u8 0), .lit (.int .u8 0), .lit (.int .u8 0), .lit (.int .u8 0), .lit (.int .u8 0), .lit (.int .u8 0), .lit (.int .u8 0), .lit (.int .u8 0), .lit (.int .u8 0), .lit (.int .u8 0), .lit (.int .u8 0), .lit (.int .u8 0), .lit (.int .u8 0), .lit (.int .u8 0), .lit (.int .u8 0), .lit (.int .u8 0), .lit (.int .u8 0), .lit (.int .u8 0), .lit (.int .u8 0), .lit (.int .u8 0), .lit (.int .u8 0), .lit (.int .u8 0), .lit (.int .u8 0), .lit (.int .u8 0), .lit (.int .u8 0), .lit (.int .u8 0), .lit (.int .u8 0), .lit (.int .u8 0), .lit (.int .u8 0), .lit (.int .u8 0), .lit (.int .u8 0), .lit (.int .u8 0), .lit (.int .u8 0), .lit (.int .u8 0), .lit (.int .u8 0), .lit (.int .u8 0), .lit (.int .u8 0), .lit (.int .u8 0), .lit (.int .u8 0), .lit (.int .u8 0), .lit (.int .u8 0), .lit (.int .u8 0), .lit (.int .u8 0), .lit (.int .u8 0), .lit (.int .u8 0), .lit (.int .u8 0), .lit (.int .u8 0), .lit (.int .u8 0), .lit (.int .u8 0), .lit (.int .u8 0), .lit (.int .u8 0), .lit (.int .u8 0), .lit (.int .u8 0), .lit (.int .u8 0), .lit (.int .u8 0), .lit (.int .u8 0), .lit (.int .u8 0), .lit (.int .u8 0), .lit (.int .u8 0), .lit (.int .u8 0), .lit (.int .u8 0), .lit (.int .u8 0), .lit (.int .u8 0), .lit (.int .u8 0), .lit (.int .u8 0), .lit (.int .u8 0), .lit (.int .u8 0), .lit (.int .u8 0), .lit (.int .u8 0), .lit (.int .u8 0), .lit (.int .u8 0), .lit (.int .u8 0), .lit (.int .u8 0), .lit (.int .u8 0), .lit (.int .u8 0), .lit (.int .u8 0), .lit (.int .u8 0), .lit (.int .u8 0), .lit (.int .u8 0), .lit (.int .u8 0), .lit (.int .u8 0), .lit (.int .u8 0), .lit (.int .u8 0), .lit (.int .u8 0), .lit (.int .u8 0)]
/-- One of Go's own tables, pinned by name: the form's constant. -/
def laid_unicode_CaseRanges : DataW Unit := Go.Pinned.caseRanges

/-- 'laws.FnBenchmark': WHATEVER THE INPUT: true; the input reads as it did. -/
def fnBenchmarkSpec : ChangeSpec := { name := "fnBenchmark", fn := fun _ => fun
  | [d] => { results := [.lit (.bool true)], args := [d] }
  | _ => none }
def fnBenchmarkRow : OpenClaim := { program := "ytdljobmhnnegiaadoor", sum := "3ca4d952dfdf01978722b56a2cfa597fd12641e1d52124bb5d0efa7d2d470005", func := "testevents/laws.FnBenchmark", spec := "fnBenchmark", named := ["unicode/utf8.first", "unicode/utf8.acceptRanges", "unicode.properties", "unicode.Lower"], apart := false, laid := [("unicode/utf8.acceptRanges", laid_unicode_utf8_acceptRanges), ("unicode.properties", laid_unicode_properties), ("unicode.Lower", laid_unicode_Lower), ("unicode/utf8.first", laid_unicode_utf8_first)] }
def FnBenchmarkSaid : Prop := fnBenchmarkRow.holds Tryd.pinned (OpenSpec.ofChange fnBenchmarkSpec)

/-- ITS FALSE NEIGHBOUR: 'it returns false'. Refute it at one input. -/
def fnBenchmarkWrong : ChangeSpec := { name := "fnBenchmark", fn := fun _ => fun
  | [d] => { results := [.lit (.bool false)], args := [d] }
  | _ => none }
def FnBenchmarkWrongFalsely : Prop := fnBenchmarkRow.holds Tryd.pinned (OpenSpec.ofChange fnBenchmarkWrong)

/-- 'laws.FnLines': WHATEVER THE INPUT: true; the input reads as it did. -/
def fnLinesSpec : ChangeSpec := { name := "fnLines", fn := fun _ => fun
  | [d1, d2, d3] => { results := [.lit (.bool true)], args := [d1, d2, d3] }
  | _ => none }
def fnLinesRow : OpenClaim := { program := "ytdljobmhnnegiaadoor", sum := "3ca4d952dfdf01978722b56a2cfa597fd12641e1d52124bb5d0efa7d2d470005", func := "testevents/laws.FnLines", spec := "fnLines", inPlace := ["internal/bytealg.IndexByte"], unfollowed := true, recurses := true, named := ["unicode/utf8.first", "unicode/utf8.acceptRanges", "unicode.properties", "unicode.Lower"], apart := false, laid := [("unicode/utf8.acceptRanges", laid_unicode_utf8_acceptRanges), ("unicode.properties", laid_unicode_properties), ("unicode.Lower", laid_unicode_Lower), ("unicode/utf8.first", laid_unicode_utf8_first)] }
def FnLinesSaid : Prop := fnLinesRow.holds Tryd.pinned (OpenSpec.ofChange fnLinesSpec)

/-- ITS FALSE NEIGHBOUR: 'it returns false'. Refute it at one input. -/
def fnLinesWrong : ChangeSpec := { name := "fnLines", fn := fun _ => fun
  | [d1, d2, d3] => { results := [.lit (.bool false)], args := [d1, d2, d3] }
  | _ => none }
def FnLinesWrongFalsely : Prop := fnLinesRow.holds Tryd.pinned (OpenSpec.ofChange fnLinesWrong)

/-- 'laws.FnArtifacts': WHATEVER THE INPUT: true; the input reads as it did. -/
def fnArtifactsSpec : ChangeSpec := { name := "fnArtifacts", fn := fun _ => fun
  | [d1, d2] => { results := [.lit (.bool true)], args := [d1, d2] }
  | _ => none }
def fnArtifactsRow : OpenClaim := { program := "ytdljobmhnnegiaadoor", sum := "3ca4d952dfdf01978722b56a2cfa597fd12641e1d52124bb5d0efa7d2d470005", func := "testevents/laws.FnArtifacts", spec := "fnArtifacts", inPlace := ["internal/bytealg.IndexByte", "internal/abi.NoEscape", "internal/bytealg.MakeNoZero"], unfollowed := true, recurses := true, named := ["unicode/utf8.first", "unicode/utf8.acceptRanges", "unicode.properties", "unicode.Lower", "unicode.CaseRanges", "strings.asciiSpace", "unicode.White_Space"], apart := false, laid := [("unicode/utf8.acceptRanges", laid_unicode_utf8_acceptRanges), ("unicode.White_Space", laid_unicode_White_Space), ("unicode.properties", laid_unicode_properties), ("strings.asciiSpace", laid_strings_asciiSpace), ("unicode.CaseRanges", laid_unicode_CaseRanges), ("unicode.Lower", laid_unicode_Lower), ("unicode/utf8.first", laid_unicode_utf8_first)] }
def FnArtifactsSaid : Prop := fnArtifactsRow.holds Tryd.pinned (OpenSpec.ofChange fnArtifactsSpec)

/-- ITS FALSE NEIGHBOUR: 'it returns false'. Refute it at one input. -/
def fnArtifactsWrong : ChangeSpec := { name := "fnArtifacts", fn := fun _ => fun
  | [d1, d2] => { results := [.lit (.bool false)], args := [d1, d2] }
  | _ => none }
def FnArtifactsWrongFalsely : Prop := fnArtifactsRow.holds Tryd.pinned (OpenSpec.ofChange fnArtifactsWrong)

/-- 'laws.FnAttribute': WHATEVER THE INPUT: true; the input reads as it did. -/
def fnAttributeSpec : ChangeSpec := { name := "fnAttribute", fn := fun _ => fun
  | [d1, d2, d3] => { results := [.lit (.bool true)], args := [d1, d2, d3] }
  | _ => none }
def fnAttributeRow : OpenClaim := { program := "ytdljobmhnnegiaadoor", sum := "3ca4d952dfdf01978722b56a2cfa597fd12641e1d52124bb5d0efa7d2d470005", func := "testevents/laws.FnAttribute", spec := "fnAttribute", inPlace := ["internal/bytealg.IndexByte", "internal/abi.NoEscape", "internal/bytealg.MakeNoZero"], unfollowed := true, recurses := true, named := ["unicode/utf8.first", "unicode/utf8.acceptRanges", "unicode.properties", "unicode.Lower", "unicode.CaseRanges", "strings.asciiSpace", "unicode.White_Space"], apart := false, laid := [("unicode/utf8.acceptRanges", laid_unicode_utf8_acceptRanges), ("unicode.White_Space", laid_unicode_White_Space), ("unicode.properties", laid_unicode_properties), ("strings.asciiSpace", laid_strings_asciiSpace), ("unicode.CaseRanges", laid_unicode_CaseRanges), ("unicode.Lower", laid_unicode_Lower), ("unicode/utf8.first", laid_unicode_utf8_first)] }
def FnAttributeSaid : Prop := fnAttributeRow.holds Tryd.pinned (OpenSpec.ofChange fnAttributeSpec)

/-- ITS FALSE NEIGHBOUR: 'it returns false'. Refute it at one input. -/
def fnAttributeWrong : ChangeSpec := { name := "fnAttribute", fn := fun _ => fun
  | [d1, d2, d3] => { results := [.lit (.bool false)], args := [d1, d2, d3] }
  | _ => none }
def FnAttributeWrongFalsely : Prop := fnAttributeRow.holds Tryd.pinned (OpenSpec.ofChange fnAttributeWrong)

/-- 'laws.FnConcatenation': WHATEVER THE INPUT: true; the input reads as it did. -/
def fnConcatenationSpec : ChangeSpec := { name := "fnConcatenation", fn := fun _ => fun
  | [d1, d2] => { results := [.lit (.bool true)], args := [d1, d2] }
  | _ => none }
def fnConcatenationRow : OpenClaim := { program := "ytdljobmhnnegiaadoor", sum := "3ca4d952dfdf01978722b56a2cfa597fd12641e1d52124bb5d0efa7d2d470005", func := "testevents/laws.FnConcatenation", spec := "fnConcatenation", inPlace := ["internal/bytealg.IndexByte", "internal/abi.NoEscape", "internal/bytealg.MakeNoZero"], unfollowed := true, recurses := true, named := ["unicode/utf8.first", "unicode/utf8.acceptRanges", "unicode.properties", "unicode.Lower", "unicode.CaseRanges", "strings.asciiSpace", "unicode.White_Space"], apart := false, laid := [("unicode/utf8.acceptRanges", laid_unicode_utf8_acceptRanges), ("unicode.White_Space", laid_unicode_White_Space), ("unicode.properties", laid_unicode_properties), ("strings.asciiSpace", laid_strings_asciiSpace), ("unicode.CaseRanges", laid_unicode_CaseRanges), ("unicode.Lower", laid_unicode_Lower), ("unicode/utf8.first", laid_unicode_utf8_first)] }
def FnConcatenationSaid : Prop := fnConcatenationRow.holds Tryd.pinned (OpenSpec.ofChange fnConcatenationSpec)

/-- ITS FALSE NEIGHBOUR: 'it returns false'. Refute it at one input. -/
def fnConcatenationWrong : ChangeSpec := { name := "fnConcatenation", fn := fun _ => fun
  | [d1, d2] => { results := [.lit (.bool false)], args := [d1, d2] }
  | _ => none }
def FnConcatenationWrongFalsely : Prop := fnConcatenationRow.holds Tryd.pinned (OpenSpec.ofChange fnConcatenationWrong)

/-- 'laws.FnEscaped': WHATEVER THE INPUT: true; the input reads as it did. -/
def fnEscapedSpec : ChangeSpec := { name := "fnEscaped", fn := fun _ => fun
  | [d1, d2] => { results := [.lit (.bool true)], args := [d1, d2] }
  | _ => none }
def fnEscapedRow : OpenClaim := { program := "ytdljobmhnnegiaadoor", sum := "3ca4d952dfdf01978722b56a2cfa597fd12641e1d52124bb5d0efa7d2d470005", func := "testevents/laws.FnEscaped", spec := "fnEscaped", inPlace := ["internal/bytealg.IndexByte", "internal/abi.NoEscape", "internal/bytealg.MakeNoZero"], unfollowed := true, recurses := true, named := ["unicode/utf8.first", "unicode/utf8.acceptRanges", "unicode.properties", "unicode.Lower", "unicode.CaseRanges", "strings.asciiSpace", "unicode.White_Space"], apart := false, laid := [("unicode/utf8.acceptRanges", laid_unicode_utf8_acceptRanges), ("unicode.White_Space", laid_unicode_White_Space), ("unicode.properties", laid_unicode_properties), ("strings.asciiSpace", laid_strings_asciiSpace), ("unicode.CaseRanges", laid_unicode_CaseRanges), ("unicode.Lower", laid_unicode_Lower), ("unicode/utf8.first", laid_unicode_utf8_first)] }
def FnEscapedSaid : Prop := fnEscapedRow.holds Tryd.pinned (OpenSpec.ofChange fnEscapedSpec)

/-- ITS FALSE NEIGHBOUR: 'it returns false'. Refute it at one input. -/
def fnEscapedWrong : ChangeSpec := { name := "fnEscaped", fn := fun _ => fun
  | [d1, d2] => { results := [.lit (.bool false)], args := [d1, d2] }
  | _ => none }
def FnEscapedWrongFalsely : Prop := fnEscapedRow.holds Tryd.pinned (OpenSpec.ofChange fnEscapedWrong)

/-- 'laws.FnFailedBuild': WHATEVER THE INPUT: true; the input reads as it did. -/
def fnFailedBuildSpec : ChangeSpec := { name := "fnFailedBuild", fn := fun _ => fun
  | [d1, d2, d3] => { results := [.lit (.bool true)], args := [d1, d2, d3] }
  | _ => none }
def fnFailedBuildRow : OpenClaim := { program := "ytdljobmhnnegiaadoor", sum := "3ca4d952dfdf01978722b56a2cfa597fd12641e1d52124bb5d0efa7d2d470005", func := "testevents/laws.FnFailedBuild", spec := "fnFailedBuild", inPlace := ["internal/bytealg.IndexByte", "internal/abi.NoEscape", "internal/bytealg.MakeNoZero"], unfollowed := true, recurses := true, named := ["unicode/utf8.first", "unicode/utf8.acceptRanges", "unicode.properties", "unicode.Lower", "unicode.CaseRanges", "strings.asciiSpace", "unicode.White_Space"], apart := false, laid := [("unicode/utf8.acceptRanges", laid_unicode_utf8_acceptRanges), ("unicode.White_Space", laid_unicode_White_Space), ("unicode.properties", laid_unicode_properties), ("strings.asciiSpace", laid_strings_asciiSpace), ("unicode.CaseRanges", laid_unicode_CaseRanges), ("unicode.Lower", laid_unicode_Lower), ("unicode/utf8.first", laid_unicode_utf8_first)] }
def FnFailedBuildSaid : Prop := fnFailedBuildRow.holds Tryd.pinned (OpenSpec.ofChange fnFailedBuildSpec)

/-- ITS FALSE NEIGHBOUR: 'it returns false'. Refute it at one input. -/
def fnFailedBuildWrong : ChangeSpec := { name := "fnFailedBuild", fn := fun _ => fun
  | [d1, d2, d3] => { results := [.lit (.bool false)], args := [d1, d2, d3] }
  | _ => none }
def FnFailedBuildWrongFalsely : Prop := fnFailedBuildRow.holds Tryd.pinned (OpenSpec.ofChange fnFailedBuildWrong)

/-- 'laws.FnResult': WHATEVER THE INPUT: true; the input reads as it did. -/
def fnResultSpec : ChangeSpec := { name := "fnResult", fn := fun _ => fun
  | [d] => { results := [.lit (.bool true)], args := [d] }
  | _ => none }
def fnResultRow : OpenClaim := { program := "ytdljobmhnnegiaadoor", sum := "3ca4d952dfdf01978722b56a2cfa597fd12641e1d52124bb5d0efa7d2d470005", func := "testevents/laws.FnResult", spec := "fnResult", inPlace := ["internal/bytealg.IndexByte", "internal/abi.NoEscape", "internal/bytealg.MakeNoZero"], unfollowed := true, recurses := true, named := ["unicode/utf8.first", "unicode/utf8.acceptRanges", "unicode.properties", "unicode.Lower", "unicode.CaseRanges", "strings.asciiSpace", "unicode.White_Space"], apart := false, laid := [("unicode/utf8.acceptRanges", laid_unicode_utf8_acceptRanges), ("unicode.White_Space", laid_unicode_White_Space), ("unicode.properties", laid_unicode_properties), ("strings.asciiSpace", laid_strings_asciiSpace), ("unicode.CaseRanges", laid_unicode_CaseRanges), ("unicode.Lower", laid_unicode_Lower), ("unicode/utf8.first", laid_unicode_utf8_first)] }
def FnResultSaid : Prop := fnResultRow.holds Tryd.pinned (OpenSpec.ofChange fnResultSpec)

/-- ITS FALSE NEIGHBOUR: 'it returns false'. Refute it at one input. -/
def fnResultWrong : ChangeSpec := { name := "fnResult", fn := fun _ => fun
  | [d] => { results := [.lit (.bool false)], args := [d] }
  | _ => none }
def FnResultWrongFalsely : Prop := fnResultRow.holds Tryd.pinned (OpenSpec.ofChange fnResultWrong)

/-- 'laws.FnStart': WHATEVER THE INPUT: true; the input reads as it did. -/
def fnStartSpec : ChangeSpec := { name := "fnStart", fn := fun _ => fun
  | [d1, d2, d3, d4] => { results := [.lit (.bool true)], args := [d1, d2, d3, d4] }
  | _ => none }
def fnStartRow : OpenClaim := { program := "ytdljobmhnnegiaadoor", sum := "3ca4d952dfdf01978722b56a2cfa597fd12641e1d52124bb5d0efa7d2d470005", func := "testevents/laws.FnStart", spec := "fnStart", inPlace := ["internal/bytealg.IndexByte", "internal/abi.NoEscape", "internal/bytealg.MakeNoZero"], unfollowed := true, recurses := true, named := ["unicode/utf8.first", "unicode/utf8.acceptRanges", "unicode.properties", "unicode.Lower", "unicode.CaseRanges", "strings.asciiSpace", "unicode.White_Space"], apart := false, laid := [("unicode/utf8.acceptRanges", laid_unicode_utf8_acceptRanges), ("unicode.White_Space", laid_unicode_White_Space), ("unicode.properties", laid_unicode_properties), ("strings.asciiSpace", laid_strings_asciiSpace), ("unicode.CaseRanges", laid_unicode_CaseRanges), ("unicode.Lower", laid_unicode_Lower), ("unicode/utf8.first", laid_unicode_utf8_first)] }
def FnStartSaid : Prop := fnStartRow.holds Tryd.pinned (OpenSpec.ofChange fnStartSpec)

/-- ITS FALSE NEIGHBOUR: 'it returns false'. Refute it at one input. -/
def fnStartWrong : ChangeSpec := { name := "fnStart", fn := fun _ => fun
  | [d1, d2, d3, d4] => { results := [.lit (.bool false)], args := [d1, d2, d3, d4] }
  | _ => none }
def FnStartWrongFalsely : Prop := fnStartRow.holds Tryd.pinned (OpenSpec.ofChange fnStartWrong)

/-- 'laws.FnStory': WHATEVER THE INPUT: true; the input reads as it did. -/
def fnStorySpec : ChangeSpec := { name := "fnStory", fn := fun _ => fun
  | [d1, d2, d3, d4] => { results := [.lit (.bool true)], args := [d1, d2, d3, d4] }
  | _ => none }
def fnStoryRow : OpenClaim := { program := "ytdljobmhnnegiaadoor", sum := "3ca4d952dfdf01978722b56a2cfa597fd12641e1d52124bb5d0efa7d2d470005", func := "testevents/laws.FnStory", spec := "fnStory", inPlace := ["internal/bytealg.IndexByte", "internal/abi.NoEscape", "internal/bytealg.MakeNoZero"], unfollowed := true, recurses := true, named := ["unicode/utf8.first", "unicode/utf8.acceptRanges", "unicode.properties", "unicode.Lower", "unicode.CaseRanges", "strings.asciiSpace", "unicode.White_Space"], apart := false, laid := [("unicode/utf8.acceptRanges", laid_unicode_utf8_acceptRanges), ("unicode.White_Space", laid_unicode_White_Space), ("unicode.properties", laid_unicode_properties), ("strings.asciiSpace", laid_strings_asciiSpace), ("unicode.CaseRanges", laid_unicode_CaseRanges), ("unicode.Lower", laid_unicode_Lower), ("unicode/utf8.first", laid_unicode_utf8_first)] }
def FnStorySaid : Prop := fnStoryRow.holds Tryd.pinned (OpenSpec.ofChange fnStorySpec)

/-- ITS FALSE NEIGHBOUR: 'it returns false'. Refute it at one input. -/
def fnStoryWrong : ChangeSpec := { name := "fnStory", fn := fun _ => fun
  | [d1, d2, d3, d4] => { results := [.lit (.bool false)], args := [d1, d2, d3, d4] }
  | _ => none }
def FnStoryWrongFalsely : Prop := fnStoryRow.holds Tryd.pinned (OpenSpec.ofChange fnStoryWrong)

/-- 'laws.FnWaits': WHATEVER THE INPUT: true; the input reads as it did. -/
def fnWaitsSpec : ChangeSpec := { name := "fnWaits", fn := fun _ => fun
  | [d1, d2, d3] => { results := [.lit (.bool true)], args := [d1, d2, d3] }
  | _ => none }
def fnWaitsRow : OpenClaim := { program := "ytdljobmhnnegiaadoor", sum := "3ca4d952dfdf01978722b56a2cfa597fd12641e1d52124bb5d0efa7d2d470005", func := "testevents/laws.FnWaits", spec := "fnWaits", inPlace := ["internal/bytealg.IndexByte", "internal/abi.NoEscape", "internal/bytealg.MakeNoZero"], unfollowed := true, recurses := true, named := ["unicode/utf8.first", "unicode/utf8.acceptRanges", "unicode.properties", "unicode.Lower", "unicode.CaseRanges", "strings.asciiSpace", "unicode.White_Space"], apart := false, laid := [("unicode/utf8.acceptRanges", laid_unicode_utf8_acceptRanges), ("unicode.White_Space", laid_unicode_White_Space), ("unicode.properties", laid_unicode_properties), ("strings.asciiSpace", laid_strings_asciiSpace), ("unicode.CaseRanges", laid_unicode_CaseRanges), ("unicode.Lower", laid_unicode_Lower), ("unicode/utf8.first", laid_unicode_utf8_first)] }
def FnWaitsSaid : Prop := fnWaitsRow.holds Tryd.pinned (OpenSpec.ofChange fnWaitsSpec)

/-- ITS FALSE NEIGHBOUR: 'it returns false'. Refute it at one input. -/
def fnWaitsWrong : ChangeSpec := { name := "fnWaits", fn := fun _ => fun
  | [d1, d2, d3] => { results := [.lit (.bool false)], args := [d1, d2, d3] }
  | _ => none }
def FnWaitsWrongFalsely : Prop := fnWaitsRow.holds Tryd.pinned (OpenSpec.ofChange fnWaitsWrong)

/- THE SECOND FORM. 'bulk': how many values and letters a reading holds, each counted each time it is reached (what is shared counts as often as it is met; a slice's spare places count too). A statement '..UptoSaid' is the law's where the arguments, and the package variables that the reading takes, are together of bulk at most 1048576: NARROWER than '..Said'. Prove '..Said' where nothing that the law and all that it calls make is longer than what came in: it says more and counts as full. Else prove '..UptoSaid'. A law counts once. -/
mutual
def uptoBulk {H : Type} : DataW H → Nat
  | .lit (.string bytes) => bytes.length + 1
  | .lit _ => 1
  | .nil => 1
  | .ptr d => uptoBulk d + 1
  | .slice elems spare => uptoBulkAll elems + uptoBulkAll spare + 1
  | .agg parts => uptoBulkAll parts + 1
  | .iface _ d => uptoBulk d + 1
  | .map entries => uptoBulkEntries entries + 1
  | .held _ => 1
def uptoBulkAll {H : Type} : List (DataW H) → Nat
  | [] => 0
  | d :: r => uptoBulk d + uptoBulkAll r
def uptoBulkEntries {H : Type} : List (Lit × DataW H) → Nat
  | [] => 0
  | x :: r => uptoBulkEntry x + uptoBulkEntries r
def uptoBulkEntry {H : Type} : Lit × DataW H → Nat
  | (.string bytes, d) => bytes.length + uptoBulk d + 1
  | (_, d) => uptoBulk d + 1
 end
def uptoSmall : (H : Type) → List (DataW H) → Bool := fun _ ds => decide (uptoBulkAll ds ≤ 1048576)
def OpenSpec.upto (s : _root_.Go.ChangeSpec) : _root_.Go.OpenSpec := { _root_.Go.OpenSpec.ofChange s with cond := some uptoSmall }

/-- 'laws.FnBenchmark', WHERE WHAT IT READS IS OF BULK AT MOST 1048576: true; the input reads as it did. -/
def fnBenchmarkUptoRow : OpenClaim := { program := "ytdljobmhnnegiaadoor", sum := "3ca4d952dfdf01978722b56a2cfa597fd12641e1d52124bb5d0efa7d2d470005", func := "testevents/laws.FnBenchmark", spec := "fnBenchmark", named := ["unicode/utf8.first", "unicode/utf8.acceptRanges", "unicode.properties", "unicode.Lower"], apart := false, laid := [("unicode/utf8.acceptRanges", laid_unicode_utf8_acceptRanges), ("unicode.properties", laid_unicode_properties), ("unicode.Lower", laid_unicode_Lower), ("unicode/utf8.first", laid_unicode_utf8_first)], narrowed := true }
def FnBenchmarkUptoSaid : Prop := fnBenchmarkUptoRow.holds Tryd.pinned (OpenSpec.upto fnBenchmarkSpec)

/-- 'laws.FnLines', WHERE WHAT IT READS IS OF BULK AT MOST 1048576: true; the input reads as it did. -/
def fnLinesUptoRow : OpenClaim := { program := "ytdljobmhnnegiaadoor", sum := "3ca4d952dfdf01978722b56a2cfa597fd12641e1d52124bb5d0efa7d2d470005", func := "testevents/laws.FnLines", spec := "fnLines", inPlace := ["internal/bytealg.IndexByte"], unfollowed := true, recurses := true, named := ["unicode/utf8.first", "unicode/utf8.acceptRanges", "unicode.properties", "unicode.Lower"], apart := false, laid := [("unicode/utf8.acceptRanges", laid_unicode_utf8_acceptRanges), ("unicode.properties", laid_unicode_properties), ("unicode.Lower", laid_unicode_Lower), ("unicode/utf8.first", laid_unicode_utf8_first)], narrowed := true }
def FnLinesUptoSaid : Prop := fnLinesUptoRow.holds Tryd.pinned (OpenSpec.upto fnLinesSpec)

/-- 'laws.FnArtifacts', WHERE WHAT IT READS IS OF BULK AT MOST 1048576: true; the input reads as it did. -/
def fnArtifactsUptoRow : OpenClaim := { program := "ytdljobmhnnegiaadoor", sum := "3ca4d952dfdf01978722b56a2cfa597fd12641e1d52124bb5d0efa7d2d470005", func := "testevents/laws.FnArtifacts", spec := "fnArtifacts", inPlace := ["internal/bytealg.IndexByte", "internal/abi.NoEscape", "internal/bytealg.MakeNoZero"], unfollowed := true, recurses := true, named := ["unicode/utf8.first", "unicode/utf8.acceptRanges", "unicode.properties", "unicode.Lower", "unicode.CaseRanges", "strings.asciiSpace", "unicode.White_Space"], apart := false, laid := [("unicode/utf8.acceptRanges", laid_unicode_utf8_acceptRanges), ("unicode.White_Space", laid_unicode_White_Space), ("unicode.properties", laid_unicode_properties), ("strings.asciiSpace", laid_strings_asciiSpace), ("unicode.CaseRanges", laid_unicode_CaseRanges), ("unicode.Lower", laid_unicode_Lower), ("unicode/utf8.first", laid_unicode_utf8_first)], narrowed := true }
def FnArtifactsUptoSaid : Prop := fnArtifactsUptoRow.holds Tryd.pinned (OpenSpec.upto fnArtifactsSpec)

/-- 'laws.FnAttribute', WHERE WHAT IT READS IS OF BULK AT MOST 1048576: true; the input reads as it did. -/
def fnAttributeUptoRow : OpenClaim := { program := "ytdljobmhnnegiaadoor", sum := "3ca4d952dfdf01978722b56a2cfa597fd12641e1d52124bb5d0efa7d2d470005", func := "testevents/laws.FnAttribute", spec := "fnAttribute", inPlace := ["internal/bytealg.IndexByte", "internal/abi.NoEscape", "internal/bytealg.MakeNoZero"], unfollowed := true, recurses := true, named := ["unicode/utf8.first", "unicode/utf8.acceptRanges", "unicode.properties", "unicode.Lower", "unicode.CaseRanges", "strings.asciiSpace", "unicode.White_Space"], apart := false, laid := [("unicode/utf8.acceptRanges", laid_unicode_utf8_acceptRanges), ("unicode.White_Space", laid_unicode_White_Space), ("unicode.properties", laid_unicode_properties), ("strings.asciiSpace", laid_strings_asciiSpace), ("unicode.CaseRanges", laid_unicode_CaseRanges), ("unicode.Lower", laid_unicode_Lower), ("unicode/utf8.first", laid_unicode_utf8_first)], narrowed := true }
def FnAttributeUptoSaid : Prop := fnAttributeUptoRow.holds Tryd.pinned (OpenSpec.upto fnAttributeSpec)

/-- 'laws.FnConcatenation', WHERE WHAT IT READS IS OF BULK AT MOST 1048576: true; the input reads as it did. -/
def fnConcatenationUptoRow : OpenClaim := { program := "ytdljobmhnnegiaadoor", sum := "3ca4d952dfdf01978722b56a2cfa597fd12641e1d52124bb5d0efa7d2d470005", func := "testevents/laws.FnConcatenation", spec := "fnConcatenation", inPlace := ["internal/bytealg.IndexByte", "internal/abi.NoEscape", "internal/bytealg.MakeNoZero"], unfollowed := true, recurses := true, named := ["unicode/utf8.first", "unicode/utf8.acceptRanges", "unicode.properties", "unicode.Lower", "unicode.CaseRanges", "strings.asciiSpace", "unicode.White_Space"], apart := false, laid := [("unicode/utf8.acceptRanges", laid_unicode_utf8_acceptRanges), ("unicode.White_Space", laid_unicode_White_Space), ("unicode.properties", laid_unicode_properties), ("strings.asciiSpace", laid_strings_asciiSpace), ("unicode.CaseRanges", laid_unicode_CaseRanges), ("unicode.Lower", laid_unicode_Lower), ("unicode/utf8.first", laid_unicode_utf8_first)], narrowed := true }
def FnConcatenationUptoSaid : Prop := fnConcatenationUptoRow.holds Tryd.pinned (OpenSpec.upto fnConcatenationSpec)

/-- 'laws.FnEscaped', WHERE WHAT IT READS IS OF BULK AT MOST 1048576: true; the input reads as it did. -/
def fnEscapedUptoRow : OpenClaim := { program := "ytdljobmhnnegiaadoor", sum := "3ca4d952dfdf01978722b56a2cfa597fd12641e1d52124bb5d0efa7d2d470005", func := "testevents/laws.FnEscaped", spec := "fnEscaped", inPlace := ["internal/bytealg.IndexByte", "internal/abi.NoEscape", "internal/bytealg.MakeNoZero"], unfollowed := true, recurses := true, named := ["unicode/utf8.first", "unicode/utf8.acceptRanges", "unicode.properties", "unicode.Lower", "unicode.CaseRanges", "strings.asciiSpace", "unicode.White_Space"], apart := false, laid := [("unicode/utf8.acceptRanges", laid_unicode_utf8_acceptRanges), ("unicode.White_Space", laid_unicode_White_Space), ("unicode.properties", laid_unicode_properties), ("strings.asciiSpace", laid_strings_asciiSpace), ("unicode.CaseRanges", laid_unicode_CaseRanges), ("unicode.Lower", laid_unicode_Lower), ("unicode/utf8.first", laid_unicode_utf8_first)], narrowed := true }
def FnEscapedUptoSaid : Prop := fnEscapedUptoRow.holds Tryd.pinned (OpenSpec.upto fnEscapedSpec)

/-- 'laws.FnFailedBuild', WHERE WHAT IT READS IS OF BULK AT MOST 1048576: true; the input reads as it did. -/
def fnFailedBuildUptoRow : OpenClaim := { program := "ytdljobmhnnegiaadoor", sum := "3ca4d952dfdf01978722b56a2cfa597fd12641e1d52124bb5d0efa7d2d470005", func := "testevents/laws.FnFailedBuild", spec := "fnFailedBuild", inPlace := ["internal/bytealg.IndexByte", "internal/abi.NoEscape", "internal/bytealg.MakeNoZero"], unfollowed := true, recurses := true, named := ["unicode/utf8.first", "unicode/utf8.acceptRanges", "unicode.properties", "unicode.Lower", "unicode.CaseRanges", "strings.asciiSpace", "unicode.White_Space"], apart := false, laid := [("unicode/utf8.acceptRanges", laid_unicode_utf8_acceptRanges), ("unicode.White_Space", laid_unicode_White_Space), ("unicode.properties", laid_unicode_properties), ("strings.asciiSpace", laid_strings_asciiSpace), ("unicode.CaseRanges", laid_unicode_CaseRanges), ("unicode.Lower", laid_unicode_Lower), ("unicode/utf8.first", laid_unicode_utf8_first)], narrowed := true }
def FnFailedBuildUptoSaid : Prop := fnFailedBuildUptoRow.holds Tryd.pinned (OpenSpec.upto fnFailedBuildSpec)

/-- 'laws.FnResult', WHERE WHAT IT READS IS OF BULK AT MOST 1048576: true; the input reads as it did. -/
def fnResultUptoRow : OpenClaim := { program := "ytdljobmhnnegiaadoor", sum := "3ca4d952dfdf01978722b56a2cfa597fd12641e1d52124bb5d0efa7d2d470005", func := "testevents/laws.FnResult", spec := "fnResult", inPlace := ["internal/bytealg.IndexByte", "internal/abi.NoEscape", "internal/bytealg.MakeNoZero"], unfollowed := true, recurses := true, named := ["unicode/utf8.first", "unicode/utf8.acceptRanges", "unicode.properties", "unicode.Lower", "unicode.CaseRanges", "strings.asciiSpace", "unicode.White_Space"], apart := false, laid := [("unicode/utf8.acceptRanges", laid_unicode_utf8_acceptRanges), ("unicode.White_Space", laid_unicode_White_Space), ("unicode.properties", laid_unicode_properties), ("strings.asciiSpace", laid_strings_asciiSpace), ("unicode.CaseRanges", laid_unicode_CaseRanges), ("unicode.Lower", laid_unicode_Lower), ("unicode/utf8.first", laid_unicode_utf8_first)], narrowed := true }
def FnResultUptoSaid : Prop := fnResultUptoRow.holds Tryd.pinned (OpenSpec.upto fnResultSpec)

/-- 'laws.FnStart', WHERE WHAT IT READS IS OF BULK AT MOST 1048576: true; the input reads as it did. -/
def fnStartUptoRow : OpenClaim := { program := "ytdljobmhnnegiaadoor", sum := "3ca4d952dfdf01978722b56a2cfa597fd12641e1d52124bb5d0efa7d2d470005", func := "testevents/laws.FnStart", spec := "fnStart", inPlace := ["internal/bytealg.IndexByte", "internal/abi.NoEscape", "internal/bytealg.MakeNoZero"], unfollowed := true, recurses := true, named := ["unicode/utf8.first", "unicode/utf8.acceptRanges", "unicode.properties", "unicode.Lower", "unicode.CaseRanges", "strings.asciiSpace", "unicode.White_Space"], apart := false, laid := [("unicode/utf8.acceptRanges", laid_unicode_utf8_acceptRanges), ("unicode.White_Space", laid_unicode_White_Space), ("unicode.properties", laid_unicode_properties), ("strings.asciiSpace", laid_strings_asciiSpace), ("unicode.CaseRanges", laid_unicode_CaseRanges), ("unicode.Lower", laid_unicode_Lower), ("unicode/utf8.first", laid_unicode_utf8_first)], narrowed := true }
def FnStartUptoSaid : Prop := fnStartUptoRow.holds Tryd.pinned (OpenSpec.upto fnStartSpec)

/-- 'laws.FnStory', WHERE WHAT IT READS IS OF BULK AT MOST 1048576: true; the input reads as it did. -/
def fnStoryUptoRow : OpenClaim := { program := "ytdljobmhnnegiaadoor", sum := "3ca4d952dfdf01978722b56a2cfa597fd12641e1d52124bb5d0efa7d2d470005", func := "testevents/laws.FnStory", spec := "fnStory", inPlace := ["internal/bytealg.IndexByte", "internal/abi.NoEscape", "internal/bytealg.MakeNoZero"], unfollowed := true, recurses := true, named := ["unicode/utf8.first", "unicode/utf8.acceptRanges", "unicode.properties", "unicode.Lower", "unicode.CaseRanges", "strings.asciiSpace", "unicode.White_Space"], apart := false, laid := [("unicode/utf8.acceptRanges", laid_unicode_utf8_acceptRanges), ("unicode.White_Space", laid_unicode_White_Space), ("unicode.properties", laid_unicode_properties), ("strings.asciiSpace", laid_strings_asciiSpace), ("unicode.CaseRanges", laid_unicode_CaseRanges), ("unicode.Lower", laid_unicode_Lower), ("unicode/utf8.first", laid_unicode_utf8_first)], narrowed := true }
def FnStoryUptoSaid : Prop := fnStoryUptoRow.holds Tryd.pinned (OpenSpec.upto fnStorySpec)

/-- 'laws.FnWaits', WHERE WHAT IT READS IS OF BULK AT MOST 1048576: true; the input reads as it did. -/
def fnWaitsUptoRow : OpenClaim := { program := "ytdljobmhnnegiaadoor", sum := "3ca4d952dfdf01978722b56a2cfa597fd12641e1d52124bb5d0efa7d2d470005", func := "testevents/laws.FnWaits", spec := "fnWaits", inPlace := ["internal/bytealg.IndexByte", "internal/abi.NoEscape", "internal/bytealg.MakeNoZero"], unfollowed := true, recurses := true, named := ["unicode/utf8.first", "unicode/utf8.acceptRanges", "unicode.properties", "unicode.Lower", "unicode.CaseRanges", "strings.asciiSpace", "unicode.White_Space"], apart := false, laid := [("unicode/utf8.acceptRanges", laid_unicode_utf8_acceptRanges), ("unicode.White_Space", laid_unicode_White_Space), ("unicode.properties", laid_unicode_properties), ("strings.asciiSpace", laid_strings_asciiSpace), ("unicode.CaseRanges", laid_unicode_CaseRanges), ("unicode.Lower", laid_unicode_Lower), ("unicode/utf8.first", laid_unicode_utf8_first)], narrowed := true }
def FnWaitsUptoSaid : Prop := fnWaitsUptoRow.holds Tryd.pinned (OpenSpec.upto fnWaitsSpec)

end Rows
end Go.Proofs.YtdljobmhnnegiaaDoor
