/- All the library's tables that the converter needs, as a row that lists them has them. -/
import Derived.Test.YtdljobmhnnegiaaDoorGlob
import Derived.Test.YtdljobmhnnegiaaDoorCore
import Derived.Lib.LaidU8
namespace Go.Proofs.YtdljobmhnnegiaaDoor
open Go.RowKit Go.Lib

theorem ascii_eq : (Rows.laid_strings_asciiSpace : DataW Unit) = tabData .u8 asciiSpaceTab := by kernel_rfl
theorem white_eq : (Rows.laid_unicode_White_Space : DataW Unit) = whiteData := by kernel_rfl
theorem xW : WhiteExtra Tryd.prog Tryd.lays163_ren := ⟨by kernel_rfl, by kernel_rfl, by kernel_rfl, by kernel_rfl, by kernel_rfl, by kernel_rfl, by kernel_rfl, by kernel_rfl⟩
theorem asciiG : ∃ g, Tryd.prog.globalNamed "strings.asciiSpace" = some g ∧ (Tryd.prog.globals[g]?).map (·.type) = some 112 := ⟨2, by kernel_rfl, by kernel_rfl⟩

theorem g5_of {W : World} {rest rest2 : List (String × DataW Unit)} (hA : VarReads Tryd.prog W "unicode/utf8.acceptRanges" Rows.laid_unicode_utf8_acceptRanges) (hP : laidMet Tryd.prog (("unicode.properties", (Rows.laid_unicode_properties : DataW Unit)) :: rest) W)
    (hL : VarReads Tryd.prog W "unicode.Lower" Rows.laid_unicode_Lower) (hF : VarReads Tryd.prog W "unicode/utf8.first" Rows.laid_unicode_utf8_first)
    (hS : laidMet Tryd.prog (("strings.asciiSpace", (Rows.laid_strings_asciiSpace : DataW Unit)) :: rest2) W) (hW : VarReads Tryd.prog W "unicode.White_Space" Rows.laid_unicode_White_Space) : G5 W := by
  refine ⟨g4_of hA hP hL hF, ?_, ?_⟩
  · rw [ascii_eq] at hS
    exact tabIs_of_head (g := 2) (t := 112) (e := 5) (n := 256) (by kernel_rfl) (by kernel_rfl) (by kernel_rfl) (by kernel_rfl) (by kernel_rfl) (by kernel_rfl) hS
  · exact whiteTab_of_reads { Tryd.lays163 with } xW (white_eq ▸ hW)

end Go.Proofs.YtdljobmhnnegiaaDoor
