/- The library's tables, as a row that lists them has them, are what the shelf's contracts ask. -/
import Derived.Test.YtdljobmhnnegiaaDoorRows
import Derived.Test.YtdljobmhnnegiaaDoorBench
import Derived.PinnedBridge
import Derived.Lib.LaidU8T
import Derived.Lib.LaidRTab
namespace Go.Proofs.YtdljobmhnnegiaaDoor
open Go.RowKit Go.Lib

theorem xL : RExtra Tryd.prog Tryd.lays202_ren := ⟨by kernel_rfl, by kernel_rfl, by kernel_rfl, by kernel_rfl, by kernel_rfl, by kernel_rfl, by kernel_rfl, by kernel_rfl⟩
theorem xU8 : U8Extra Tryd.prog Tryd.lays163_ren := ⟨by kernel_rfl, by kernel_rfl, by kernel_rfl, by kernel_rfl, by kernel_rfl, by kernel_rfl, by kernel_rfl⟩

theorem accept_eq : (Rows.laid_unicode_utf8_acceptRanges : DataW Unit) = acceptData := by kernel_rfl
theorem props_eq : (Rows.laid_unicode_properties : DataW Unit) = tabData .u8 propertiesTab := by kernel_rfl

theorem g4_of {W : World} {rest : List (String × DataW Unit)} (hA : VarReads Tryd.prog W "unicode/utf8.acceptRanges" Rows.laid_unicode_utf8_acceptRanges) (hP : laidMet Tryd.prog (("unicode.properties", (Rows.laid_unicode_properties : DataW Unit)) :: rest) W)
    (hL : VarReads Tryd.prog W "unicode.Lower" Rows.laid_unicode_Lower) (hF : VarReads Tryd.prog W "unicode/utf8.first" Rows.laid_unicode_utf8_first) : G4 W := by
  refine ⟨?_, ?_, ?_⟩
  · rw [props_eq] at hP
    exact tabIs_of_head (g := 0) (t := 112) (e := 5) (n := 256) (by kernel_rfl) (by kernel_rfl) (by kernel_rfl) (by kernel_rfl) (by kernel_rfl) (by kernel_rfl) hP
  · exact rvar_of_reads { Tryd.lays202 with } xL (by kernel_rfl) (by kernel_rfl) (Pinned.lower_eq ▸ (show VarReads Tryd.prog W "unicode.Lower" Go.Pinned.lower from hL))
  · exact utf8Tabs_of_readsT { Tryd.lays163 with } xU8 (Pinned.utf8First_eq ▸ (show VarReads Tryd.prog W "unicode/utf8.first" Go.Pinned.utf8First from hF)) (accept_eq ▸ hA)

end Go.Proofs.YtdljobmhnnegiaaDoor
