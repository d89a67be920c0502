/-
  The three tables of unicode, off the row's 'laid'. No condition of ours.
-/
import Derived.Test.YthihppocokkoiaaDoorUp
import Derived.Test.YthihppocokkoiaaDoorCards
import Derived.Lib.LaidU8
import Derived.Lib.LaidCase
namespace Go.Proofs.YthihppocokkoiaaDoor
set_option linter.unusedVariables false
open Go.Shelf Go.RowKit Go.Lib Go.Sort

theorem sameCase : Rows.laid_unicode_CaseRanges = caseData := by kernel_rfl
theorem sameFirst : Rows.laid_unicode_utf8_first = firstData := by kernel_rfl
theorem sameAccept : Rows.laid_unicode_utf8_acceptRanges = acceptData := by kernel_rfl
theorem tabsU_of {W : World} (hL : laidMet Tryd.prog [("unicode/utf8.acceptRanges", Rows.laid_unicode_utf8_acceptRanges), ("unicode.CaseRanges", Rows.laid_unicode_CaseRanges), ("unicode/utf8.first", Rows.laid_unicode_utf8_first)] W) : TabsU W := by
  rw [sameCase, sameFirst, sameAccept] at hL
  exact ⟨caseVar_of_reads { Tryd.lays158 with } Tryd.lays158.t206 ⟨by kernel_rfl, by kernel_rfl, by kernel_rfl, by kernel_rfl, by kernel_rfl, by kernel_rfl⟩ (Lib.laidMet.reads hL (.tail _ (.head _))),
    utf8Tabs_of_reads { Tryd.lays158 with } ⟨by kernel_rfl, by kernel_rfl, by kernel_rfl, by kernel_rfl, by kernel_rfl, by kernel_rfl, by kernel_rfl⟩ (Lib.laidMet.reads hL (.tail _ (.tail _ (.head _)))) (Lib.laidMet.reads hL (.head _))⟩
end Go.Proofs.YthihppocokkoiaaDoor
