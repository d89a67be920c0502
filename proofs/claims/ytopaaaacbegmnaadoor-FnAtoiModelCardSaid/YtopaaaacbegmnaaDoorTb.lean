/-
  The tables and variables that atoi reads, off the row's 'laid'. No condition of ours.
-/
import Derived.Test.YtopaaaacbegmnaaDoorBa
import Derived.Test.YtopaaaacbegmnaaDoorCards
import Derived.Lib.LaidU8
import Derived.Lib.LaidTab
import Derived.LaidLaws
namespace Go.Proofs.YtopaaaacbegmnaaDoor
set_option linter.unusedVariables false
open Go.Shelf Go.RowKit Go.Lib

theorem sameSpace : (Rows.laid_strings_asciiSpace : DataW Unit) = tabData .u8 asciiSpaceTab := by kernel_rfl
theorem sameWhite : (Rows.laid_unicode_White_Space : DataW Unit) = whiteData := by kernel_rfl
theorem sameFirst : (Rows.laid_unicode_utf8_first : DataW Unit) = firstData := by kernel_rfl
theorem sameAccept : (Rows.laid_unicode_utf8_acceptRanges : DataW Unit) = acceptData := by kernel_rfl
theorem errCell {W : World} {name nm : String} {d : DataW Unit} {g : Nat} (hg : Tryd.prog.globalNamed name = some g) (hty : (Tryd.prog.globals[g]?).map (·.type) = some 49) (h : VarReads Tryd.prog W name (.iface nm d)) : ∃ te pe, W.cell? ⟨g, 0, none⟩ = some (.iface te pe) := by
  obtain ⟨g', t', cs, fuel, p, hg', ht', hvar, hd⟩ := h
  obtain rfl := Option.some.inj (hg.symm.trans hg')
  obtain rfl := Option.some.inj (hty.symm.trans ht')
  obtain ⟨_, u, v, hcs, _, _⟩ := iface_of_trod Tryd.underlying49 hd
  have h0 := World.var?_cell hg hvar 0
  rw [← Array.getElem?_toList, hcs] at h0
  exact ⟨u, v, h0⟩
theorem tabIs_of_reads {W : World} (h : VarReads Tryd.prog W "strings.asciiSpace" (tabData .u8 asciiSpaceTab)) : TabIs Tryd.prog W "strings.asciiSpace" .u8 asciiSpaceTab := by
  obtain ⟨g', t', cs, fuel, p, hg', ht', hvar, hd⟩ := h
  obtain rfl := Option.some.inj (spX.gNamed.symm.trans hg')
  obtain rfl := Option.some.inj ((show (Tryd.prog.globals[Tryd.lays163_ren.g 0]?).map (·.type) = some 72 by kernel_rfl).symm.trans ht')
  unfold TabIs
  rw [hvar, ← cells_of_tab Tryd.underlying72 Tryd.underlying5 (show Tryd.prog.cellsOf 5 = 1 by kernel_rfl) (show Tryd.prog.cellsOf 72 = 256 by kernel_rfl) hd]
theorem atT_of {W : World} (hL : laidMet Tryd.prog [("math/bits.deBruijn32tab", Rows.laid_math_bits_deBruijn32tab), ("math/bits.deBruijn64tab", Rows.laid_math_bits_deBruijn64tab), ("internal/strconv.uint64pow10", Rows.laid_internal_strconv_uint64pow10), ("unicode/utf8.acceptRanges", Rows.laid_unicode_utf8_acceptRanges), ("strconv.ErrRange", Rows.laid_strconv_ErrRange), ("strconv.ErrSyntax", Rows.laid_strconv_ErrSyntax), ("unicode.White_Space", Rows.laid_unicode_White_Space), ("strings.asciiSpace", Rows.laid_strings_asciiSpace), ("unicode/utf8.first", Rows.laid_unicode_utf8_first)] W) : AtT W := by
  rw [sameSpace, sameWhite, sameFirst, sameAccept] at hL
  exact ⟨tabIs_of_reads (Lib.laidMet.reads hL (.tail _ (.tail _ (.tail _ (.tail _ (.tail _ (.tail _ (.tail _ (.head _))))))))),
    utf8Tabs_of_reads { Tryd.lays163 with } ⟨by kernel_rfl, by kernel_rfl, by kernel_rfl, by kernel_rfl, by kernel_rfl, by kernel_rfl, by kernel_rfl⟩ (Lib.laidMet.reads hL (.tail _ (.tail _ (.tail _ (.tail _ (.tail _ (.tail _ (.tail _ (.tail _ (.head _)))))))))) (Lib.laidMet.reads hL (.tail _ (.tail _ (.tail _ (.head _))))),
    whiteTab_of_reads { Tryd.lays163 with } ⟨by kernel_rfl, by kernel_rfl, by kernel_rfl, by kernel_rfl, by kernel_rfl, by kernel_rfl, by kernel_rfl, by kernel_rfl⟩ (Lib.laidMet.reads hL (.tail _ (.tail _ (.tail _ (.tail _ (.tail _ (.tail _ (.head _)))))))),
    errCell (by kernel_rfl) (by kernel_rfl) (Lib.laidMet.reads hL (.tail _ (.tail _ (.tail _ (.tail _ (.tail _ (.head _))))))), errCell (by kernel_rfl) (by kernel_rfl) (Lib.laidMet.reads hL (.tail _ (.tail _ (.tail _ (.tail _ (.head _))))))⟩
end Go.Proofs.YtopaaaacbegmnaaDoor
