/- The tables that a row lists for unicode/utf8 and unicode.IsSpace: from the row's cell 'laid' to what the contracts ask of the world. -/
import Derived.Test.YtnhcocjdkmelhaaDoorSpacesHand
import Derived.Test.YtnhcocjdkmelhaaDoorRows
import Derived.Lib.LaidU8T
import Derived.PinnedBridge
import Derived.Lay
namespace Go.Proofs.YtnhcocjdkmelhaaDoor.Hand
open Go.Shelf Go.Proofs Go.Lib

def u8_ren : Go.Shelf.Ren := ⟨fun n => n, fun | 5 => 5 | 119 => 66 | 138 => 81 | 139 => 82 | n => n, fun | 3 => 2 | 4 => 3 | n => n⟩
theorem u8_types : U8Types Tryd.prog u8_ren where
  t5 := by kernel_rfl
  t119 := by kernel_rfl
  t138 := by kernel_rfl
  t139 := by kernel_rfl
theorem u8_extra : U8Extra Tryd.prog u8_ren where
  n3 := by kernel_rfl
  n4 := by kernel_rfl
  y3 := by kernel_rfl
  y4 := by kernel_rfl
  c5 := by kernel_rfl
  c119 := by kernel_rfl
  c138 := by kernel_rfl
theorem white_extra : WhiteExtra Tryd.prog lays199_ren where
  n6 := by kernel_rfl
  y6 := by kernel_rfl
  c3 := by kernel_rfl
  c49 := by kernel_rfl
  c193 := by kernel_rfl
  c194 := by kernel_rfl
  c196 := by kernel_rfl
  c198 := by kernel_rfl
theorem accept_eq : (Rows.laid_unicode_utf8_acceptRanges : DataW Unit) = acceptData := by kernel_rfl
theorem white_eq : (Rows.laid_unicode_White_Space : DataW Unit) = whiteData := by kernel_rfl
theorem first_eq : Rows.laid_unicode_utf8_first = firstData := Pinned.utf8First_eq
theorem spaces_tab {W : World} (h : laidMet Tryd.prog Rows.fnSpacesRow.laid W) : TabB W := by
  have h3 : VarReads Tryd.prog W "unicode/utf8.first" firstData := laidMet.reads h (by rw [← first_eq]; exact .tail _ (.tail _ (.head _)))
  have h4 : VarReads Tryd.prog W "unicode/utf8.acceptRanges" acceptData := laidMet.reads h (by rw [← accept_eq]; exact .head _)
  have h6 : VarReads Tryd.prog W "unicode.White_Space" whiteData := laidMet.reads h (by rw [← white_eq]; exact .tail _ (.head _))
  exact ⟨utf8Tabs_of_readsT u8_types u8_extra h3 h4, whiteTab_of_reads lays199 white_extra h6⟩
#print axioms spaces_tab
end Go.Proofs.YtnhcocjdkmelhaaDoor.Hand
