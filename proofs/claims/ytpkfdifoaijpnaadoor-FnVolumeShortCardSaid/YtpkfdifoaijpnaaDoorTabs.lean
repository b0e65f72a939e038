/- The library's tables that a row lists, as the walks ask for them. -/
import Derived.Test.YtpkfdifoaijpnaaDoorLawName
import Derived.Test.YtpkfdifoaijpnaaDoorVolFn
import Derived.Test.YtpkfdifoaijpnaaDoorCards
import Derived.Test.YtpkfdifoaijpnaaDoorRowKit
import Derived.PinnedBridge
import Derived.Lib.LaidU8
import Derived.Stop.LaidErr
namespace Go.Proofs.YtpkfdifoaijpnaaDoor.Tabs
open Go.RowKit Go.Lib Go.Shelf
set_option maxRecDepth 100000
theorem accept_eq : (Rows.laid_unicode_utf8_acceptRanges : DataW Unit) = acceptData := by kernel_rfl
theorem x204 : CaseExtra Tryd.prog Tryd.lays204_ren := ⟨by kernel_rfl, by kernel_rfl, by kernel_rfl, by kernel_rfl, by kernel_rfl, by kernel_rfl⟩
theorem x260 : U8Extra Tryd.prog Tryd.lays260_ren := ⟨by kernel_rfl, by kernel_rfl, by kernel_rfl, by kernel_rfl, by kernel_rfl, by kernel_rfl, by kernel_rfl⟩
theorem case_of {W : World} (h : VarReads Tryd.prog W "unicode.CaseRanges" Rows.laid_unicode_CaseRanges) : CaseVar 2 caseA W := by
  have e : Rows.laid_unicode_CaseRanges = caseData := Pinned.caseRanges_eq
  rw [e] at h
  exact caseVar_of_reads (ρ := Tryd.lays204_ren) { Tryd.lays204 with } (by kernel_rfl) x204 h
theorem utf8_of {W : World} (h3 : VarReads Tryd.prog W "unicode/utf8.first" Rows.laid_unicode_utf8_first) (h4 : VarReads Tryd.prog W "unicode/utf8.acceptRanges" Rows.laid_unicode_utf8_acceptRanges) : Lib.Utf8Tabs 4 5 W := by
  have e : Rows.laid_unicode_utf8_first = firstData := Pinned.utf8First_eq
  rw [e] at h3
  rw [accept_eq] at h4
  exact utf8Tabs_of_reads Tryd.lays260 x260 h3 h4
theorem names {W : World} (hL : laidMet Tryd.prog Rows.fnProjectNameRightRow.laid W) : LawName.NTabs W :=
  ⟨case_of (Lib.laidMet.reads hL (.tail _ (.head _))), utf8_of (Lib.laidMet.reads hL (.tail _ (.tail _ (.head _)))) (Lib.laidMet.reads hL (.head _))⟩
theorem xL : RExtra Tryd.prog Tryd.lays261_ren := ⟨by kernel_rfl, by kernel_rfl, by kernel_rfl, by kernel_rfl, by kernel_rfl, by kernel_rfl, by kernel_rfl, by kernel_rfl⟩
theorem properties_eq : (Rows.laid_unicode_properties : DataW Unit) = tabData .u8 propertiesTab := by kernel_rfl
theorem volume {W : World} (hL : laidMet Tryd.prog Rows.fnVolumeNoneRow.laid W) : Vol.VTabs W := by
  have h1 : VarReads Tryd.prog W "unicode.Letter" Rows.laid_unicode_Letter := Lib.laidMet.reads hL (.tail _ (.tail _ (.head _)))
  have e : Rows.laid_unicode_Letter = rtabData letterT := Pinned.letter_eq
  rw [e] at h1
  have h2 : laidMet Tryd.prog (("unicode.properties", Rows.laid_unicode_properties) :: [("unicode.Letter", Rows.laid_unicode_Letter), ("unicode/utf8.first", Rows.laid_unicode_utf8_first)]) W := laidMet.tail hL
  rw [properties_eq] at h2
  refine ⟨Lib.tabIs_of_head (g := 0) (t := 96) (e := 5) (n := 256) (by kernel_rfl) (by kernel_rfl) (by kernel_rfl) (by kernel_rfl) (by kernel_rfl) (by kernel_rfl) h2, rvar_of_reads Tryd.lays261 xL (by kernel_rfl) (by kernel_rfl) h1⟩
end Go.Proofs.YtpkfdifoaijpnaaDoor.Tabs
