/- The library's tables that a row lists, as the walks ask for them. -/
import Derived.Test.YtpkfdifoaijpnaaDoorLawName
import Derived.Test.YtpkfdifoaijpnaaDoorCards
import Derived.Test.YtpkfdifoaijpnaaDoorRowKit
import Derived.PinnedBridge
import Derived.Lib.LaidU8
namespace Go.Proofs.YtpkfdifoaijpnaaDoor.Tabs
open Go.RowKit Go.Lib Go.Shelf
set_option maxRecDepth 100000
theorem accept_eq : (Rows.laid_unicode_utf8_acceptRanges : DataW Unit) = acceptData := by kernel_rfl
theorem x204 : CaseExtra Tryd.prog Tryd.lays204_ren := ⟨by kernel_rfl, by kernel_rfl, by kernel_rfl, by kernel_rfl, by kernel_rfl, by kernel_rfl⟩
theorem x260 : U8Extra Tryd.prog Tryd.lays260_ren := ⟨by kernel_rfl, by kernel_rfl, by kernel_rfl, by kernel_rfl, by kernel_rfl, by kernel_rfl, by kernel_rfl⟩
theorem case_of {W : World} (h : VarReads Tryd.prog W "unicode.CaseRanges" Rows.laid_unicode_CaseRanges) : CaseVar 2 caseA W := by
  have e : Rows.laid_unicode_CaseRanges = caseData := Pinned.caseRanges_eq
  rw [e] at h
  exact caseVar_of_reads (ρ := Tryd.lays204_ren) { Tryd.lays204 with } (by kernel_rfl) x204 h
theorem utf8_of {W : World} (h3 : VarReads Tryd.prog W "unicode/utf8.first" Rows.laid_unicode_utf8_first) (h4 : VarReads Tryd.prog W "unicode/utf8.acceptRanges" Rows.laid_unicode_utf8_acceptRanges) : Lib.Utf8Tabs 4 5 W := by
  have e : Rows.laid_unicode_utf8_first = firstData := Pinned.utf8First_eq
  rw [e] at h3
  rw [accept_eq] at h4
  exact utf8Tabs_of_reads Tryd.lays260 x260 h3 h4
theorem names {W : World} (hL : laidMet Tryd.prog Rows.fnProjectNameRightRow.laid W) : LawName.NTabs W :=
  ⟨case_of (Lib.laidMet.reads hL (.tail _ (.head _))), utf8_of (Lib.laidMet.reads hL (.tail _ (.tail _ (.head _)))) (Lib.laidMet.reads hL (.head _))⟩
end Go.Proofs.YtpkfdifoaijpnaaDoor.Tabs
