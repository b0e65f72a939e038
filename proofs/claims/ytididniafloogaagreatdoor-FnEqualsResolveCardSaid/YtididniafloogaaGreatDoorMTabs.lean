/- The library's variables that a row lists, as the walks over maps ask for them. -/
import Derived.Test.YtididniafloogaaGreatDoorTruth
import Derived.Test.YtididniafloogaaGreatDoorCards
import Derived.Test.YtididniafloogaaGreatDoorRowKit
import Derived.PinnedBridge
import Derived.Lib.LaidU8
import Derived.Stop.LaidErr
namespace Go.Proofs.YtididniafloogaaGreatDoor.MTabsOf
open Go.RowKit Go.Lib Go.Shelf
set_option maxRecDepth 100000
theorem space_eq : (Rows.laid_strings_asciiSpace : DataW Unit) = tabData .u8 asciiSpaceTab := by kernel_rfl
theorem star : "*" ++ "errors.errorString" = "*errors.errorString" := by decide
theorem rowErr (u : TypeId) (h : Tryz.prog.typeName? 3 u = some "*errors.errorString") : u = 155 :=
  typeName_ptr_named (nm := "errors.errorString") (by rw [star]; kernel_rfl) (by kernel_rfl) (by decide) u (by rw [star]; exact h)
theorem maps {W : World} (hL : laidMet Tryz.prog Rows.fnTruthRow.laid W) : Maps.MTabs W := by
  have h5 : laidMet Tryz.prog (("strconv.ErrSyntax", Rows.laid_strconv_ErrSyntax) :: _) W := laidMet.tail (laidMet.tail (laidMet.tail (laidMet.tail (laidMet.tail hL))))
  have h7 : laidMet Tryz.prog (("strings.asciiSpace", Rows.laid_strings_asciiSpace) :: _) W := laidMet.tail (laidMet.tail h5)
  rw [space_eq] at h7
  refine ⟨Lib.tabIs_of_head (g := 0) (t := 152) (e := 5) (n := 256) (by kernel_rfl) (by kernel_rfl) (by kernel_rfl) (by kernel_rfl) (by kernel_rfl) (by kernel_rfl) h7, ?_⟩
  obtain ⟨a, s, hv, _⟩ := laid_sentinel h5 (show Tryz.prog.globalNamed "strconv.ErrSyntax" = some 2 by kernel_rfl) (show (Tryz.prog.globals[2]?).map (·.type) = some 104 by kernel_rfl) Tryz.underlying104 rowErr Tryz.underlying155 Tryz.underlying157 rfl rfl Tryz.underlying9 (by kernel_rfl) (by kernel_rfl)
  exact ⟨_, _, hv⟩
end Go.Proofs.YtididniafloogaaGreatDoor.MTabsOf
