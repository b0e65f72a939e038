/- sort.Strings over this program, laid; impl.rising. -/
import Derived.Test.YtididniafloogaaGreatDoorSortTexts
import Derived.Shelf.Lay
import Derived.Shelf.Sort.Plain
namespace Go.Proofs
shelf_lay Lays.n192 Nm 192 at Tryz as Tryz.lays192
#check @Tryz.lays192
end Go.Proofs
