/- The law FnMapping. -/
import Derived.Test.YtididniafloogaaGreatDoorSpecMap
import Derived.Test.YtididniafloogaaGreatDoorTruth
import Derived.Test.YtididniafloogaaGreatDoorTexts
namespace Go.Proofs.YtididniafloogaaGreatDoor.Maps
open Go.RowKit Go.Proofs.YtididniafloogaaGreatDoorW.PrintWords Go.Proofs.YtididniafloogaaGreatDoorW.PrintLast Go.Proofs.YtididniafloogaaGreatDoor.Str Go.Proofs.YtididniafloogaaGreatDoor.Kit Go.Proofs.YtididniafloogaaGreatDoor.Index Go.Proofs.YtididniafloogaaGreatDoor.Flat Go.Proofs.YtididniafloogaaGreatDoor.MapV Go.Proofs.YtididniafloogaaGreatDoor.Frame
set_option linter.unusedVariables false
set_option linter.unusedSimpArgs false
set_option maxHeartbeats 1600000 in
theorem lawMapping {A : Option Addr} {c : Nat} {l : List ByteArray} (w : World) (h : Kd.string.C w A l.length l) (hT : MTabs w) :
    Calls Tryz.prog 3 #[.slice A l.length c] w fun e w' => e = .returned (.bool true) ∧ Below w.heap.size w w' := by
  have H := Aside0.mk h
  have HT := Aside0.mk hT
  have HB0 := Aside0.mk (Below.refl w.heap.size w)
  clear h hT
  have CF1 := Aside0.mk (Texts.zzFits2 (c := c) w H.out)
  by_cases f1 : Texts.fits l
  · rw [decide_eq_true f1] at CF1
    have CN := Aside0.mk (implNewMapping (c := c) l w H.out f1.1 f1.2)
    have HF := Aside0.mk f1
    have hnl : (toP (newM l)).length ≤ 2147483647 := by rw [toP_length]; have := newM_length l; have := f1.1; omega
    have HNL := Aside0.mk hnl
    clear f1 hnl
    go_enter Tryz.func3, Tryz.ntmps3
    go_wp2_with fail
    refine CF1.out.mono ?_
    rintro e w1 ⟨rfl, rfl⟩
    go_wp2_with fail
    refine CN.out.mono ?_
    rintro e w1 ⟨v, rfl, hR, hb⟩
    have HB1 := Aside0.mk hb
    obtain ⟨A1, c1, rfl, hle, hC⟩ := Kd.R_reads hR
    have CP := Aside0.mk (pairsFrom (c := c1) _ w1 hC HNL.out)
    clear hR hb hle hC CN CF1
    go_wp2_with fail
    refine CP.out.mono ?_
    rintro e w2 ⟨v, rfl, hR, hb⟩
    have HB2 := Aside0.mk (hb_then HB1.out hb)
    obtain ⟨A2, c2, rfl, hle, hC⟩ := Kd.R_reads hR
    have HC2 := Aside0.mk hC
    have CM := Aside0.mk (specMapping (c := c) l w2 (Kd.C_below H.out HB2.out) HF.out.1 HF.out.2)
    clear hR hb hle hC CP
    go_wp2_with fail
    refine CM.out.mono ?_
    rintro e w3 ⟨v, rfl, hR, hb⟩
    have HB3 := Aside0.mk (hb_then HB2.out hb)
    have HC3 := Aside0.mk (Kd.C_below HC2.out hb)
    obtain ⟨A3, c3, rfl, hle, hC⟩ := Kd.R_reads hR
    have CS := Aside0.mk (samePairs (c := c2) (d := c3) _ _ w3 HC3.out hC HNL.out)
    rw [decide_eq_true rfl] at CS
    clear hR hb hle hC CM
    go_wp2_with fail
    refine CS.out.mono ?_
    rintro e w4 ⟨rfl, hb⟩
    have HB4 := Aside0.mk (hb_then HB3.out hb)
    clear hb CS
    go_wp2_with fail
    refine (mapsAwake _ (HT.out.below HB4.out)).mono ?_
    rintro e w5 ⟨rfl, hb⟩
    have HB5 := Aside0.mk (hb_then HB4.out hb)
    clear hb
    go_wp2
    go_ret
    exact ⟨rfl, HB5.out⟩
  · rw [decide_eq_false f1] at CF1
    clear f1
    go_enter Tryz.func3, Tryz.ntmps3
    go_wp2_with fail
    refine CF1.out.mono ?_
    rintro e w1 ⟨rfl, rfl⟩
    go_wp2
    go_ret
    exact ⟨rfl, HB0.out⟩
theorem lawMappingRow (A : Option Addr) (c : Nat) (l : List ByteArray) (w : World) (h : Kd.string.C w A l.length l) (hc : l.length ≤ c) (hT : MTabs w) :
    Calls Tryz.prog 3 #[.slice A l.length c] w fun e w' => e = .returned (.bool true) ∧ Below w.heap.size w w' := lawMapping w h hT
end Go.Proofs.YtididniafloogaaGreatDoor.Maps
