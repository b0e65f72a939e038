/- The walk through the law FnPathMay. -/
import Derived.Test.YtecehldjeppjiaaMatcher
namespace Go.Proofs.Ytecehldjeppjiaa.LawPathMay
open Go.RowKit Go.Proofs.YtecehldjeppjiaaW.PrintWords Go.Proofs.Ytecehldjeppjiaa.Str Go.Proofs.Ytecehldjeppjiaa.Kit Go.Proofs.Ytecehldjeppjiaa.Index Go.Proofs.Ytecehldjeppjiaa.Tree Go.Proofs.Ytecehldjeppjiaa.Texts Go.Proofs.Ytecehldjeppjiaa.PathSpec
set_option linter.unusedVariables false
set_option linter.unusedSimpArgs false

theorem may_long (qs : List ByteArray) (p : ByteArray) : mayB qs p = longB (qs.map (parts 46)) (parts 46 p) := by
  unfold mayB longB mayOne
  rw [List.any_map]
  rfl

set_option maxHeartbeats 1000000 in
theorem law (A : Option Addr) (c : Nat) (qs : List ByteArray) (p : ByteArray) (w : World) (hC : Kd.string.C w A qs.length qs) (_ : qs.length ≤ c) (_ : p.size ≤ 140737488351232) :
    Calls Try.prog 5 #[.slice A qs.length c, .string p] w fun e w' => e = .returned (.bool true) ∧ Below w.heap.size w w' := by
  have H := Aside0.mk hC
  clear hC
  by_cases hf : fits qs
  · by_cases hp : p.size ≤ 2147483647
    · have HF := Aside0.mk hf
      have HM := Aside0.mk (may_long qs p)
      have HD := Aside0.mk (decide_eq_true hf)
      clear hf
      go_enter Try.func5, Try.ntmps5
      go_wp2_with fail
      refine (zzFits2 w H.out).mono ?_
      rintro e w1 ⟨rfl, rfl⟩
      rw [HD.out]
      go_wp2_with fail
      refine (PathMay p w H.out HF.out hp).mono ?_
      rintro e w1 ⟨hb, rfl | ⟨b, rfl⟩⟩
      · have HB1 := Aside0.mk hb
        have H1 := Aside0.mk (Kd.C_below H.out hb)
        clear hb
        rw [HM.out]
        go_wp2_with fail
        refine (impl_MayContain p w1 H1.out HF.out.1 HF.out.2 (by omega)).mono ?_
        rintro e w2 ⟨rfl, hb⟩
        have HB2 := Aside0.mk (hb_then HB1.out hb)
        generalize longB (qs.map (parts 46)) (parts 46 p) = bb
        clear hb
        go_wp2_with fail
        refine (treeLives w2).mono ?_
        rintro e w3 ⟨rfl, hb⟩
        have HB3 := Aside0.mk (hb_then HB2.out hb)
        clear hb
        go_wp2
        go_ret
        exact ⟨rfl, HB3.out⟩
      · have HB1 := Aside0.mk hb
        clear hb
        go_wp2_with fail
        refine (treeLives w1).mono ?_
        rintro e w3 ⟨rfl, hb⟩
        have HB3 := Aside0.mk (hb_then HB1.out hb)
        clear hb
        go_wp2
        go_ret
        exact ⟨rfl, HB3.out⟩
    · have HD := Aside0.mk (decide_eq_true hf)
      have hp2 : 2147483647 < p.size := by omega
      clear hf hp
      go_enter Try.func5, Try.ntmps5
      go_wp2_with fail
      refine (zzFits2 w H.out).mono ?_
      rintro e w1 ⟨rfl, rfl⟩
      rw [HD.out]
      go_wp2
      go_ret
      exact ⟨rfl, Below.refl _ _⟩
  · have HD := Aside0.mk (decide_eq_false hf)
    clear hf
    go_enter Try.func5, Try.ntmps5
    go_wp2_with fail
    refine (zzFits2 w H.out).mono ?_
    rintro e w1 ⟨rfl, rfl⟩
    rw [HD.out]
    go_wp2
    go_ret
    exact ⟨rfl, Below.refl _ _⟩
end Go.Proofs.Ytecehldjeppjiaa.LawPathMay
