/- The walk through the law FnPathParts. -/
import Derived.Test.YtecehldjeppjiaaPathSpec
namespace Go.Proofs.Ytecehldjeppjiaa.LawPathParts
open Go.RowKit Go.Proofs.YtecehldjeppjiaaW.PrintWords Go.Proofs.Ytecehldjeppjiaa.Str Go.Proofs.Ytecehldjeppjiaa.Kit Go.Proofs.Ytecehldjeppjiaa.Index Go.Proofs.Ytecehldjeppjiaa.Tree Go.Proofs.Ytecehldjeppjiaa.Texts Go.Proofs.Ytecehldjeppjiaa.PathSpec
set_option linter.unusedVariables false
set_option linter.unusedSimpArgs false

theorem newPath_parts (s : ByteArray) : newPath (parts 46 s) = s := by
  apply lb_inj
  rw [newPath, lb_mk, parts, List.map_map]
  have : (lb ∘ fun p : Bs => (⟨p.toArray⟩ : ByteArray)) = id := by funext x; simp
  rw [this, List.map_id]
  exact join_split 46 (lb s)

set_option maxHeartbeats 1000000 in
theorem law (s : ByteArray) (w : World) (_ : s.size ≤ 140737488351232) :
    Calls Try.prog 4 #[.string s] w fun e w' => e = .returned (.bool true) ∧ Below w.heap.size w w' := by
  by_cases hs : s.size ≤ 2147483647
  · go_enter Try.func4, Try.ntmps4
    go_wp2_with fail
    refine (PathParts s w (by omega)).mono ?_
    rintro e w1 ⟨hb, ⟨hp, v, rfl, hr⟩ | ⟨hp, v, rfl⟩⟩
    · obtain ⟨A1, c1, rfl, hc1, hC1⟩ := Kd.R_reads hr
      have H1 := Aside0.mk hC1
      have HB1 := Aside0.mk hb
      have hl := parts_length 46 s
      have hnp := Aside0.mk (newPath_parts s)
      clear hr hb hp hC1
      go_wp2_with fail
      refine (impl_Parts s w1 (by omega)).mono ?_
      rintro e w2 ⟨v2, rfl, hr2, hb2⟩
      obtain ⟨A2, c2, rfl, hc2, hC2⟩ := Kd.R_reads hr2
      have H1 := Aside0.mk (Kd.C_below H1.out hb2)
      have HB2 := Aside0.mk (hb_then HB1.out hb2)
      have H2 := Aside0.mk hC2
      clear hr2 hb2 hC2 HB1
      go_wp2_with fail
      refine (sameTexts w2 H2.out H1.out).mono ?_
      rintro e w3 ⟨rfl, hd⟩
      rw [decide_eq_true rfl]
      have HB3 := Aside0.mk (hb_then HB2.out hd.below)
      have H2 := Aside0.mk (Kd.C_below H2.out hd.below)
      clear hd HB2
      go_wp2_with fail
      refine (impl_NewPath w3 H2.out hc2 (by omega) (by rw [hnp.out]; omega)).mono ?_
      rintro e w4 ⟨rfl, hb⟩
      rw [hnp.out]
      have HB4 := Aside0.mk (hb_then HB3.out hb)
      clear hb HB3
      go_wp2_with fail
      refine (treeLives w4).mono ?_
      rintro e w5 ⟨rfl, hb⟩
      have HB5 := Aside0.mk (hb_then HB4.out hb)
      clear hb HB4
      go_wp2
      go_ret
      exact ⟨rfl, HB5.out⟩
    · have HB1 := Aside0.mk hb
      clear hb hp
      go_wp2_with fail
      refine (treeLives w1).mono ?_
      rintro e w5 ⟨rfl, hb⟩
      have HB5 := Aside0.mk (hb_then HB1.out hb)
      clear hb HB1
      go_wp2
      go_ret
      exact ⟨rfl, HB5.out⟩
  · go_enter Try.func4, Try.ntmps4
    have hs2 : 2147483647 < s.size := by omega
    go_wp2
    go_ret
    exact ⟨rfl, Below.refl _ _⟩
end Go.Proofs.Ytecehldjeppjiaa.LawPathParts
