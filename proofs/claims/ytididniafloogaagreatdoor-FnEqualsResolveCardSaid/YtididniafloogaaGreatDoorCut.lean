/- zzCut of a package: a text cut at the first place of one byte. -/
import Derived.Test.YtididniafloogaaGreatDoorIndex
namespace Go.Proofs.YtididniafloogaaGreatDoor.Index
open Go.RowKit Go.Proofs.YtididniafloogaaGreatDoorW.PrintWords Go.Proofs.YtididniafloogaaGreatDoor.Str Go.Proofs.YtididniafloogaaGreatDoor.Kit
set_option linter.unusedVariables false
set_option linter.unusedSimpArgs false
abbrev BA := ByteArray
/-- ahead of the first c, behind it; found? -/
def cutB (c : UInt8) (s : BA) : BA × BA × Bool := match find [c] (lb s) with
  | some i => (s.extract 0 i, s.extract (i + 1) s.size, true)
  | none => (s, ⟨#[]⟩, false)
set_option maxHeartbeats 800000 in
theorem zzCut (s : BA) (c : UInt8) (w : World) (hs : s.size ≤ 281474976710656) :
    Calls Tryz.prog 88 #[.string s, .string ⟨#[c]⟩] w fun e w' => e = .returned (.tuple #[.string (cutB c s).1, .string (cutB c s).2.1, .bool (cutB c s).2.2]) ∧ Drawn0 w w' := by
  have CI := Aside0.mk (tree_zzIndex s ⟨#[c]⟩ w hs (by show 1 ≤ _; omega))
  unfold cutB
  cases hf : find [c] (lb s) with
  | none =>
    have hfi : findI (lb ⟨#[c]⟩) (lb s) = -1 := by
      show findI [c] (lb s) = -1
      unfold findI; rw [hf]
    rw [hfi] at CI
    clear hf hfi
    go_enter Tryz.func88, Tryz.ntmps88
    go_wp2_with (refine CI.out.mono ?_; rintro e w1 ⟨rfl, hd⟩; have HD := Aside0.mk hd; clear hd)
    go_ret3
    exact ⟨rfl, HD.out⟩
  | some i =>
    have hfi : findI (lb ⟨#[c]⟩) (lb s) = (i : Int) := by
      show findI [c] (lb s) = _
      unfold findI; rw [hf]
    rw [hfi] at CI
    have hlt : i + 1 ≤ s.size := by
      have := (find_some hf).1
      rw [lb_length] at this
      exact this
    clear hf hfi
    have q0 : (0 : Int) ≤ (i : Int) := by omega
    have q1 : (i : Int) ≤ (s.size : Int) := by omega
    have q2 : (i : Int) + 1 ≤ (s.size : Int) := by omega
    go_enter Tryz.func88, Tryz.ntmps88
    go_wp2_with (refine CI.out.mono ?_; rintro e w1 ⟨rfl, hd⟩; have HD := Aside0.mk hd; clear hd)
    go_quiet (fail)
    go_wp2
    go_ret3
    exact ⟨rfl, HD.out.step nq⟩
end Go.Proofs.YtididniafloogaaGreatDoor.Index
