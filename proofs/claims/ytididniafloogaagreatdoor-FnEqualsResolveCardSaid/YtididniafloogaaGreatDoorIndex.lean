/- zzIndex of package tree: its contract -/
import Derived.Test.YtididniafloogaaGreatDoorKit
namespace Go.Proofs.YtididniafloogaaGreatDoor.Index
open Go.RowKit Go.Proofs.YtididniafloogaaGreatDoorW.PrintWords Go.Proofs.YtididniafloogaaGreatDoor.Str Go.Proofs.YtididniafloogaaGreatDoor.Kit
set_option linter.unusedVariables false
set_option linter.unusedSimpArgs false

set_option maxHeartbeats 400000 in
theorem tree_zzIndex (s sub : ByteArray) (w : World) (hs : s.size ≤ 281474976710656) (hb : sub.size ≤ 281474976710656) :
    Calls Tryz.prog 110 #[.string s, .string sub] w fun e w' => e = .returned (.int .i64 (findI (lb sub) (lb s))) ∧ Drawn0 w w' := by
  go_enter Tryz.func110, Tryz.ntmps110
  go_wp2
  go_loopw [5] (fun v5 wr => ∃ j : Nat, v5 = .int .i64 j ∧ j ≤ s.size ∧ Aside0 (At (lb sub) (lb s) j) ∧ Drawn0 w wr) (fun v5 _ => s.size + 1 - (intOf v5).toNat)
  case atStart => exact ⟨0, rfl, by omega, ⟨At.start _ _⟩, Drawn0.refl _⟩
  case round =>
    obtain ⟨j, rfl, hj, HA, HD⟩ := hrel
    by_cases hlt : (j : Int) + (sub.size : Int) ≤ (s.size : Int)
    · have hm : j + sub.size ≤ s.size := by omega
      have q1 : (j : Int) ≤ (j : Int) + (sub.size : Int) := by omega
      have q0 : (0 : Int) ≤ (j : Int) := by omega
      by_cases e : (s.extract j (j + sub.size)).toList = sub.toList
      · have e1 : ((s.extract j (j + sub.size)).toList == sub.toList) = true := beq_iff_eq.mpr e
        have hit := HA.out.hit (by rw [lb_length, lb_length]; exact hm) (by rw [lb_length, ← lb_piece, ← toList_lb, ← toList_lb]; exact e)
        have Hit := Aside0.mk hit
        clear e hit
        go_wp2
        go_ret
        exact ⟨by rw [Hit.out]; rfl, by repeat (first | exact HD | apply Drawn0.step)⟩
      · have e1 : ((s.extract j (j + sub.size)).toList == sub.toList) = false := beq_eq_false_iff_ne.mpr e
        have nxt := HA.out.next (by rw [lb_length, lb_length]; exact hm) (by rw [lb_length, ← lb_piece, ← toList_lb, ← toList_lb]; exact e)
        have hj1 : j + 1 ≤ s.size := by have := nxt.1; rw [lb_length] at this; exact this
        have Nxt := Aside0.mk nxt
        clear e nxt
        go_wp2
        go_roundw
        case rel => exact ⟨j + 1, by go_num, by omega, Nxt, by repeat (first | exact HD | apply Drawn0.step)⟩
        case measure => simp [intOf]; omega
    · have miss := HA.out.miss (by rw [lb_length, lb_length]; omega)
      have Miss := Aside0.mk miss
      have d : decide ((j : Int) + (sub.size : Int) ≤ (s.size : Int)) = false := decide_eq_false hlt
      clear miss hlt
      go_wp2
      go_ret
      exact ⟨by rw [Miss.out]; rfl, by repeat (first | exact HD | apply Drawn0.step)⟩
end Go.Proofs.YtididniafloogaaGreatDoor.Index
namespace Go.Proofs.YtididniafloogaaGreatDoor.Index
open Go.RowKit Go.Proofs.YtididniafloogaaGreatDoorW.PrintWords Go.Proofs.YtididniafloogaaGreatDoor.Str Go.Proofs.YtididniafloogaaGreatDoor.Kit
set_option linter.unusedVariables false
set_option linter.unusedSimpArgs false
/-- parts of a string, as strings -/
def parts (c : UInt8) (s : ByteArray) : List ByteArray := (split c (lb s)).map fun p => ⟨p.toArray⟩
/-- out has been cut off, r is left -/
def Cutting (c : UInt8) (s : ByteArray) (out : List ByteArray) (r : ByteArray) : Prop := parts c s = out ++ parts c r ∧ out.length + r.size ≤ s.size
theorem Cutting.start (c : UInt8) (s : ByteArray) : Cutting c s [] s := ⟨rfl, by simp⟩
theorem Cutting.next {c : UInt8} {s r : ByteArray} {out : List ByteArray} {i : Nat} (h : Cutting c s out r) (hf : find [c] (lb r) = some i) (hi : i + 1 ≤ r.size) :
    Cutting c s (out ++ [r.extract 0 i]) (r.extract (i + 1) r.size) := by
  obtain ⟨h1, h2⟩ := h
  have e : parts c r = r.extract 0 i :: parts c (r.extract (i + 1) r.size) := by
    unfold parts
    rw [split_some hf, List.map_cons]
    congr 1
    · apply lb_inj
      rw [lb_mk, lb_extract, List.drop_zero]
    · rw [lb_extract]
      congr 2
      rw [← lb_length, List.take_length]
  refine ⟨by rw [h1, e]; simp, ?_⟩
  rw [ByteArray.size_extract, List.length_append, List.length_singleton]
  omega
theorem Cutting.last {c : UInt8} {s r : ByteArray} {out : List ByteArray} (h : Cutting c s out r) (hf : find [c] (lb r) = none) : parts c s = out ++ [r] := by
  rw [h.1]
  congr 1
  unfold parts
  rw [split_none hf, List.map_cons, List.map_nil, mk_lb]

set_option maxHeartbeats 400000 in
theorem tree_zzSplit (s : ByteArray) (c : UInt8) (w : World) (hs : s.size ≤ 4398046511104) :
    Calls Tryz.prog 89 #[.string s, .string ⟨#[c]⟩] w fun e w' => ∃ v, e = .returned v ∧ Kd.R Kd.string 9 w' w.heap.size (fun _ => True) v (parts c s) ∧ Below w.heap.size w w' := by
  have HB := Aside0.mk (Below.refl w.heap.size w)
  go_enter Tryz.func89, Tryz.ntmps89
  go_wp2
  go_loopw [0, 5, 8] (fun v0 v5 v8 wr => ∃ (r : ByteArray) (out : List ByteArray), v0 = .string r ∧ r.size ≤ 4398046511104 ∧ Aside0 (Cutting c s out r) ∧ Aside0 (Kd.R Kd.string 9 wr w.heap.size (fun _ => True) v5 out) ∧ Aside0 (Below w.heap.size w wr)) (fun v0 _ _ _ => match v0 with | .string r => r.size | _ => 0)
  case atStart => exact ⟨s, [], rfl, hs, ⟨Cutting.start c s⟩, ⟨Kd.R_nil _ _ _ _ _⟩, HB⟩
  case round =>
    clear HB
    obtain ⟨r, out, rfl, hr, HCut, HO, HB⟩ := hrel
    cases hf : find [c] (lb r) with
    | none =>
      have Hf := Aside0.mk hf
      have hfi : findI [c] (lb r) = -1 := by rw [findI, hf]
      have Hfi := Aside0.mk hfi
      clear hf hfi
      go_wp2_with fail
      refine (tree_zzIndex r ⟨#[c]⟩ _ (by omega) (by show 1 ≤ _; omega)).mono ?_
      rintro e w1 ⟨rfl, hd⟩
      rw [show lb ⟨#[c]⟩ = [c] from rfl, Hfi.out]
      have HB1 := Aside0.mk (hb_then HB.out hd.below)
      have HO1 := Aside0.mk (Kd.R_below HO.out hd.below)
      have hl : out.length < 8796093022207 := by have := HCut.out.2; omega
      clear hd HB HO
      go_wp2_with (at_builtin; refine append_str _ _ rfl rfl rfl rfl HO1.out HB1.out hl ?_; intro v1 w2 ho hb hg)
      go_ret
      exact ⟨_, rfl, by rw [HCut.out.last Hf.out]; exact ho, hb⟩
    | some i =>
      have hfi : findI [c] (lb r) = i := by rw [findI, hf]
      have hi := (find_some hf).1
      rw [lb_length] at hi
      have hi2 : i + 1 ≤ r.size := hi
      have hcut := HCut.out.next hf hi2
      have hcs := hcut.2
      rw [List.length_append, List.length_singleton] at hcs
      have HCut2 := Aside0.mk hcut
      have Hfi := Aside0.mk hfi
      have hl : out.length < 8796093022207 := by omega
      clear hf hfi hcut hi hcs
      go_wp2_with fail
      refine (tree_zzIndex r ⟨#[c]⟩ _ (by omega) (by show 1 ≤ _; omega)).mono ?_
      rintro e w1 ⟨rfl, hd⟩
      rw [show lb ⟨#[c]⟩ = [c] from rfl, Hfi.out]
      have HB1 := Aside0.mk (hb_then HB.out hd.below)
      have HO1 := Aside0.mk (Kd.R_below HO.out hd.below)
      clear hd HB HO
      have q0 : (0 : Int) ≤ (i : Int) := by omega
      have q1 : (i : Int) ≤ (r.size : Int) := by omega
      have q2 : ((i : Int) + 1) ≤ (r.size : Int) := by omega
      go_wp2_with (at_builtin; refine append_str _ _ rfl rfl rfl rfl HO1.out HB1.out hl ?_; intro v1 w2 ho hb hg; have HO2 := Aside0.mk ho; have HB2 := Aside0.mk hb; clear ho hb hg)
      go_roundw
      case rel => exact ⟨_, _, rfl, by rw [ByteArray.size_extract]; omega, HCut2, HO2, HB2⟩
      case measure => simp; omega
end Go.Proofs.YtididniafloogaaGreatDoor.Index
