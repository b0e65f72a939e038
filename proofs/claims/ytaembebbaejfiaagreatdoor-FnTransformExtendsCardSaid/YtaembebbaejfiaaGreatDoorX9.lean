/- Parts of the proof, laid together: QSpecSayNet, QSpecSayNets, PureNets, QSpecSayWord, QSpecPartWord, GivesT, PartIs, LawExt, RowKit, DTabsZ. -/
import Derived.Test.YtaembebbaejfiaaGreatDoorX3
import Derived.Test.YtaembebbaejfiaaGreatDoorX4
import Derived.Test.YtaembebbaejfiaaGreatDoorX8
import Derived.Test.YtaembebbaejfiaaGreatDoorX7
import Derived.Test.YtaembebbaejfiaaGreatDoorX5
import Derived.Test.YtaembebbaejfiaaGreatDoorRows
import Derived.ProofKit
import Derived.OpenShut
import Derived.ShutString
import Derived.ChangeOld
import Derived.Below
import Derived.SizedLaws
import Derived.SliceStrings
import Derived.Test.YtaembebbaejfiaaGreatDoorCards
import Derived.PinnedBridge
namespace Go.Proofs.YtaembebbaejfiaaGreatDoor.PS
open Go.RowKit Go.Proofs.YtaembebbaejfiaaGreatDoorW.PrintWords Go.Proofs.YtaembebbaejfiaaGreatDoorW.PrintLast Go.Proofs.YtaembebbaejfiaaGreatDoorW.PrintMore
attribute [local go_sem] max2_int min2_int max_two min_two max_three min_three max_four min_four 
set_option linter.unusedVariables false
set_option linter.unusedSimpArgs false
end Go.Proofs.YtaembebbaejfiaaGreatDoor.PS
namespace Go.Proofs.YtaembebbaejfiaaGreatDoor.PS
open Go.RowKit Go.Proofs.YtaembebbaejfiaaGreatDoorW.PrintWords Go.Proofs.YtaembebbaejfiaaGreatDoorW.PrintLast Go.Proofs.YtaembebbaejfiaaGreatDoorW.PrintMore
attribute [local go_sem] max2_int min2_int max_two min_two max_three min_three max_four min_four 
set_option linter.unusedVariables false
set_option linter.unusedSimpArgs false
end Go.Proofs.YtaembebbaejfiaaGreatDoor.PS
namespace Go.Proofs.YtaembebbaejfiaaGreatDoor.Tr
open Go.RowKit Go.Proofs.YtaembebbaejfiaaGreatDoorW.PrintWords Go.Proofs.YtaembebbaejfiaaGreatDoorW.PrintLast Go.Proofs.YtaembebbaejfiaaGreatDoor.Str Go.Proofs.YtaembebbaejfiaaGreatDoor.Kit Go.Proofs.YtaembebbaejfiaaGreatDoor.MapV Go.Proofs.YtaembebbaejfiaaGreatDoor.Frame Go.Proofs.YtaembebbaejfiaaGreatDoor.PS
open Go.Proofs.YtaembebbaejfiaaGreatDoor.Val (place placeI placeB placeI_hit placeI_end)
set_option linter.unusedVariables false
set_option linter.unusedSimpArgs false
end Go.Proofs.YtaembebbaejfiaaGreatDoor.Tr
namespace Go.Proofs.YtaembebbaejfiaaGreatDoor.PS
open Go.RowKit Go.Proofs.YtaembebbaejfiaaGreatDoorW.PrintWords Go.Proofs.YtaembebbaejfiaaGreatDoorW.PrintLast Go.Proofs.YtaembebbaejfiaaGreatDoorW.PrintMore
attribute [local go_sem] max2_int min2_int max_two min_two max_three min_three max_four min_four 
set_option linter.unusedVariables false
set_option linter.unusedSimpArgs false
theorem sayWordisE_ (l : List UInt8) : l.isEmpty = (l == []) := by cases l <;> rfl
theorem nsayWordisE_ (l : List UInt8) : (!l.isEmpty) = (l != []) := by cases l <;> rfl
def spec_sayWord.l0 : Nat → ByteArray → Int → Option (Bool)
 | 0, _, _ => none
 | k + 1, x0, x3 => if x3 < (x0.size : Int) then (if 0 ≤ x3 then (if (bt x0 x3) < 33 then (some false) else (if (bt x0 x3) > 126 then (some false) else ((spec_sayIn.f k (strOfNums (([bt x0 x3] : List Int))) (([(⟨#[61]⟩ : ByteArray), (⟨#[36]⟩ : ByteArray), (⟨#[58]⟩ : ByteArray), (⟨#[34]⟩ : ByteArray), (⟨#[39]⟩ : ByteArray), (⟨#[92]⟩ : ByteArray), (⟨#[126]⟩ : ByteArray)] : List ByteArray))).bind fun t216 => (if t216 = true then (some false) else (spec_sayWord.l0 k x0 (wrap64 (x3 + 1))))))) else (none)) else (some (x0.toList != ([] : List UInt8)))
def spec_sayWord.f (k : Nat) (a0 : ByteArray) : Option (Bool) := spec_sayWord.l0 k a0 0
set_option maxHeartbeats 8000000 in
set_option maxRecDepth 100000 in
theorem spec_sayWord.calls (k : Nat) (a0 : ByteArray) (r : Bool) (w : World) (h : spec_sayWord.f k a0 = some r) :
  Calls Tryz.prog 28 #[.string a0] w fun e w' => e = .returned (.bool r) ∧ Below w.heap.size w w' := by
 have HB := aM (Below.refl w.heap.size w)
 have H : (spec_sayWord.l0 k a0 0) = some r := h
 clear h
 have H' := aM H
 clear H
 go_enter Tryz.func28, Tryz.ntmps28
 go_wp2
 go_loopg [3] k (fun kq v3 w' => ∃ (x3_1 : Int), v3 = .int .i64 x3_1 ∧ Aside0 (spec_sayWord.l0 kq a0 x3_1 = some r) ∧ Aside0 (kq ≤ k) ∧ Aside0 (Below w.heap.size w w'))
 case atStart => exact ⟨(0), (by first | rfl | (simp; done) | (simp [*]; done)), H', ⟨Nat.le_refl _⟩, ⟨by repeat (first | (with_reducible first | exact HB.out | apply below_alloc | apply pw_below_drewN | apply below_drew1) | exact HB.out)⟩⟩
 case round =>
  clear H'
  obtain ⟨x3_1, rfl, HA, HK1, HB⟩ := hrel
  cases gk with
  | zero => exact absurd HA.out (by simp [spec_sayWord.l0])
  | succ k1 =>
   have H := HA.out
   clear HA
   simp only [spec_sayWord.l0] at H
   by_cases c2 : x3_1 < (a0.size : Int)
   ·rw [if_pos c2] at H
    have c2b0 : decide (x3_1 < (a0.size : Int)) = true := decide_eq_true c2
    clear c2
    by_cases c3 : 0 ≤ x3_1
    ·rw [if_pos c3] at H
     have c3b0 : decide (0 ≤ x3_1) = true := decide_eq_true c3
     clear c3
     by_cases c5 : (bt a0 x3_1) < 33
     ·rw [if_pos c5] at H
      have c5b0 : decide ((bt a0 x3_1) < 33) = true := decide_eq_true c5
      clear c5
      obtain rfl := Option.some.inj H
      have p4 : 0 ≤ (x3_1 : Int) := of_decide_eq_true (by first | (with_reducible assumption) | assumption)
      have q4 : x3_1 < (a0.size : Int) := of_decide_eq_true (by first | (with_reducible assumption) | assumption)
      have hx4 := bt_at a0 x3_1
      replace p4 := eq_true p4
      replace q4 := eq_true q4
      go_wp2
      go_ret
      exact ⟨by first | rfl | (simp [errW_none, errW_some] <;> rfl) | (simp [*, errW_none, errW_some] <;> rfl) | (refine congrArg (fun b_ => Ending.returned (.bool b_)) ?_; exact sayWordisE_ _) | (refine congrArg (fun b_ => Ending.returned (.bool b_)) ?_; exact nsayWordisE_ _), by repeat (first | (with_reducible first | exact HB.out | apply below_alloc | apply pw_below_drewN | apply below_drew1) | exact HB.out)⟩
     ·rw [if_neg c5] at H
      have c5b0 : decide ((bt a0 x3_1) < 33) = false := decide_eq_false c5
      clear c5
      by_cases c6 : (bt a0 x3_1) > 126
      ·rw [if_pos c6] at H
       have c6b0 : decide (126 < (bt a0 x3_1)) = true := decide_eq_true c6
       clear c6
       obtain rfl := Option.some.inj H
       have p4 : 0 ≤ (x3_1 : Int) := of_decide_eq_true (by first | (with_reducible assumption) | assumption)
       have q4 : x3_1 < (a0.size : Int) := of_decide_eq_true (by first | (with_reducible assumption) | assumption)
       have hx4 := bt_at a0 x3_1
       replace p4 := eq_true p4
       replace q4 := eq_true q4
       go_wp2
       go_ret
       exact ⟨by first | rfl | (simp [errW_none, errW_some] <;> rfl) | (simp [*, errW_none, errW_some] <;> rfl) | (refine congrArg (fun b_ => Ending.returned (.bool b_)) ?_; exact sayWordisE_ _) | (refine congrArg (fun b_ => Ending.returned (.bool b_)) ?_; exact nsayWordisE_ _), by repeat (first | (with_reducible first | exact HB.out | apply below_alloc | apply pw_below_drewN | apply below_drew1) | exact HB.out)⟩
      ·rw [if_neg c6] at H
       have c6b0 : decide (126 < (bt a0 x3_1)) = false := decide_eq_false c6
       clear c6
       obtain ⟨y210, hy210⟩ : ∃ y_ : List Int, y_ = (([bt a0 x3_1] : List Int)) := ⟨_, rfl⟩
       replace H : ((spec_sayIn.f k1 (strOfNums y210) (([(⟨#[61]⟩ : ByteArray), (⟨#[36]⟩ : ByteArray), (⟨#[58]⟩ : ByteArray), (⟨#[34]⟩ : ByteArray), (⟨#[39]⟩ : ByteArray), (⟨#[92]⟩ : ByteArray), (⟨#[126]⟩ : ByteArray)] : List ByteArray))).bind fun t216 => (if t216 = true then (some false) else (spec_sayWord.l0 k1 a0 (wrap64 (x3_1 + 1))))) = some r := by first | (rw [hy210]; with_reducible exact H) | (have H2_ := (Option.bind_some _ _).symm.trans H; rw [hy210]; with_reducible exact H2_) | (have H2_ := (Option.bind_some _ _).symm.trans H; with_reducible exact H2_) | with_reducible exact H | (rw [hy210]; exact H) | exact H
       have Ny210 := aM hy210
       clear hy210
       obtain ⟨y213, hy213⟩ : ∃ y_ : List ByteArray, y_ = (([(⟨#[61]⟩ : ByteArray), (⟨#[36]⟩ : ByteArray), (⟨#[58]⟩ : ByteArray), (⟨#[34]⟩ : ByteArray), (⟨#[39]⟩ : ByteArray), (⟨#[92]⟩ : ByteArray), (⟨#[126]⟩ : ByteArray)] : List ByteArray)) := ⟨_, rfl⟩
       replace H : ((spec_sayIn.f k1 (strOfNums y210) y213).bind fun t216 => (if t216 = true then (some false) else (spec_sayWord.l0 k1 a0 (wrap64 (x3_1 + 1))))) = some r := by first | (rw [hy213]; with_reducible exact H) | (have H2_ := (Option.bind_some _ _).symm.trans H; rw [hy213]; with_reducible exact H2_) | (have H2_ := (Option.bind_some _ _).symm.trans H; with_reducible exact H2_) | with_reducible exact H | (rw [hy213]; exact H) | exact H
       have Ny213 := aM hy213
       clear hy213
       replace H := Option.bind_eq_some_iff.mp H
       obtain ⟨t216, A70, H⟩ := H
       replace H : (if t216 = true then (some false) else (spec_sayWord.l0 k1 a0 (wrap64 (x3_1 + 1)))) = some r := H
       have A7 := aM A70
       clear A70
       by_cases c8 : t216 = true
       ·subst c8
        have H1 : (some false) = some r := by rw [if_pos rfl] at H; exact H
        clear H
        have H := H1
        clear H1
        obtain rfl := Option.some.inj H
        have p4 : 0 ≤ (x3_1 : Int) := of_decide_eq_true (by first | (with_reducible assumption) | assumption)
        have q4 : x3_1 < (a0.size : Int) := of_decide_eq_true (by first | (with_reducible assumption) | assumption)
        have hx4 := bt_at a0 x3_1
        replace p4 := eq_true p4
        replace q4 := eq_true q4
        go_wp2_with (first | ((with_reducible refine gate_dst (N := 22) rfl ?_); (try (refine gate_guard (by rfl) ?_; dsimp only)); refine Kd.R_lit (Kd.int .u8) _ 5 ?hg (N := 22) ?hd (xs := ([bt a0 x3_1] : List Int)) (inner := [.int .u8 (bt a0 x3_1)]) (ok := fun _ => True) (okp := fun _ => True) ?hr ?hp (fun _ hk => hk) trivial (Below.refl _ _) (Nat.le_refl _) (by simp) ?_; (case hd => rfl); (case hg => rfl); (case hr => first | (go_simp; done) | (go_simp; rfl)); (case hp => exact (Reps.one (show Kd.M (Kd.int .u8) _ _ _ (bt a0 x3_1) [.int .u8 (bt a0 x3_1)] from rfl) (Reps.none _ _))); intro v211 w9 ho10 hb hg_ hnew_; clear hg_ hnew_; (first | rw [← Ny210.out] at ho10 | (simp only [Int.reduceToNat] at ho10; rw [← Ny210.out] at ho10)); have n0_ := aM (Kd.R_lower ho10 (below_size (by repeat (first | (with_reducible first | exact HB.out | apply below_alloc | apply pw_below_drewN | apply below_drew1) | exact HB.out)))); have n1_ := aM (below_step (by repeat (first | (with_reducible first | exact HB.out | apply below_alloc | apply pw_below_drewN | apply below_drew1) | exact HB.out)) hb); clear HB; have HO212 := n0_; have HB := n1_; clear n0_ n1_; clear hb ho10; have hcv11 := own_string (P := Tryz.prog) Tryz.underlying67 Tryz.underlying5 Tryz.underlying9 (Kd.own_of_R HO212.out)) | ((with_reducible refine gate_dst (N := 24) rfl ?_); (try (refine gate_guard (by rfl) ?_; dsimp only)); refine Kd.R_lit Kd.string _ 9 ?hg (N := 24) ?hd (xs := ([(⟨#[61]⟩ : ByteArray), (⟨#[36]⟩ : ByteArray), (⟨#[58]⟩ : ByteArray), (⟨#[34]⟩ : ByteArray), (⟨#[39]⟩ : ByteArray), (⟨#[92]⟩ : ByteArray), (⟨#[126]⟩ : ByteArray)] : List ByteArray)) (inner := [.string (⟨#[61]⟩ : ByteArray), .string (⟨#[36]⟩ : ByteArray), .string (⟨#[58]⟩ : ByteArray), .string (⟨#[34]⟩ : ByteArray), .string (⟨#[39]⟩ : ByteArray), .string (⟨#[92]⟩ : ByteArray), .string (⟨#[126]⟩ : ByteArray)]) (ok := fun _ => True) (okp := fun _ => True) ?hr ?hp (fun _ hk => hk) trivial (Below.refl _ _) (Nat.le_refl _) (by simp) ?_; (case hd => rfl); (case hg => rfl); (case hr => first | (go_simp; done) | (go_simp; rfl)); (case hp => exact (Reps.one (show Kd.M Kd.string _ _ _ (⟨#[61]⟩ : ByteArray) [.string (⟨#[61]⟩ : ByteArray)] from rfl) (Reps.one (show Kd.M Kd.string _ _ _ (⟨#[36]⟩ : ByteArray) [.string (⟨#[36]⟩ : ByteArray)] from rfl) (Reps.one (show Kd.M Kd.string _ _ _ (⟨#[58]⟩ : ByteArray) [.string (⟨#[58]⟩ : ByteArray)] from rfl) (Reps.one (show Kd.M Kd.string _ _ _ (⟨#[34]⟩ : ByteArray) [.string (⟨#[34]⟩ : ByteArray)] from rfl) (Reps.one (show Kd.M Kd.string _ _ _ (⟨#[39]⟩ : ByteArray) [.string (⟨#[39]⟩ : ByteArray)] from rfl) (Reps.one (show Kd.M Kd.string _ _ _ (⟨#[92]⟩ : ByteArray) [.string (⟨#[92]⟩ : ByteArray)] from rfl) (Reps.one (show Kd.M Kd.string _ _ _ (⟨#[126]⟩ : ByteArray) [.string (⟨#[126]⟩ : ByteArray)] from rfl) (Reps.none _ _))))))))); intro v214 w12 ho13 hb hg_ hnew_; clear hg_ hnew_; (first | rw [← Ny213.out] at ho13 | (simp only [Int.reduceToNat] at ho13; rw [← Ny213.out] at ho13)); have n0_ := aM (Kd.R_below (by (with_reducible repeat (first | apply Kd.R_alloc | apply Kd.R_drewN | apply Kd.R_drew)); exact HO212.out) hb); have n1_ := aM (Kd.R_lower ho13 (below_size (by repeat (first | (with_reducible first | exact HB.out | apply below_alloc | apply pw_below_drewN | apply below_drew1) | exact HB.out)))); have n2_ := aM (below_step (by repeat (first | (with_reducible first | exact HB.out | apply below_alloc | apply pw_below_drewN | apply below_drew1) | exact HB.out)) hb); clear HO212; clear HB; have HO212 := n0_; have HO215 := n1_; have HB := n2_; clear n0_ n1_ n2_; clear hb ho13; obtain ⟨Ao14, co14, eo14⟩ := Kd.R_slice HO215.out; subst eo14) | (go_at_call 31; (with_reducible refine (spec_sayIn.calls k1 (strOfNums y210) _ _ y213 true _ ?side1 ?side2 A7.out).mono ?_); (case side1 => repeat (first | exact (Kd.R_reads' HO215.out).2.2 | (with_reducible refine Kd.C_alloc ?_ _) | (with_reducible refine Kd.C_drewN ?_ _) | (with_reducible refine Kd.C_drew ?_))); (case side2 => exact (Kd.R_reads' HO215.out).2.1); rintro e w' ⟨rfl, ⟨nd, rfl⟩⟩))
        go_ret
        exact ⟨by first | rfl | (simp [errW_none, errW_some] <;> rfl) | (simp [*, errW_none, errW_some] <;> rfl) | (refine congrArg (fun b_ => Ending.returned (.bool b_)) ?_; exact sayWordisE_ _) | (refine congrArg (fun b_ => Ending.returned (.bool b_)) ?_; exact nsayWordisE_ _), by repeat (first | (with_reducible first | exact HB.out | apply below_alloc | apply pw_below_drewN | apply below_drew1) | exact HB.out)⟩
       ·replace c8 := Bool.eq_false_iff.mpr c8
        subst c8
        have H1 : (spec_sayWord.l0 k1 a0 (wrap64 (x3_1 + 1))) = some r := by rw [if_neg (show ¬ (false = true) by decide)] at H; exact H
        clear H
        have H := H1
        clear H1
        have H' := aM H
        clear H
        have p4 : 0 ≤ (x3_1 : Int) := of_decide_eq_true (by first | (with_reducible assumption) | assumption)
        have q4 : x3_1 < (a0.size : Int) := of_decide_eq_true (by first | (with_reducible assumption) | assumption)
        have hx4 := bt_at a0 x3_1
        replace p4 := eq_true p4
        replace q4 := eq_true q4
        go_wp2_with (first | ((with_reducible refine gate_dst (N := 22) rfl ?_); (try (refine gate_guard (by rfl) ?_; dsimp only)); refine Kd.R_lit (Kd.int .u8) _ 5 ?hg (N := 22) ?hd (xs := ([bt a0 x3_1] : List Int)) (inner := [.int .u8 (bt a0 x3_1)]) (ok := fun _ => True) (okp := fun _ => True) ?hr ?hp (fun _ hk => hk) trivial (Below.refl _ _) (Nat.le_refl _) (by simp) ?_; (case hd => rfl); (case hg => rfl); (case hr => first | (go_simp; done) | (go_simp; rfl)); (case hp => exact (Reps.one (show Kd.M (Kd.int .u8) _ _ _ (bt a0 x3_1) [.int .u8 (bt a0 x3_1)] from rfl) (Reps.none _ _))); intro v211 w15 ho16 hb hg_ hnew_; clear hg_ hnew_; (first | rw [← Ny210.out] at ho16 | (simp only [Int.reduceToNat] at ho16; rw [← Ny210.out] at ho16)); have n0_ := aM (Kd.R_lower ho16 (below_size (by repeat (first | (with_reducible first | exact HB.out | apply below_alloc | apply pw_below_drewN | apply below_drew1) | exact HB.out)))); have n1_ := aM (below_step (by repeat (first | (with_reducible first | exact HB.out | apply below_alloc | apply pw_below_drewN | apply below_drew1) | exact HB.out)) hb); clear HB; have HO212 := n0_; have HB := n1_; clear n0_ n1_; clear hb ho16; have hcv17 := own_string (P := Tryz.prog) Tryz.underlying67 Tryz.underlying5 Tryz.underlying9 (Kd.own_of_R HO212.out)) | ((with_reducible refine gate_dst (N := 24) rfl ?_); (try (refine gate_guard (by rfl) ?_; dsimp only)); refine Kd.R_lit Kd.string _ 9 ?hg (N := 24) ?hd (xs := ([(⟨#[61]⟩ : ByteArray), (⟨#[36]⟩ : ByteArray), (⟨#[58]⟩ : ByteArray), (⟨#[34]⟩ : ByteArray), (⟨#[39]⟩ : ByteArray), (⟨#[92]⟩ : ByteArray), (⟨#[126]⟩ : ByteArray)] : List ByteArray)) (inner := [.string (⟨#[61]⟩ : ByteArray), .string (⟨#[36]⟩ : ByteArray), .string (⟨#[58]⟩ : ByteArray), .string (⟨#[34]⟩ : ByteArray), .string (⟨#[39]⟩ : ByteArray), .string (⟨#[92]⟩ : ByteArray), .string (⟨#[126]⟩ : ByteArray)]) (ok := fun _ => True) (okp := fun _ => True) ?hr ?hp (fun _ hk => hk) trivial (Below.refl _ _) (Nat.le_refl _) (by simp) ?_; (case hd => rfl); (case hg => rfl); (case hr => first | (go_simp; done) | (go_simp; rfl)); (case hp => exact (Reps.one (show Kd.M Kd.string _ _ _ (⟨#[61]⟩ : ByteArray) [.string (⟨#[61]⟩ : ByteArray)] from rfl) (Reps.one (show Kd.M Kd.string _ _ _ (⟨#[36]⟩ : ByteArray) [.string (⟨#[36]⟩ : ByteArray)] from rfl) (Reps.one (show Kd.M Kd.string _ _ _ (⟨#[58]⟩ : ByteArray) [.string (⟨#[58]⟩ : ByteArray)] from rfl) (Reps.one (show Kd.M Kd.string _ _ _ (⟨#[34]⟩ : ByteArray) [.string (⟨#[34]⟩ : ByteArray)] from rfl) (Reps.one (show Kd.M Kd.string _ _ _ (⟨#[39]⟩ : ByteArray) [.string (⟨#[39]⟩ : ByteArray)] from rfl) (Reps.one (show Kd.M Kd.string _ _ _ (⟨#[92]⟩ : ByteArray) [.string (⟨#[92]⟩ : ByteArray)] from rfl) (Reps.one (show Kd.M Kd.string _ _ _ (⟨#[126]⟩ : ByteArray) [.string (⟨#[126]⟩ : ByteArray)] from rfl) (Reps.none _ _))))))))); intro v214 w18 ho19 hb hg_ hnew_; clear hg_ hnew_; (first | rw [← Ny213.out] at ho19 | (simp only [Int.reduceToNat] at ho19; rw [← Ny213.out] at ho19)); have n0_ := aM (Kd.R_below (by (with_reducible repeat (first | apply Kd.R_alloc | apply Kd.R_drewN | apply Kd.R_drew)); exact HO212.out) hb); have n1_ := aM (Kd.R_lower ho19 (below_size (by repeat (first | (with_reducible first | exact HB.out | apply below_alloc | apply pw_below_drewN | apply below_drew1) | exact HB.out)))); have n2_ := aM (below_step (by repeat (first | (with_reducible first | exact HB.out | apply below_alloc | apply pw_below_drewN | apply below_drew1) | exact HB.out)) hb); clear HO212; clear HB; have HO212 := n0_; have HO215 := n1_; have HB := n2_; clear n0_ n1_ n2_; clear hb ho19; obtain ⟨Ao20, co20, eo20⟩ := Kd.R_slice HO215.out; subst eo20) | (go_at_call 31; (with_reducible refine (spec_sayIn.calls k1 (strOfNums y210) _ _ y213 false _ ?side1 ?side2 A7.out).mono ?_); (case side1 => repeat (first | exact (Kd.R_reads' HO215.out).2.2 | (with_reducible refine Kd.C_alloc ?_ _) | (with_reducible refine Kd.C_drewN ?_ _) | (with_reducible refine Kd.C_drew ?_))); (case side2 => exact (Kd.R_reads' HO215.out).2.1); rintro e w' ⟨rfl, ⟨nd, rfl⟩⟩))
        go_roundg k1
        case measure => have := HK1.out; omega
        case rel => exact ⟨(wrap64 (x3_1 + 1)), (by first | rfl | (simp; done) | (simp [*]; done)), H', ⟨by have := HK1.out; omega⟩, ⟨by repeat (first | (with_reducible first | exact HB.out | apply below_alloc | apply pw_below_drewN | apply below_drew1) | exact HB.out)⟩⟩
    ·rw [if_neg c3] at H
     exact absurd H (by simp)
   ·rw [if_neg c2] at H
    have c2b0 : decide (x3_1 < (a0.size : Int)) = false := decide_eq_false c2
    clear c2
    obtain rfl := Option.some.inj H
    go_wp2
    go_ret
    exact ⟨by first | rfl | (simp [errW_none, errW_some] <;> rfl) | (simp [*, errW_none, errW_some] <;> rfl) | (refine congrArg (fun b_ => Ending.returned (.bool b_)) ?_; exact sayWordisE_ _) | (refine congrArg (fun b_ => Ending.returned (.bool b_)) ?_; exact nsayWordisE_ _), by repeat (first | (with_reducible first | exact HB.out | apply below_alloc | apply pw_below_drewN | apply below_drew1) | exact HB.out)⟩
end Go.Proofs.YtaembebbaejfiaaGreatDoor.PS
namespace Go.Proofs.YtaembebbaejfiaaGreatDoor.PS
open Go.RowKit Go.Proofs.YtaembebbaejfiaaGreatDoorW.PrintWords Go.Proofs.YtaembebbaejfiaaGreatDoorW.PrintLast Go.Proofs.YtaembebbaejfiaaGreatDoorW.PrintMore
attribute [local go_sem] max2_int min2_int max_two min_two max_three min_three max_four min_four 
set_option linter.unusedVariables false
set_option linter.unusedSimpArgs false
def spec_PartWord.f (k : Nat) (a0 : ByteArray) : Option (Bool) := (spec_sayWord.f k a0).bind fun t725 => (some t725)
set_option maxHeartbeats 8000000 in
set_option maxRecDepth 100000 in
theorem spec_PartWord.calls (k : Nat) (a0 : ByteArray) (r : Bool) (w : World) (h : spec_PartWord.f k a0 = some r) :
  Calls Tryz.prog 10 #[.string a0] w fun e w' => e = .returned (.bool r) ∧ Below w.heap.size w w' := by
 have HB := aM (Below.refl w.heap.size w)
 have H : ((spec_sayWord.f k a0).bind fun t725 => (some t725)) = some r := h
 clear h
 replace H := Option.bind_eq_some_iff.mp H
 obtain ⟨t725, A20, H⟩ := H
 replace H : (some t725) = some r := H
 have A2 := aM A20
 clear A20
 obtain rfl := Option.some.inj H
 go_enter Tryz.func10, Tryz.ntmps10
 go_wp2_with (first | ((with_reducible refine gate_callee (f := 28) rfl ?_); refine goesL_ (some 4) rfl rfl Tryz.func28 (by kernel_rfl) rfl #[.string a0] rfl (by (try simp only [List.map_toArray, List.map_cons, List.map_nil]); first | done | rfl | (simp only [List.length_drop, List.length_take]; rfl)) ?_; (with_reducible refine (spec_sayWord.calls k a0 t725 _ A2.out).mono ?_); rintro e w3 ⟨rfl, hb⟩; refine ⟨_, rfl, ?_⟩; have n0_ := aM (below_step (by repeat (first | (with_reducible first | exact HB.out | apply below_alloc | apply pw_below_drewN | apply below_drew1) | exact HB.out)) hb); clear HB; have HB := n0_; clear n0_; (try clear hb); (try clear hb2); (try clear hk); (try clear hi)))
 go_ret
 exact ⟨by first | rfl | (simp [errW_none, errW_some] <;> rfl) | (simp [*, errW_none, errW_some] <;> rfl), by repeat (first | (with_reducible first | exact HB.out | apply below_alloc | apply pw_below_drewN | apply below_drew1) | exact HB.out)⟩
end Go.Proofs.YtaembebbaejfiaaGreatDoor.PS
namespace Go.Proofs.YtaembebbaejfiaaGreatDoor.Tr
open Go.RowKit Go.Proofs.YtaembebbaejfiaaGreatDoorW.PrintWords Go.Proofs.YtaembebbaejfiaaGreatDoorW.PrintLast Go.Proofs.YtaembebbaejfiaaGreatDoor.Str Go.Proofs.YtaembebbaejfiaaGreatDoor.Kit Go.Proofs.YtaembebbaejfiaaGreatDoor.MapV Go.Proofs.YtaembebbaejfiaaGreatDoor.Frame Go.Proofs.YtaembebbaejfiaaGreatDoor.PS
open Go.Proofs.YtaembebbaejfiaaGreatDoor.Val (place placeI placeB placeI_hit placeI_end)
set_option linter.unusedVariables false
set_option linter.unusedSimpArgs false
theorem t_gives (s : BA) (w : World) : Calls Tryz.prog 12 #[.string s] w (Gives (leaf 3 0 s) w) := by
 refine (spec_T.calls s 3 0 s [] [] w rfl).mono ?_
 rintro e w1 ⟨v3, v4, rfl, hr3, hr4, hb⟩
 obtain ⟨A3, c3, rfl, l3, g3⟩ := Kd.R_reads hr3
 obtain ⟨A4, c4, rfl, l4, g4⟩ := Kd.R_reads hr4
 exact ⟨A3, c3, A4, c4, rfl, ⟨l3, g3, l4, g4⟩, hb⟩
theorem m_gives (ps : List (BA × VS)) (hps : ps.length ≤ 1000000) (b n c : Nat) (hn : n = 2 * ps.length) (w : World) (h : Turnwise w b ps) :
  Calls Tryz.prog 13 #[.slice (some ⟨b, 0, none⟩) n c] w (Gives (mapsOf (ps.map (·.1)) (ps.map (·.2))) w) := by
 refine (specM ps hps b n c hn w h).mono ?_
 rintro e w1 ⟨v3, v4, rfl, h3, h4, hb⟩
 obtain ⟨A3, c3, A4, c4, rfl, rfl, hr⟩ := fix_reads hb h3 h4
 exact ⟨A3, c3, A4, c4, rfl, hr, hb⟩
theorem turnwise1 (w : World) (k1 : BA) (x : VS) (A3 A4 : Option Addr) (c3 c4 : Nat) (hx : Reads w x A3 c3 A4 c4) :
  Turnwise (w.alloc (.cells #[.iface 9 (.string k1), .iface 25 (.agg #[.int .i64 x.f0, .int .i64 x.f1, .string x.f2, .slice A3 x.f3.length c3, .slice A4 x.f4.length c4])] 20)) w.heap.size [(k1, x)] := by
 have hb := below_alloc (Below.refl w.heap.size w) (.cells #[.iface 9 (.string k1), .iface 25 (.agg #[.int .i64 x.f0, .int .i64 x.f1, .string x.f2, .slice A3 x.f3.length c3, .slice A4 x.f4.length c4])] 20)
 have hn := cb_new w (.cells #[.iface 9 (.string k1), .iface 25 (.agg #[.int .i64 x.f0, .int .i64 x.f1, .string x.f2, .slice A3 x.f3.length c3, .slice A4 x.f4.length c4])] 20)
 have hx' := hx.below hb
 refine ⟨by rw [World.size_alloc]; omega, fun j hj => ?_⟩
 match j, hj with
 | 0, _ => exact ⟨A3, c3, A4, c4, cb_cell (i := 0) hn rfl, cb_cell (i := 1) hn rfl, k25_mk _ x hx'.l3 hx'.hk hx'.l4 hx'.hv⟩
 | _ + 1, h => exact absurd h (by simp)
theorem m_gives1 (w : World) (k1 : BA) (x : VS) (A3 A4 : Option Addr) (c3 c4 : Nat) (hx : Reads w x A3 c3 A4 c4) :
  Calls Tryz.prog 13 #[.slice (some ⟨w.heap.size, 0, none⟩) 2 2] (w.alloc (.cells #[.iface 9 (.string k1), .iface 25 (.agg #[.int .i64 x.f0, .int .i64 x.f1, .string x.f2, .slice A3 x.f3.length c3, .slice A4 x.f4.length c4])] 20)) (Gives (mapsOf [k1] [x]) (w.alloc (.cells #[.iface 9 (.string k1), .iface 25 (.agg #[.int .i64 x.f0, .int .i64 x.f1, .string x.f2, .slice A3 x.f3.length c3, .slice A4 x.f4.length c4])] 20))) :=
 m_gives [(k1, x)] (by simp) w.heap.size 2 2 rfl _ (turnwise1 w k1 x A3 A4 c3 c4 hx)
theorem ends_sayWord_l (s : BA) (hs : s.size < 4611686018427387904) : ∀ (d i : Nat), i + d = s.size → Ends (fun _ => True) (fun k => spec_sayWord.l0 k s (i : Int)) := by
 intro d
 induction d with
 | zero =>
  intro i hi
  refine Ends.step (fun k => by simp only [spec_sayWord.l0]; rfl) ?_
  exact Ends.no (by omega) (Ends.now trivial)
 | succ d ih =>
  intro i hi
  have hn := ih (i + 1) (by omega)
  refine Ends.step (fun k => by simp only [spec_sayWord.l0]; rfl) ?_
  rw [wrapS i (by omega)]
  refine Ends.yes (by omega) (Ends.yes (by omega) ?_)
  repeat' first
   | exact hn
   | exact Ends.now trivial
   | (refine Ends.bindEv (ev_sayIn _ _ (by simp)) ?_)
   | (refine Ends.ite (fun _ => ?_) (fun _ => ?_))
theorem ends_sayWord (s : BA) (hs : s.size < 4611686018427387904) : Ends (fun _ => True) (fun k => spec_sayWord.f k s) := ends_sayWord_l s hs s.size 0 (by omega)
theorem part_word (p : BA) (hp : p.size < 4611686018427387904) (w : World) : ∃ b, Calls Tryz.prog 10 #[.string p] w fun e w' => e = .returned (.bool b) ∧ Below w.heap.size w w' := by
 obtain ⟨b, hb, _⟩ := ends_sayWord p hp
 obtain ⟨k, hk⟩ := (ev_bind (f := fun _ t => some t) hb (Ev.now _)).rounds
 exact ⟨b, spec_PartWord.calls k p b w hk⟩
end Go.Proofs.YtaembebbaejfiaaGreatDoor.Tr
namespace Go.Proofs.YtaembebbaejfiaaGreatDoor.Tr
open Go.RowKit Go.Proofs.YtaembebbaejfiaaGreatDoorW.PrintWords Go.Proofs.YtaembebbaejfiaaGreatDoorW.PrintLast Go.Proofs.YtaembebbaejfiaaGreatDoor.Str Go.Proofs.YtaembebbaejfiaaGreatDoor.Kit Go.Proofs.YtaembebbaejfiaaGreatDoor.MapV Go.Proofs.YtaembebbaejfiaaGreatDoor.Frame Go.Proofs.YtaembebbaejfiaaGreatDoor.PS
set_option linter.unusedVariables false
set_option linter.unusedSimpArgs false
def Turns (ig : Bool) (x y : VI) : Prop := ∀ (w : World) (A3 A4 : Option Addr) (c3 c4 : Nat), x.f3.length ≤ c3 → Kd.string.C w A3 x.f3.length x.f3 → x.f4.length ≤ c4 → kI.C w A4 x.f4.length x.f4 →
  Calls Tryz.prog 11 #[.agg #[.int .i64 x.f0, .int .i64 x.f1, .string x.f2, .slice A3 x.f3.length c3, .slice A4 x.f4.length c4], .bool ig] w (Told w y)
theorem from_calls (x : VI) (z : VS) (hz : fromI x = z) (hx : Small x) (A3 A4 : Option Addr) (c3 c4 : Nat) (w : World) (l3 : x.f3.length ≤ c3) (hk : Kd.string.C w A3 x.f3.length x.f3) (l4 : x.f4.length ≤ c4) (hv : kI.C w A4 x.f4.length x.f4) :
  Calls Tryz.prog 23 #[.agg #[.int .i64 x.f0, .int .i64 x.f1, .string x.f2, .slice A3 x.f3.length c3, .slice A4 x.f4.length c4]] w fun e w' => ∃ B3 d3 B4 d4, e = .returned (.agg #[.int .i64 z.f0, .int .i64 z.f1, .string z.f2, .slice B3 z.f3.length d3, .slice B4 z.f4.length d4]) ∧ z.f3.length ≤ d3 ∧ Kd.string.C w' B3 z.f3.length z.f3 ∧ z.f4.length ≤ d4 ∧ kS.C w' B4 z.f4.length z.f4 ∧ Below w.heap.size w w' := by
 subst hz
 obtain ⟨k, hk'⟩ := (ev_from x hx).rounds
 refine (laws_from.calls k x.f0 x.f1 x.f2 A3 c3 x.f3 A4 c4 x.f4 _ _ _ _ _ w hk l3 hv l4 hk').mono ?_
 rintro e w1 ⟨v3, v4, rfl, hr3, hr4, hb⟩
 obtain ⟨B3, d3, rfl, m3, g3⟩ := Kd.R_reads hr3
 obtain ⟨B4, d4, rfl, m4, g4⟩ := Kd.R_reads hr4
 exact ⟨B3, d3, B4, d4, rfl, m3, g3, m4, g4, hb⟩
theorem to_calls (x : VS) (hx : SmallS x) (A3 A4 : Option Addr) (c3 c4 : Nat) (w : World) (l3 : x.f3.length ≤ c3) (hk : Kd.string.C w A3 x.f3.length x.f3) (l4 : x.f4.length ≤ c4) (hv : kS.C w A4 x.f4.length x.f4) :
  Calls Tryz.prog 21 #[.agg #[.int .i64 x.f0, .int .i64 x.f1, .string x.f2, .slice A3 x.f3.length c3, .slice A4 x.f4.length c4]] w fun e w' => ∃ B3 d3 B4 d4, e = .returned (.agg #[.int .i64 (toI x).f0, .int .i64 (toI x).f1, .string (toI x).f2, .slice B3 (toI x).f3.length d3, .slice B4 (toI x).f4.length d4]) ∧ (toI x).f3.length ≤ d3 ∧ Kd.string.C w' B3 (toI x).f3.length (toI x).f3 ∧ (toI x).f4.length ≤ d4 ∧ kI.C w' B4 (toI x).f4.length (toI x).f4 ∧ Below w.heap.size w w' := by
 obtain ⟨k, hk'⟩ := (ev_to x hx).rounds
 refine (laws_to.calls k x.f0 x.f1 x.f2 A3 c3 x.f3 A4 c4 x.f4 _ _ _ _ _ w hk l3 hv l4 hk').mono ?_
 rintro e w1 ⟨v3, v4, rfl, hr3, hr4, hb⟩
 obtain ⟨B3, d3, rfl, m3, g3⟩ := Kd.R_reads hr3
 obtain ⟨B4, d4, rfl, m4, g4⟩ := Kd.R_reads hr4
 exact ⟨B3, d3, B4, d4, rfl, m3, g3, m4, g4, hb⟩
theorem same_calls (x : VS) (hx : Short x) (A3 A4 : Option Addr) (c3 c4 : Nat) (B3 B4 : Option Addr) (d3 d4 : Nat) (w : World) (l3 : x.f3.length ≤ c3) (hk : Kd.string.C w A3 x.f3.length x.f3) (l4 : x.f4.length ≤ c4) (hv : kS.C w A4 x.f4.length x.f4) (m3 : x.f3.length ≤ d3) (jk : Kd.string.C w B3 x.f3.length x.f3) (m4 : x.f4.length ≤ d4) (jv : kS.C w B4 x.f4.length x.f4) :
  Calls Tryz.prog 22 #[.agg #[.int .i64 x.f0, .int .i64 x.f1, .string x.f2, .slice A3 x.f3.length c3, .slice A4 x.f4.length c4], .agg #[.int .i64 x.f0, .int .i64 x.f1, .string x.f2, .slice B3 x.f3.length d3, .slice B4 x.f4.length d4]] w fun e w' => e = .returned (.bool true) ∧ Below w.heap.size w w' := by
 obtain ⟨k, hk'⟩ := (ev_same x hx).rounds
 exact spec_Same.calls k x.f0 x.f1 x.f2 A3 c3 x.f3 A4 c4 x.f4 x.f0 x.f1 x.f2 B3 d3 x.f3 B4 d4 x.f4 true w hk l3 hv l4 jk m3 jv m4 hk'
theorem cell_row5 {w : World} {b : Nat} {T : TypeId} {v0 v1 v2 v3 v4 : Value} (h : w.heap[b]? = some (.cells #[v0, v1, v2, v3, v4] T (0, 0))) :
  w.cell? ⟨b, 0, none⟩ = some v0 ∧ w.cell? ⟨b, 1, none⟩ = some v1 ∧ w.cell? ⟨b, 2, none⟩ = some v2 ∧ w.cell? ⟨b, 3, none⟩ = some v3 ∧ w.cell? ⟨b, 4, none⟩ = some v4 := by
 simp [World.cell?, h]
set_option maxHeartbeats 3200000 in
set_option maxRecDepth 100000 in
theorem part_is (ig : Bool) (x want : VS) (y1 y2 : VI) (hx : SmallS x) (h1 : Turns ig (toI x) y1) (h2 : Turns ig y1 y2) (hy1 : Small y1) (hy2 : Small y2) (e1 : fromI y1 = want) (e2 : fromI y2 = want) (hw : Short want)
  (A3 A4 B3 B4 : Option Addr) (c3 c4 d3 d4 : Nat) (w : World) (l3 : x.f3.length ≤ c3) (hk : Kd.string.C w A3 x.f3.length x.f3) (l4 : x.f4.length ≤ c4) (hv : kS.C w A4 x.f4.length x.f4) (m3 : want.f3.length ≤ d3) (jk : Kd.string.C w B3 want.f3.length want.f3) (m4 : want.f4.length ≤ d4) (jv : kS.C w B4 want.f4.length want.f4) :
  Calls Tryz.prog 8 #[.func (.func 11) #[] #[], .agg #[.int .i64 x.f0, .int .i64 x.f1, .string x.f2, .slice A3 x.f3.length c3, .slice A4 x.f4.length c4], .agg #[.int .i64 want.f0, .int .i64 want.f1, .string want.f2, .slice B3 want.f3.length d3, .slice B4 want.f4.length d4], .bool ig] w fun e w' => e = .returned (.bool true) ∧ Below w.heap.size w w' := by
 have hb1 := below_alloc (Below.refl w.heap.size w) (.cells #[.int .i64 x.f0, .int .i64 x.f1, .string x.f2, .slice A3 x.f3.length c3, .slice A4 x.f4.length c4] 25)
 have hb2 := below_alloc hb1 (.cells #[.int .i64 want.f0, .int .i64 want.f1, .string want.f2, .slice B3 want.f3.length d3, .slice B4 want.f4.length d4] 25)
 have HB := aM hb2
 have hxb : ((w.alloc (.cells #[.int .i64 x.f0, .int .i64 x.f1, .string x.f2, .slice A3 x.f3.length c3, .slice A4 x.f4.length c4] 25)).alloc (.cells #[.int .i64 want.f0, .int .i64 want.f1, .string want.f2, .slice B3 want.f3.length d3, .slice B4 want.f4.length d4] 25)).heap[w.heap.size]? = some (.cells #[.int .i64 x.f0, .int .i64 x.f1, .string x.f2, .slice A3 x.f3.length c3, .slice A4 x.f4.length c4] 25 (0, 0)) := blk_alloc (cb_new _ _) _
 have hwb := cb_new (w.alloc (.cells #[.int .i64 x.f0, .int .i64 x.f1, .string x.f2, .slice A3 x.f3.length c3, .slice A4 x.f4.length c4] 25)) (.cells #[.int .i64 want.f0, .int .i64 want.f1, .string want.f2, .slice B3 want.f3.length d3, .slice B4 want.f4.length d4] 25)
 rw [World.size_alloc] at hwb
 have HW := aM hwb
 have CT := aM (to_calls x hx A3 A4 c3 c4 _ l3 (Kd.C_below hk hb2) l4 (Kd.C_below hv hb2))
 have JK := aM (Kd.C_below jk hb2)
 have JV := aM (Kd.C_below jv hb2)
 have H1 := aM h1
 have H2 := aM h2
 have E1 := aM e1
 have E2 := aM e2
 clear hb1 hb2 hwb hk hv jk jv h1 h2 e1 e2
 generalize toI x = x1 at CT H1
 obtain ⟨z0, z1, z2, z3, z4⟩ := x1
 obtain ⟨p0, p1, p2, p3, p4⟩ := y1
 obtain ⟨q0, q1, q2, q3, q4⟩ := y2
 go_enter Tryz.func8, Tryz.ntmps8
 go_wp2_with (refine load_val (.tmp 5) rfl rfl rfl hxb ?_)
 refine CT.out.mono ?_
 rintro e w1 ⟨G3, g3, G4, g4, rfl, k3, r3, k4, r4, hb⟩
 have HB1 := aM (hb_then HB.out hb)
 have HW1 := aM ((hb.block _ (cb_lt HW.out)).trans HW.out)
 have JK1 := aM (Kd.C_below JK.out hb)
 have JV1 := aM (Kd.C_below JV.out hb)
 have CG := aM (H1.out w1 G3 G4 g3 g4 k3 r3 k4 r4)
 clear hb CT r3 r4 k3 k4 HB HW JK JV hxb H1
 go_wp2_with fail
 refine CG.out.mono ?_
 rintro e w2 ⟨v3, v4, rfl, hv3, hv4, hb⟩
 obtain ⟨P3, a3, rfl, k3, r3⟩ := Kd.R_reads hv3
 obtain ⟨P4, a4, rfl, k4, r4⟩ := Kd.R_reads hv4
 have hbn := below_alloc (Below.refl w2.heap.size w2) (.cells #[.int .i64 p0, .int .i64 p1, .string p2, .slice P3 p3.length a3, .slice P4 p4.length a4] 45)
 have HB2 := aM (hb_then (hb_then HB1.out hb) hbn)
 have HW2 := aM (blk_alloc ((hb.block _ (cb_lt HW1.out)).trans HW1.out) (.cells #[.int .i64 p0, .int .i64 p1, .string p2, .slice P3 p3.length a3, .slice P4 p4.length a4] 45))
 have JK2 := aM (Kd.C_below (Kd.C_below JK1.out hb) hbn)
 have JV2 := aM (Kd.C_below (Kd.C_below JV1.out hb) hbn)
 have RK2 := aM (Kd.C_below r3 hbn)
 have RV2 := aM (Kd.C_below r4 hbn)
 have hp := cb_new w2 (.cells #[.int .i64 p0, .int .i64 p1, .string p2, .slice P3 p3.length a3, .slice P4 p4.length a4] 45)
 have HP2 := aM hp
 have CG2 := aM (H2.out _ P3 P4 a3 a4 k3 (Kd.C_below r3 hbn) k4 (Kd.C_below r4 hbn))
 clear hb CG r3 r4 HB1 HW1 JK1 JV1 H2 hv3 hv4 hbn
 go_wp2_with (refine load_ival (.tmp 9) rfl rfl rfl hp ?_)
 refine CG2.out.mono ?_
 rintro e w3 ⟨v3, v4, rfl, hv3, hv4, hb⟩
 obtain ⟨Q3, s3, rfl, n3, t3⟩ := Kd.R_reads hv3
 obtain ⟨Q4, s4, rfl, n4, t4⟩ := Kd.R_reads hv4
 have hbn := below_alloc (Below.refl w3.heap.size w3) (.cells #[.int .i64 q0, .int .i64 q1, .string q2, .slice Q3 q3.length s3, .slice Q4 q4.length s4] 45)
 have hbw := hb_then hb hbn
 have HB3 := aM (hb_then HB2.out hbw)
 have HP3 := aM (cell_row5 ((hbw.block _ (cb_lt HP2.out)).trans HP2.out))
 have HW3 := aM (cell_row5 ((hbw.block _ (cb_lt HW2.out)).trans HW2.out))
 have HQ3 := aM (cell_row5 (cb_new w3 (.cells #[.int .i64 q0, .int .i64 q1, .string q2, .slice Q3 q3.length s3, .slice Q4 q4.length s4] 45)))
 have JK3 := aM (Kd.C_below JK2.out hbw)
 have JV3 := aM (Kd.C_below JV2.out hbw)
 have RK3 := aM (Kd.C_below RK2.out hbw)
 have RV3 := aM (Kd.C_below RV2.out hbw)
 have QK3 := aM (Kd.C_below t3 hbn)
 have QV3 := aM (Kd.C_below t4 hbn)
 have HL3 := aM k3
 have HL4 := aM k4
 have HM3 := aM n3
 have HM4 := aM n4
 clear hb hbw hbn hv3 hv4 t3 t4 CG2 JK2 JV2 RK2 RV2 HP2 HW2 HB2 k3 k4 n3 n4 hp
 go_wp2
 generalize hW0 : w3.alloc _ = W0 at HB3 HP3 HW3 HQ3 JK3 JV3 RK3 RV3 QK3 QV3 ⊢
 obtain ⟨x0, x1, x2, x3, x4⟩ := HP3.out
 obtain ⟨x5, x6, x7, x8, x9⟩ := HW3.out
 obtain ⟨x10, x11, x12, x13, x14⟩ := HQ3.out
 clear HP3 HW3 HQ3 hW0
 refine start_ (n := 17) (S := fun w' => w'.cell? ⟨w2.heap.size, 0, none⟩ = some (.int .i64 p0) ∧ w'.cell? ⟨w2.heap.size, 1, none⟩ = some (.int .i64 p1) ∧ w'.cell? ⟨w2.heap.size, 2, none⟩ = some (.string p2) ∧ w'.cell? ⟨w2.heap.size, 3, none⟩ = some (.slice P3 p3.length a3) ∧ w'.cell? ⟨w2.heap.size, 4, none⟩ = some (.slice P4 p4.length a4) ∧ w'.cell? ⟨w.heap.size + 1, 0, none⟩ = some (.int .i64 want.f0) ∧ w'.cell? ⟨w.heap.size + 1, 1, none⟩ = some (.int .i64 want.f1) ∧ w'.cell? ⟨w.heap.size + 1, 2, none⟩ = some (.string want.f2) ∧ w'.cell? ⟨w.heap.size + 1, 3, none⟩ = some (.slice B3 want.f3.length d3) ∧ w'.cell? ⟨w.heap.size + 1, 4, none⟩ = some (.slice B4 want.f4.length d4) ∧ w'.cell? ⟨w3.heap.size, 0, none⟩ = some (.int .i64 q0) ∧ w'.cell? ⟨w3.heap.size, 1, none⟩ = some (.int .i64 q1) ∧ w'.cell? ⟨w3.heap.size, 2, none⟩ = some (.string q2) ∧ w'.cell? ⟨w3.heap.size, 3, none⟩ = some (.slice Q3 q3.length s3) ∧ w'.cell? ⟨w3.heap.size, 4, none⟩ = some (.slice Q4 q4.length s4)) (ds := []) #[false, false, false, false, false, false, false, false, false, false, false, false, false, false, false, false, false] (by kernel_rfl) rfl rfl ⟨x0, x1, x2, x3, x4, x5, x6, x7, x8, x9, x10, x11, x12, x13, x14⟩ (fun hHeld => ?_)
 refine pure_ (i := 0) (N := some 28) (v := ?_) (a' := ?_) #[true, false, false, false, false, false, false, false, false, false, false, false, false, false, false, false, false] rfl rfl (by kernel_rfl) (fun _ _ _ h => h) (Or.inl ⟨by rfl, ?_⟩) ?_ ?_
 rotate_left
 ·intro w'; go_simp; with_reducible rfl
 rotate_left
 ·simp only [Act.put, sA, sB, sC, i64_w, i32_w]; rfl
 refine pure_ (i := 1) (N := some 29) (v := ?_) (a' := ?_) #[true, true, false, false, false, false, false, false, false, false, false, false, false, false, false, false, false] rfl rfl (by kernel_rfl) (fun _ _ _ h => h) (Or.inl ⟨by rfl, ?_⟩) ?_ ?_
 rotate_left
 ·intro w'; go_simp; with_reducible rfl
 rotate_left
 ·simp only [Act.put, sA, sB, sC, i64_w, i32_w]; rfl
 refine pure_ (i := 2) (N := some 30) (v := ?_) (a' := ?_) #[true, true, true, false, false, false, false, false, false, false, false, false, false, false, false, false, false] rfl rfl (by kernel_rfl) (fun _ _ _ h => h) (Or.inl ⟨by rfl, ?_⟩) ?_ ?_
 rotate_left
 ·intro w'; go_simp; with_reducible rfl
 rotate_left
 ·simp only [Act.put, sA, sB, sC, i64_w, i32_w]; rfl
 refine pure_ (i := 3) (N := some 31) (v := ?_) (a' := ?_) #[true, true, true, true, false, false, false, false, false, false, false, false, false, false, false, false, false] rfl rfl (by kernel_rfl) (fun _ _ _ h => h) (Or.inl ⟨by rfl, ?_⟩) ?_ ?_
 rotate_left
 ·intro w'; go_simp; with_reducible rfl
 rotate_left
 ·simp only [Act.put, sA, sB, sC, i64_w, i32_w]; rfl
 refine pure_ (i := 4) (N := some 32) (v := ?_) (a' := ?_) #[true, true, true, true, true, false, false, false, false, false, false, false, false, false, false, false, false] rfl rfl (by kernel_rfl) (fun _ _ _ h => h) (Or.inl ⟨by rfl, ?_⟩) ?_ ?_
 rotate_left
 ·intro w'; go_simp; with_reducible rfl
 rotate_left
 ·simp only [Act.put, sA, sB, sC, i64_w, i32_w]; rfl
 refine take_ (i := 5) (N := some 33) (v := ?_) (a' := ?_) #[true, true, true, true, true, true, false, false, false, false, false, false, false, false, false, false, false] rfl rfl (by kernel_rfl) (fun _ _ _ h => h) (Or.inl ⟨by rfl, ?_⟩) hHeld ?_ ?_
 rotate_left
 ·rintro w' ⟨s0, s1, s2, s3, s4, s5, s6, s7, s8, s9, s10, s11, s12, s13, s14⟩
  go_simp; with_reducible rfl
 rotate_left
 ·simp only [Act.put, sA, sB, sC, i64_w, i32_w]; rfl
 refine take_ (i := 7) (N := some 35) (v := ?_) (a' := ?_) #[true, true, true, true, true, true, false, true, false, false, false, false, false, false, false, false, false] rfl rfl (by kernel_rfl) (fun _ _ _ h => h) (Or.inl ⟨by rfl, ?_⟩) hHeld ?_ ?_
 rotate_left
 ·rintro w' ⟨s0, s1, s2, s3, s4, s5, s6, s7, s8, s9, s10, s11, s12, s13, s14⟩
  go_simp; with_reducible rfl
 rotate_left
 ·simp only [Act.put, sA, sB, sC, i64_w, i32_w]; rfl
 refine one_ (i := 6) (N := some 34) #[true, true, true, true, true, true, true, true, false, false, false, false, false, false, false, false, false] rfl rfl (by kernel_rfl) (by decide) (fun K hK => ?_)
 refine goes_ Tryz.func23 (by kernel_rfl) rfl #[.agg #[.int .i64 p0, .int .i64 p1, .string p2, .slice P3 p3.length a3, .slice P4 p4.length a4]] (by rfl) rfl rfl (by simp only [List.map_toArray, List.map_cons, List.map_nil]; rfl) ?_
 with_reducible refine (from_calls ⟨p0, p1, p2, p3, p4⟩ want E1.out hy1 P3 P4 a3 a4 W0.drew HL3.out (Kd.C_below RK3.out (below_drew (Below.refl _ _))) HL4.out (Kd.C_below RV3.out (below_drew (Below.refl _ _)))).mono ?_
 rintro e w4 ⟨F3, b3, F4, b4, rfl, f3, g3, f4, g4, hb4⟩
 refine ⟨_, rfl, ?_⟩
 have F4_ := aM (And.intro f3 (And.intro g3 (And.intro f4 g4)))
 have HB4 := aM (hb_then (below_drew (Below.refl W0.heap.size W0)) hb4)
 clear f3 g3 f4 g4
 refine hK.out _ _ ⟨pw_cell_below hb4 hHeld.1, pw_cell_below hb4 hHeld.2.1, pw_cell_below hb4 hHeld.2.2.1, pw_cell_below hb4 hHeld.2.2.2.1, pw_cell_below hb4 hHeld.2.2.2.2.1, pw_cell_below hb4 hHeld.2.2.2.2.2.1, pw_cell_below hb4 hHeld.2.2.2.2.2.2.1, pw_cell_below hb4 hHeld.2.2.2.2.2.2.2.1, pw_cell_below hb4 hHeld.2.2.2.2.2.2.2.2.1, pw_cell_below hb4 hHeld.2.2.2.2.2.2.2.2.2.1, pw_cell_below hb4 hHeld.2.2.2.2.2.2.2.2.2.2.1, pw_cell_below hb4 hHeld.2.2.2.2.2.2.2.2.2.2.2.1, pw_cell_below hb4 hHeld.2.2.2.2.2.2.2.2.2.2.2.2.1, pw_cell_below hb4 hHeld.2.2.2.2.2.2.2.2.2.2.2.2.2.1, pw_cell_below hb4 hHeld.2.2.2.2.2.2.2.2.2.2.2.2.2.2⟩ (fun hHeld => ?_)
 clear hK K
 refine norm_ (a' := ?_) ?_ ?_
 rotate_left
 ·show Act.put _ (some 34) _ = _
  simp only [Act.put, sA, sB, sC, i64_w, i32_w]; rfl
 refine one_ (i := 8) (N := some 36) #[true, true, true, true, true, true, true, true, true, false, false, false, false, false, false, false, false] rfl rfl (by kernel_rfl) (by decide) (fun K hK => ?_)
 refine goes_ Tryz.func22 (by kernel_rfl) rfl #[.agg #[.int .i64 want.f0, .int .i64 want.f1, .string want.f2, .slice F3 want.f3.length b3, .slice F4 want.f4.length b4], .agg #[.int .i64 want.f0, .int .i64 want.f1, .string want.f2, .slice B3 want.f3.length d3, .slice B4 want.f4.length d4]] (by rfl) rfl rfl (by simp only [List.map_toArray, List.map_cons, List.map_nil]; rfl) ?_
 with_reducible refine (same_calls want hw F3 F4 b3 b4 B3 B4 d3 d4 w4 F4_.out.1 F4_.out.2.1 F4_.out.2.2.1 F4_.out.2.2.2 m3 (Kd.C_below JK3.out HB4.out) m4 (Kd.C_below JV3.out HB4.out)).mono ?_
 rintro e w5 ⟨rfl, hb5⟩
 refine ⟨_, rfl, ?_⟩
 have HB5 := aM (hb_then HB4.out hb5)
 refine hK.out _ _ ⟨pw_cell_below hb5 hHeld.1, pw_cell_below hb5 hHeld.2.1, pw_cell_below hb5 hHeld.2.2.1, pw_cell_below hb5 hHeld.2.2.2.1, pw_cell_below hb5 hHeld.2.2.2.2.1, pw_cell_below hb5 hHeld.2.2.2.2.2.1, pw_cell_below hb5 hHeld.2.2.2.2.2.2.1, pw_cell_below hb5 hHeld.2.2.2.2.2.2.2.1, pw_cell_below hb5 hHeld.2.2.2.2.2.2.2.2.1, pw_cell_below hb5 hHeld.2.2.2.2.2.2.2.2.2.1, pw_cell_below hb5 hHeld.2.2.2.2.2.2.2.2.2.2.1, pw_cell_below hb5 hHeld.2.2.2.2.2.2.2.2.2.2.2.1, pw_cell_below hb5 hHeld.2.2.2.2.2.2.2.2.2.2.2.2.1, pw_cell_below hb5 hHeld.2.2.2.2.2.2.2.2.2.2.2.2.2.1, pw_cell_below hb5 hHeld.2.2.2.2.2.2.2.2.2.2.2.2.2.2⟩ (fun hHeld => ?_)
 clear hK K
 refine norm_ (a' := ?_) ?_ ?_
 rotate_left
 ·show Act.put _ (some 36) _ = _
  simp only [Act.put, sA, sB, sC, i64_w, i32_w]; rfl
 refine pure_ (i := 9) (N := some 37) (v := ?_) (a' := ?_) #[true, true, true, true, true, true, true, true, true, true, false, false, false, false, false, false, false] rfl rfl (by kernel_rfl) (fun _ _ _ h => h) (Or.inl ⟨by rfl, ?_⟩) ?_ ?_
 rotate_left
 ·intro w'; go_simp; with_reducible rfl
 rotate_left
 ·simp only [Act.put, sA, sB, sC, i64_w, i32_w]; rfl
 refine pure_ (i := 10) (N := some 38) (v := ?_) (a' := ?_) #[true, true, true, true, true, true, true, true, true, true, true, false, false, false, false, false, false] rfl rfl (by kernel_rfl) (fun _ _ _ h => h) (Or.inl ⟨by rfl, ?_⟩) ?_ ?_
 rotate_left
 ·intro w'; go_simp; with_reducible rfl
 rotate_left
 ·simp only [Act.put, sA, sB, sC, i64_w, i32_w]; rfl
 refine take_ (i := 11) (N := some 39) (v := ?_) (a' := ?_) #[true, true, true, true, true, true, true, true, true, true, true, true, false, false, false, false, false] rfl rfl (by kernel_rfl) (fun _ _ _ h => h) (Or.inl ⟨by rfl, ?_⟩) hHeld ?_ ?_
 rotate_left
 ·rintro w' ⟨s0, s1, s2, s3, s4, s5, s6, s7, s8, s9, s10, s11, s12, s13, s14⟩
  go_simp; with_reducible rfl
 rotate_left
 ·simp only [Act.put, sA, sB, sC, i64_w, i32_w]; rfl
 refine take_ (i := 13) (N := some 41) (v := ?_) (a' := ?_) #[true, true, true, true, true, true, true, true, true, true, true, true, false, true, false, false, false] rfl rfl (by kernel_rfl) (fun _ _ _ h => h) (Or.inl ⟨by rfl, ?_⟩) hHeld ?_ ?_
 rotate_left
 ·rintro w' ⟨s0, s1, s2, s3, s4, s5, s6, s7, s8, s9, s10, s11, s12, s13, s14⟩
  go_simp; with_reducible rfl
 rotate_left
 ·simp only [Act.put, sA, sB, sC, i64_w, i32_w]; rfl
 refine one_ (i := 12) (N := some 40) #[true, true, true, true, true, true, true, true, true, true, true, true, true, true, false, false, false] rfl rfl (by kernel_rfl) (by decide) (fun K hK => ?_)
 refine goes_ Tryz.func23 (by kernel_rfl) rfl #[.agg #[.int .i64 q0, .int .i64 q1, .string q2, .slice Q3 q3.length s3, .slice Q4 q4.length s4]] (by rfl) rfl rfl (by simp only [List.map_toArray, List.map_cons, List.map_nil]; rfl) ?_
 with_reducible refine (from_calls ⟨q0, q1, q2, q3, q4⟩ want E2.out hy2 Q3 Q4 s3 s4 w5 HM3.out (Kd.C_below QK3.out HB5.out) HM4.out (Kd.C_below QV3.out HB5.out)).mono ?_
 rintro e w6 ⟨G3_, i3, G4_, i4, rfl, f3, g3, f4, g4, hb6⟩
 refine ⟨_, rfl, ?_⟩
 have F6_ := aM (And.intro f3 (And.intro g3 (And.intro f4 g4)))
 have HB6 := aM (hb_then HB5.out hb6)
 clear f3 g3 f4 g4
 refine hK.out _ _ ⟨pw_cell_below hb6 hHeld.1, pw_cell_below hb6 hHeld.2.1, pw_cell_below hb6 hHeld.2.2.1, pw_cell_below hb6 hHeld.2.2.2.1, pw_cell_below hb6 hHeld.2.2.2.2.1, pw_cell_below hb6 hHeld.2.2.2.2.2.1, pw_cell_below hb6 hHeld.2.2.2.2.2.2.1, pw_cell_below hb6 hHeld.2.2.2.2.2.2.2.1, pw_cell_below hb6 hHeld.2.2.2.2.2.2.2.2.1, pw_cell_below hb6 hHeld.2.2.2.2.2.2.2.2.2.1, pw_cell_below hb6 hHeld.2.2.2.2.2.2.2.2.2.2.1, pw_cell_below hb6 hHeld.2.2.2.2.2.2.2.2.2.2.2.1, pw_cell_below hb6 hHeld.2.2.2.2.2.2.2.2.2.2.2.2.1, pw_cell_below hb6 hHeld.2.2.2.2.2.2.2.2.2.2.2.2.2.1, pw_cell_below hb6 hHeld.2.2.2.2.2.2.2.2.2.2.2.2.2.2⟩ (fun hHeld => ?_)
 clear hK K
 refine norm_ (a' := ?_) ?_ ?_
 rotate_left
 ·show Act.put _ (some 40) _ = _
  simp only [Act.put, sA, sB, sC, i64_w, i32_w]; rfl
 refine one_ (i := 14) (N := some 42) #[true, true, true, true, true, true, true, true, true, true, true, true, true, true, true, false, false] rfl rfl (by kernel_rfl) (by decide) (fun K hK => ?_)
 refine goes_ Tryz.func22 (by kernel_rfl) rfl #[.agg #[.int .i64 want.f0, .int .i64 want.f1, .string want.f2, .slice G3_ want.f3.length i3, .slice G4_ want.f4.length i4], .agg #[.int .i64 want.f0, .int .i64 want.f1, .string want.f2, .slice B3 want.f3.length d3, .slice B4 want.f4.length d4]] (by rfl) rfl rfl (by simp only [List.map_toArray, List.map_cons, List.map_nil]; rfl) ?_
 with_reducible refine (same_calls want hw G3_ G4_ i3 i4 B3 B4 d3 d4 w6 F6_.out.1 F6_.out.2.1 F6_.out.2.2.1 F6_.out.2.2.2 m3 (Kd.C_below JK3.out HB6.out) m4 (Kd.C_below JV3.out HB6.out)).mono ?_
 rintro e w7 ⟨rfl, hb7⟩
 refine ⟨_, rfl, ?_⟩
 have HB7 := aM (hb_then HB6.out hb7)
 refine hK.out _ _ ⟨pw_cell_below hb7 hHeld.1, pw_cell_below hb7 hHeld.2.1, pw_cell_below hb7 hHeld.2.2.1, pw_cell_below hb7 hHeld.2.2.2.1, pw_cell_below hb7 hHeld.2.2.2.2.1, pw_cell_below hb7 hHeld.2.2.2.2.2.1, pw_cell_below hb7 hHeld.2.2.2.2.2.2.1, pw_cell_below hb7 hHeld.2.2.2.2.2.2.2.1, pw_cell_below hb7 hHeld.2.2.2.2.2.2.2.2.1, pw_cell_below hb7 hHeld.2.2.2.2.2.2.2.2.2.1, pw_cell_below hb7 hHeld.2.2.2.2.2.2.2.2.2.2.1, pw_cell_below hb7 hHeld.2.2.2.2.2.2.2.2.2.2.2.1, pw_cell_below hb7 hHeld.2.2.2.2.2.2.2.2.2.2.2.2.1, pw_cell_below hb7 hHeld.2.2.2.2.2.2.2.2.2.2.2.2.2.1, pw_cell_below hb7 hHeld.2.2.2.2.2.2.2.2.2.2.2.2.2.2⟩ (fun hHeld => ?_)
 clear hK K
 refine norm_ (a' := ?_) ?_ ?_
 rotate_left
 ·show Act.put _ (some 42) _ = _
  simp only [Act.put, sA, sB, sC, i64_w, i32_w]; rfl
 refine pure_ (i := 15) (N := some 43) (v := ?_) (a' := ?_) #[true, true, true, true, true, true, true, true, true, true, true, true, true, true, true, true, false] rfl rfl (by kernel_rfl) (fun _ _ _ h => h) (Or.inl ⟨by rfl, ?_⟩) ?_ ?_
 rotate_left
 ·intro w'; go_simp; with_reducible rfl
 rotate_left
 ·simp only [Act.put, sA, sB, sC, i64_w, i32_w]; rfl
 refine pure_ (i := 16) (N := some 8) (v := ?_) (a' := ?_) #[true, true, true, true, true, true, true, true, true, true, true, true, true, true, true, true, true] rfl rfl (by kernel_rfl) (fun _ _ _ h => h) (Or.inl ⟨by rfl, ?_⟩) ?_ ?_
 rotate_left
 ·intro w'; go_simp; with_reducible rfl
 rotate_left
 ·simp only [Act.put, sA, sB, sC, i64_w, i32_w]; rfl
 refine done_ (by kernel_rfl) ?_
 go_wp2
 go_ret
 exact ⟨rfl, hb_then HB3.out (HB7.out)⟩
end Go.Proofs.YtaembebbaejfiaaGreatDoor.Tr
namespace Go.Proofs.YtaembebbaejfiaaGreatDoor.Tr
open Go.RowKit Go.Proofs.YtaembebbaejfiaaGreatDoorW.PrintWords Go.Proofs.YtaembebbaejfiaaGreatDoorW.PrintLast Go.Proofs.YtaembebbaejfiaaGreatDoor.Str Go.Proofs.YtaembebbaejfiaaGreatDoor.Kit Go.Proofs.YtaembebbaejfiaaGreatDoor.MapV Go.Proofs.YtaembebbaejfiaaGreatDoor.Frame Go.Proofs.YtaembebbaejfiaaGreatDoor.PS
open Go.Proofs.YtaembebbaejfiaaGreatDoor.Val (place placeI placeB placeI_hit placeI_end)
set_option linter.unusedVariables false
set_option linter.unusedSimpArgs false
theorem oneM_put (p : BA) : mput ([] : List (Bs × Y)) (lb oneK) (Y.text p) = oneM p := rfl
theorem maps_one (p : BA) : anyOf (toI (mapsOf [oneK] [leaf 3 0 p])) = .map (oneM p) ∧ Canon (mapsOf [oneK] [leaf 3 0 p]) ∧ (p.size ≤ 140737488355328 → SmallS (mapsOf [oneK] [leaf 3 0 p])) := by
 obtain ⟨a, b, c, d, e, f⟩ := fitW_facts [oneK] [leaf 3 0 p] [] [] rfl List.Pairwise.nil
 have hz := fitW_mput (fun v => anyOf (toI v)) [oneK] [leaf 3 0 p] [] [] List.Pairwise.nil rfl rfl
 unfold mapsOf
 generalize fitW [oneK] [leaf 3 0 p] [] [] = KV at *
 obtain ⟨K, V⟩ := KV
 have hm : ∀ v, v ∈ V → v = leaf 3 0 p := fun v hv => by
  rcases f v hv with h | h
  ·cases h
  ·simpa using h
 refine ⟨?_, .map K V b a (fun v hv => ?_), fun hp => .mk _ (Nat.zero_le _) (fun s h => ?_) (by show K.length ≤ _; simp at c; omega) (by show V.length ≤ _; simp at d; omega) (fun v hv => ?_)⟩
 ·rw [canon_anyOf_map b, anyL_map, toL_map, List.map_map]
  refine congrArg Y.map (Eq.trans hz ?_)
  rw [← oneM_put]
  simp [leaf, toI, toL, anyOf]
 ·rw [hm v hv]
  exact .text p
 ·rcases e s h with h | h
  ·cases h
  ·simp at h
   rw [h]; unfold maxLen; decide
 ·rw [hm v hv]
  exact leaf_small _ _ _ hp
theorem one_fits (p : BA) : FitsY (.map (oneM p)) := by
 refine .map _ (by simp [oneM]) (fun q hq => ?_) (fun q hq => ?_)
 ·simp [oneM] at hq
  rw [hq]
  show (lb oneK).length ≤ maxLen; unfold maxLen; decide
 ·simp [oneM] at hq
  rw [hq]
  exact .text _
theorem one_none : Tree.NoneT (atP ⟨(lb oneK).toArray⟩) := by unfold Tree.NoneT; decide +kernel
theorem one_dot : findI [46] (lb oneK) = -1 := by decide +kernel
theorem one_len : (lb oneK).length ≤ 4398046511104 := by decide +kernel
theorem turns_one (p : BA) (x : VS) (hs : SmallS x) (hf : anyOf (toI x) = .text p ∨ anyOf (toI x) = .map (oneM p)) (ig : Bool) : Turns ig (toI x) (valOf (.map (oneM p))) := by
 intro w A3 A4 c3 c4 l3 hk l4 hv
 refine impl_trans (toI x) (small_to x hs) _ (one_fits p) ig (fun B W v F hB hF ha => ?_) A3 A4 c3 c4 w l3 hk l4 hv
 rcases hf with h | h
 ·rw [h] at ha
  obtain rfl : v = .iface 9 (.string p) := by cases ha; rfl
  exact one_text B p ig W hB
 ·rw [h] at ha
  refine one_map B (oneM p) (by simp [oneM]) (fun q hq => ?_) v F ig W hB hF ha
  simp [oneM] at hq
  subst hq
  exact ⟨.inl ⟨p, rfl⟩, one_dot, one_len, one_none⟩
set_option maxHeartbeats 3200000 in
set_option maxRecDepth 100000 in
theorem lawExt (p : BA) (hp : p.size ≤ 140737488351232) (ig : Bool) (w : World) : Calls Tryz.prog 4 #[.string p, .bool ig] w fun e w' => e = .returned (.bool true) ∧ Below w.heap.size w w' := by
 by_cases h31 : (2147483647 : Int) < (p.size : Int)
 ·have d1 : decide ((2147483647 : Int) < (p.size : Int)) = true := decide_eq_true h31
  go_enter Tryz.func4, Tryz.ntmps4
  go_wp2
  go_ret
  exact ⟨rfl, Below.refl _ _⟩
 have d1 : decide ((2147483647 : Int) < (p.size : Int)) = false := decide_eq_false h31
 have hp2 : p.size ≤ 140737488355328 := by omega
 obtain ⟨bw, hbw⟩ := part_word p (by omega) w
 have CW := aM hbw
 obtain ⟨mz, mc, ms⟩ := maps_one p
 have hzs := ms hp2
 have hxs := leaf_small 3 0 p hp2
 have hv : valOf (.map (oneM p)) = toI (mapsOf [oneK] [leaf 3 0 p]) := by rw [← mz]; exact canon_back mc
 have h1 : Turns ig (toI (leaf 3 0 p)) (toI (mapsOf [oneK] [leaf 3 0 p])) := hv ▸ turns_one p (leaf 3 0 p) hxs (.inl (by simp [leaf, toI, toL, anyOf])) ig
 have h2 : Turns ig (toI (mapsOf [oneK] [leaf 3 0 p])) (toI (mapsOf [oneK] [leaf 3 0 p])) := by
  have := turns_one p _ hzs (.inr mz) ig
  rw [hv] at this
  exact this
 have HT := aM (fun W => t_gives p W)
 have HM := aM (fun W A3 A4 c3 c4 h => m_gives1 W oneK (leaf 3 0 p) A3 A4 c3 c4 h)
 generalize leaf 3 0 p = x at hzs hxs h1 h2 HT HM
 generalize mapsOf [oneK] [x] = z at hzs h1 h2 HM
 have HPI := aM (fun A3 A4 B3 B4 c3 c4 d3 d4 W (hx : Reads W x A3 c3 A4 c4) (hy : Reads W z B3 d3 B4 d4) => part_is ig x z (toI z) (toI z) hxs h1 h2 (small_to z hzs) (small_to z hzs) (from_to z) (from_to z) hzs.short A3 A4 B3 B4 c3 c4 d3 d4 W hx.l3 hx.hk hx.l4 hx.hv hy.l3 hy.hk hy.l4 hy.hv)
 clear hbw mz mc ms hzs hxs hv h1 h2 hp hp2 h31
 go_enter Tryz.func4, Tryz.ntmps4
 go_wp2_with fail
 refine CW.out.mono ?_
 rintro e w1 ⟨rfl, hb⟩
 have HB1 := aM hb
 clear hb CW
 cases bw
 ·go_wp2
  go_ret
  exact ⟨rfl, HB1.out⟩
 go_wp2_with fail
 refine (HT.out w1).mono ?_
 rintro e w2 ⟨A3, c3, A4, c4, rfl, hx, hb⟩
 have HB2 := aM (hb_then HB1.out hb)
 have HX2 := aM hx
 clear hb HB1 hx
 go_wp2_with fail
 refine (HT.out w2).mono ?_
 rintro e w3 ⟨B3, d3, B4, d4, rfl, hy, hb⟩
 have HB3 := aM (hb_then HB2.out hb)
 have HX3 := aM (HX2.out.below hb)
 have CM := aM (HM.out w3 B3 B4 d3 d4 hy)
 have hbn := below_alloc (Below.refl w3.heap.size w3) (.cells #[.iface 9 (.string oneK), .iface 25 (.agg #[.int .i64 x.f0, .int .i64 x.f1, .string x.f2, .slice B3 x.f3.length d3, .slice B4 x.f4.length d4])] 20)
 have HX4 := aM (HX3.out.below hbn)
 have HB4 := aM (hb_then HB3.out hbn)
 clear hb HB2 hy HX2 HX3 hbn
 go_wp2_with fail
 refine CM.out.mono ?_
 rintro e w4 ⟨C3, f3, C4, f4, rfl, hz, hb⟩
 have HB5 := aM (hb_then HB4.out hb)
 have CP := aM (HPI.out A3 A4 C3 C4 c3 c4 f3 f4 w4 (HX4.out.below hb) hz)
 clear hb HB4 HX4 hz CM
 go_wp2_with fail
 refine CP.out.mono ?_
 rintro e w5 ⟨rfl, hb⟩
 have HB6 := aM (hb_then HB5.out hb)
 clear hb
 go_wp2
 go_ret
 exact ⟨rfl, HB6.out⟩
theorem lawExtRow (p : BA) (ig : Bool) (w : World) (hp : p.size ≤ 140737488351232) (hT : True) : Calls Tryz.prog 4 #[.string p, .bool ig] w fun e w' => e = .returned (.bool true) ∧ Below w.heap.size w w' := lawExt p hp ig w
end Go.Proofs.YtaembebbaejfiaaGreatDoor.Tr
namespace Go.Proofs.YtaembebbaejfiaaGreatDoor.RowKit
open Go.RowKit Go.ChangeShapes Go.WideShapes Go.ChangeAt Go.Proofs.YtaembebbaejfiaaGreatDoorW.PrintWords Go.Proofs.YtaembebbaejfiaaGreatDoor.Str Go.Proofs.YtaembebbaejfiaaGreatDoor.Kit
set_option linter.unusedVariables false
set_option linter.unusedSimpArgs false
end Go.Proofs.YtaembebbaejfiaaGreatDoor.RowKit
namespace Go.Proofs.YtaembebbaejfiaaGreatDoor.DTabsFnTransformExtends
set_option linter.unusedVariables false
open Go.RowKit Go.Lib
theorem any {W : World} (hL : laidMet Tryz.prog Rows.fnTransformExtendsRow.laid W) : True := trivial
end Go.Proofs.YtaembebbaejfiaaGreatDoor.DTabsFnTransformExtends
