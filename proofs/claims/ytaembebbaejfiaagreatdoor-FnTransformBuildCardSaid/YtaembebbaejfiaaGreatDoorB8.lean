/- Parts of the proof, laid together: QSpecSayAddress, QSpecSayNet, QSpecSayNets, PureNets, QSpecSayWord, QSpecPartWord, GivesT, QSpecSayText, QSpecSayKnown, PureBuild, PartIs, QSpecSayNamed. -/
import Derived.Test.YtaembebbaejfiaaGreatDoorB3
import Derived.Test.YtaembebbaejfiaaGreatDoorB7
import Derived.Test.YtaembebbaejfiaaGreatDoorB4
namespace Go.Proofs.YtaembebbaejfiaaGreatDoor.PS
open Go.RowKit Go.Proofs.YtaembebbaejfiaaGreatDoorW.PrintWords Go.Proofs.YtaembebbaejfiaaGreatDoorW.PrintLast Go.Proofs.YtaembebbaejfiaaGreatDoorW.PrintMore
attribute [local go_sem] max2_int min2_int max_two min_two max_three min_three max_four min_four 
set_option linter.unusedVariables false
set_option linter.unusedSimpArgs false
end Go.Proofs.YtaembebbaejfiaaGreatDoor.PS
namespace Go.Proofs.YtaembebbaejfiaaGreatDoor.PS
open Go.RowKit Go.Proofs.YtaembebbaejfiaaGreatDoorW.PrintWords Go.Proofs.YtaembebbaejfiaaGreatDoorW.PrintLast Go.Proofs.YtaembebbaejfiaaGreatDoorW.PrintMore
attribute [local go_sem] max2_int min2_int max_two min_two max_three min_three max_four min_four 
set_option linter.unusedVariables false
set_option linter.unusedSimpArgs false
end Go.Proofs.YtaembebbaejfiaaGreatDoor.PS
namespace Go.Proofs.YtaembebbaejfiaaGreatDoor.PS
open Go.RowKit Go.Proofs.YtaembebbaejfiaaGreatDoorW.PrintWords Go.Proofs.YtaembebbaejfiaaGreatDoorW.PrintLast Go.Proofs.YtaembebbaejfiaaGreatDoorW.PrintMore
attribute [local go_sem] max2_int min2_int max_two min_two max_three min_three max_four min_four 
set_option linter.unusedVariables false
set_option linter.unusedSimpArgs false
end Go.Proofs.YtaembebbaejfiaaGreatDoor.PS
namespace Go.Proofs.YtaembebbaejfiaaGreatDoor.Tr
open Go.RowKit Go.Proofs.YtaembebbaejfiaaGreatDoorW.PrintWords Go.Proofs.YtaembebbaejfiaaGreatDoorW.PrintLast Go.Proofs.YtaembebbaejfiaaGreatDoor.Str Go.Proofs.YtaembebbaejfiaaGreatDoor.Kit Go.Proofs.YtaembebbaejfiaaGreatDoor.MapV Go.Proofs.YtaembebbaejfiaaGreatDoor.Frame Go.Proofs.YtaembebbaejfiaaGreatDoor.PS
open Go.Proofs.YtaembebbaejfiaaGreatDoor.Val (place placeI placeB placeI_hit placeI_end)
set_option linter.unusedVariables false
set_option linter.unusedSimpArgs false
def TextIn (x : VS) : Prop := x.f2.size < 4611686018427387904
end Go.Proofs.YtaembebbaejfiaaGreatDoor.Tr
namespace Go.Proofs.YtaembebbaejfiaaGreatDoor.PS
open Go.RowKit Go.Proofs.YtaembebbaejfiaaGreatDoorW.PrintWords Go.Proofs.YtaembebbaejfiaaGreatDoorW.PrintLast Go.Proofs.YtaembebbaejfiaaGreatDoorW.PrintMore
attribute [local go_sem] max2_int min2_int max_two min_two max_three min_three max_four min_four 
set_option linter.unusedVariables false
set_option linter.unusedSimpArgs false
theorem sayWordisE_ (l : List UInt8) : l.isEmpty = (l == []) := by cases l <;> rfl
theorem nsayWordisE_ (l : List UInt8) : (!l.isEmpty) = (l != []) := by cases l <;> rfl
def spec_sayWord.l0 : Nat → ByteArray → Int → Option (Bool)
 | 0, _, _ => none
 | k + 1, x0, x3 => if x3 < (x0.size : Int) then (if 0 ≤ x3 then (if (bt x0 x3) < 33 then (some false) else (if (bt x0 x3) > 126 then (some false) else ((spec_sayIn.f k (strOfNums (([bt x0 x3] : List Int))) (([(⟨#[61]⟩ : ByteArray), (⟨#[36]⟩ : ByteArray), (⟨#[58]⟩ : ByteArray), (⟨#[34]⟩ : ByteArray), (⟨#[39]⟩ : ByteArray), (⟨#[92]⟩ : ByteArray), (⟨#[126]⟩ : ByteArray)] : List ByteArray))).bind fun t216 => (if t216 = true then (some false) else (spec_sayWord.l0 k x0 (wrap64 (x3 + 1))))))) else (none)) else (some (x0.toList != ([] : List UInt8)))
def spec_sayWord.f (k : Nat) (a0 : ByteArray) : Option (Bool) := spec_sayWord.l0 k a0 0
set_option maxHeartbeats 8000000 in
set_option maxRecDepth 100000 in
theorem spec_sayWord.calls (k : Nat) (a0 : ByteArray) (r : Bool) (w : World) (h : spec_sayWord.f k a0 = some r) :
  Calls Tryz.prog 28 #[.string a0] w fun e w' => e = .returned (.bool r) ∧ Below w.heap.size w w' := by
 have HB := aM (Below.refl w.heap.size w)
 have H : (spec_sayWord.l0 k a0 0) = some r := h
 clear h
 have H' := aM H
 clear H
 go_enter Tryz.func28, Tryz.ntmps28
 go_wp2
 go_loopg [3] k (fun kq v3 w' => ∃ (x3_1 : Int), v3 = .int .i64 x3_1 ∧ Aside0 (spec_sayWord.l0 kq a0 x3_1 = some r) ∧ Aside0 (kq ≤ k) ∧ Aside0 (Below w.heap.size w w'))
 case atStart => exact ⟨(0), (by first | rfl | (simp; done) | (simp [*]; done)), H', ⟨Nat.le_refl _⟩, ⟨by repeat (first | (with_reducible first | exact HB.out | apply below_alloc | apply pw_below_drewN | apply below_drew1) | exact HB.out)⟩⟩
 case round =>
  clear H'
  obtain ⟨x3_1, rfl, HA, HK1, HB⟩ := hrel
  cases gk with
  | zero => exact absurd HA.out (by simp [spec_sayWord.l0])
  | succ k1 =>
   have H := HA.out
   clear HA
   simp only [spec_sayWord.l0] at H
   by_cases c2 : x3_1 < (a0.size : Int)
   ·rw [if_pos c2] at H
    have c2b0 : decide (x3_1 < (a0.size : Int)) = true := decide_eq_true c2
    clear c2
    by_cases c3 : 0 ≤ x3_1
    ·rw [if_pos c3] at H
     have c3b0 : decide (0 ≤ x3_1) = true := decide_eq_true c3
     clear c3
     by_cases c5 : (bt a0 x3_1) < 33
     ·rw [if_pos c5] at H
      have c5b0 : decide ((bt a0 x3_1) < 33) = true := decide_eq_true c5
      clear c5
      obtain rfl := Option.some.inj H
      have p4 : 0 ≤ (x3_1 : Int) := of_decide_eq_true (by first | (with_reducible assumption) | assumption)
      have q4 : x3_1 < (a0.size : Int) := of_decide_eq_true (by first | (with_reducible assumption) | assumption)
      have hx4 := bt_at a0 x3_1
      replace p4 := eq_true p4
      replace q4 := eq_true q4
      go_wp2
      go_ret
      exact ⟨by first | rfl | (simp [errW_none, errW_some] <;> rfl) | (simp [*, errW_none, errW_some] <;> rfl) | (refine congrArg (fun b_ => Ending.returned (.bool b_)) ?_; exact sayWordisE_ _) | (refine congrArg (fun b_ => Ending.returned (.bool b_)) ?_; exact nsayWordisE_ _), by repeat (first | (with_reducible first | exact HB.out | apply below_alloc | apply pw_below_drewN | apply below_drew1) | exact HB.out)⟩
     ·rw [if_neg c5] at H
      have c5b0 : decide ((bt a0 x3_1) < 33) = false := decide_eq_false c5
      clear c5
      by_cases c6 : (bt a0 x3_1) > 126
      ·rw [if_pos c6] at H
       have c6b0 : decide (126 < (bt a0 x3_1)) = true := decide_eq_true c6
       clear c6
       obtain rfl := Option.some.inj H
       have p4 : 0 ≤ (x3_1 : Int) := of_decide_eq_true (by first | (with_reducible assumption) | assumption)
       have q4 : x3_1 < (a0.size : Int) := of_decide_eq_true (by first | (with_reducible assumption) | assumption)
       have hx4 := bt_at a0 x3_1
       replace p4 := eq_true p4
       replace q4 := eq_true q4
       go_wp2
       go_ret
       exact ⟨by first | rfl | (simp [errW_none, errW_some] <;> rfl) | (simp [*, errW_none, errW_some] <;> rfl) | (refine congrArg (fun b_ => Ending.returned (.bool b_)) ?_; exact sayWordisE_ _) | (refine congrArg (fun b_ => Ending.returned (.bool b_)) ?_; exact nsayWordisE_ _), by repeat (first | (with_reducible first | exact HB.out | apply below_alloc | apply pw_below_drewN | apply below_drew1) | exact HB.out)⟩
      ·rw [if_neg c6] at H
       have c6b0 : decide (126 < (bt a0 x3_1)) = false := decide_eq_false c6
       clear c6
       obtain ⟨y210, hy210⟩ : ∃ y_ : List Int, y_ = (([bt a0 x3_1] : List Int)) := ⟨_, rfl⟩
       replace H : ((spec_sayIn.f k1 (strOfNums y210) (([(⟨#[61]⟩ : ByteArray), (⟨#[36]⟩ : ByteArray), (⟨#[58]⟩ : ByteArray), (⟨#[34]⟩ : ByteArray), (⟨#[39]⟩ : ByteArray), (⟨#[92]⟩ : ByteArray), (⟨#[126]⟩ : ByteArray)] : List ByteArray))).bind fun t216 => (if t216 = true then (some false) else (spec_sayWord.l0 k1 a0 (wrap64 (x3_1 + 1))))) = some r := by first | (rw [hy210]; with_reducible exact H) | (have H2_ := (Option.bind_some _ _).symm.trans H; rw [hy210]; with_reducible exact H2_) | (have H2_ := (Option.bind_some _ _).symm.trans H; with_reducible exact H2_) | with_reducible exact H | (rw [hy210]; exact H) | exact H
       have Ny210 := aM hy210
       clear hy210
       obtain ⟨y213, hy213⟩ : ∃ y_ : List ByteArray, y_ = (([(⟨#[61]⟩ : ByteArray), (⟨#[36]⟩ : ByteArray), (⟨#[58]⟩ : ByteArray), (⟨#[34]⟩ : ByteArray), (⟨#[39]⟩ : ByteArray), (⟨#[92]⟩ : ByteArray), (⟨#[126]⟩ : ByteArray)] : List ByteArray)) := ⟨_, rfl⟩
       replace H : ((spec_sayIn.f k1 (strOfNums y210) y213).bind fun t216 => (if t216 = true then (some false) else (spec_sayWord.l0 k1 a0 (wrap64 (x3_1 + 1))))) = some r := by first | (rw [hy213]; with_reducible exact H) | (have H2_ := (Option.bind_some _ _).symm.trans H; rw [hy213]; with_reducible exact H2_) | (have H2_ := (Option.bind_some _ _).symm.trans H; with_reducible exact H2_) | with_reducible exact H | (rw [hy213]; exact H) | exact H
       have Ny213 := aM hy213
       clear hy213
       replace H := Option.bind_eq_some_iff.mp H
       obtain ⟨t216, A70, H⟩ := H
       replace H : (if t216 = true then (some false) else (spec_sayWord.l0 k1 a0 (wrap64 (x3_1 + 1)))) = some r := H
       have A7 := aM A70
       clear A70
       by_cases c8 : t216 = true
       ·subst c8
        have H1 : (some false) = some r := by rw [if_pos rfl] at H; exact H
        clear H
        have H := H1
        clear H1
        obtain rfl := Option.some.inj H
        have p4 : 0 ≤ (x3_1 : Int) := of_decide_eq_true (by first | (with_reducible assumption) | assumption)
        have q4 : x3_1 < (a0.size : Int) := of_decide_eq_true (by first | (with_reducible assumption) | assumption)
        have hx4 := bt_at a0 x3_1
        replace p4 := eq_true p4
        replace q4 := eq_true q4
        go_wp2_with (first | ((with_reducible refine gate_dst (N := 22) rfl ?_); (try (refine gate_guard (by rfl) ?_; dsimp only)); refine Kd.R_lit (Kd.int .u8) _ 5 ?hg (N := 22) ?hd (xs := ([bt a0 x3_1] : List Int)) (inner := [.int .u8 (bt a0 x3_1)]) (ok := fun _ => True) (okp := fun _ => True) ?hr ?hp (fun _ hk => hk) trivial (Below.refl _ _) (Nat.le_refl _) (by simp) ?_; (case hd => rfl); (case hg => rfl); (case hr => first | (go_simp; done) | (go_simp; rfl)); (case hp => exact (Reps.one (show Kd.M (Kd.int .u8) _ _ _ (bt a0 x3_1) [.int .u8 (bt a0 x3_1)] from rfl) (Reps.none _ _))); intro v211 w9 ho10 hb hg_ hnew_; clear hg_ hnew_; (first | rw [← Ny210.out] at ho10 | (simp only [Int.reduceToNat] at ho10; rw [← Ny210.out] at ho10)); have n0_ := aM (Kd.R_lower ho10 (below_size (by repeat (first | (with_reducible first | exact HB.out | apply below_alloc | apply pw_below_drewN | apply below_drew1) | exact HB.out)))); have n1_ := aM (below_step (by repeat (first | (with_reducible first | exact HB.out | apply below_alloc | apply pw_below_drewN | apply below_drew1) | exact HB.out)) hb); clear HB; have HO212 := n0_; have HB := n1_; clear n0_ n1_; clear hb ho10; have hcv11 := own_string (P := Tryz.prog) Tryz.underlying67 Tryz.underlying5 Tryz.underlying9 (Kd.own_of_R HO212.out)) | ((with_reducible refine gate_dst (N := 24) rfl ?_); (try (refine gate_guard (by rfl) ?_; dsimp only)); refine Kd.R_lit Kd.string _ 9 ?hg (N := 24) ?hd (xs := ([(⟨#[61]⟩ : ByteArray), (⟨#[36]⟩ : ByteArray), (⟨#[58]⟩ : ByteArray), (⟨#[34]⟩ : ByteArray), (⟨#[39]⟩ : ByteArray), (⟨#[92]⟩ : ByteArray), (⟨#[126]⟩ : ByteArray)] : List ByteArray)) (inner := [.string (⟨#[61]⟩ : ByteArray), .string (⟨#[36]⟩ : ByteArray), .string (⟨#[58]⟩ : ByteArray), .string (⟨#[34]⟩ : ByteArray), .string (⟨#[39]⟩ : ByteArray), .string (⟨#[92]⟩ : ByteArray), .string (⟨#[126]⟩ : ByteArray)]) (ok := fun _ => True) (okp := fun _ => True) ?hr ?hp (fun _ hk => hk) trivial (Below.refl _ _) (Nat.le_refl _) (by simp) ?_; (case hd => rfl); (case hg => rfl); (case hr => first | (go_simp; done) | (go_simp; rfl)); (case hp => exact (Reps.one (show Kd.M Kd.string _ _ _ (⟨#[61]⟩ : ByteArray) [.string (⟨#[61]⟩ : ByteArray)] from rfl) (Reps.one (show Kd.M Kd.string _ _ _ (⟨#[36]⟩ : ByteArray) [.string (⟨#[36]⟩ : ByteArray)] from rfl) (Reps.one (show Kd.M Kd.string _ _ _ (⟨#[58]⟩ : ByteArray) [.string (⟨#[58]⟩ : ByteArray)] from rfl) (Reps.one (show Kd.M Kd.string _ _ _ (⟨#[34]⟩ : ByteArray) [.string (⟨#[34]⟩ : ByteArray)] from rfl) (Reps.one (show Kd.M Kd.string _ _ _ (⟨#[39]⟩ : ByteArray) [.string (⟨#[39]⟩ : ByteArray)] from rfl) (Reps.one (show Kd.M Kd.string _ _ _ (⟨#[92]⟩ : ByteArray) [.string (⟨#[92]⟩ : ByteArray)] from rfl) (Reps.one (show Kd.M Kd.string _ _ _ (⟨#[126]⟩ : ByteArray) [.string (⟨#[126]⟩ : ByteArray)] from rfl) (Reps.none _ _))))))))); intro v214 w12 ho13 hb hg_ hnew_; clear hg_ hnew_; (first | rw [← Ny213.out] at ho13 | (simp only [Int.reduceToNat] at ho13; rw [← Ny213.out] at ho13)); have n0_ := aM (Kd.R_below (by (with_reducible repeat (first | apply Kd.R_alloc | apply Kd.R_drewN | apply Kd.R_drew)); exact HO212.out) hb); have n1_ := aM (Kd.R_lower ho13 (below_size (by repeat (first | (with_reducible first | exact HB.out | apply below_alloc | apply pw_below_drewN | apply below_drew1) | exact HB.out)))); have n2_ := aM (below_step (by repeat (first | (with_reducible first | exact HB.out | apply below_alloc | apply pw_below_drewN | apply below_drew1) | exact HB.out)) hb); clear HO212; clear HB; have HO212 := n0_; have HO215 := n1_; have HB := n2_; clear n0_ n1_ n2_; clear hb ho13; obtain ⟨Ao14, co14, eo14⟩ := Kd.R_slice HO215.out; subst eo14) | (go_at_call 31; (with_reducible refine (spec_sayIn.calls k1 (strOfNums y210) _ _ y213 true _ ?side1 ?side2 A7.out).mono ?_); (case side1 => repeat (first | exact (Kd.R_reads' HO215.out).2.2 | (with_reducible refine Kd.C_alloc ?_ _) | (with_reducible refine Kd.C_drewN ?_ _) | (with_reducible refine Kd.C_drew ?_))); (case side2 => exact (Kd.R_reads' HO215.out).2.1); rintro e w' ⟨rfl, ⟨nd, rfl⟩⟩))
        go_ret
        exact ⟨by first | rfl | (simp [errW_none, errW_some] <;> rfl) | (simp [*, errW_none, errW_some] <;> rfl) | (refine congrArg (fun b_ => Ending.returned (.bool b_)) ?_; exact sayWordisE_ _) | (refine congrArg (fun b_ => Ending.returned (.bool b_)) ?_; exact nsayWordisE_ _), by repeat (first | (with_reducible first | exact HB.out | apply below_alloc | apply pw_below_drewN | apply below_drew1) | exact HB.out)⟩
       ·replace c8 := Bool.eq_false_iff.mpr c8
        subst c8
        have H1 : (spec_sayWord.l0 k1 a0 (wrap64 (x3_1 + 1))) = some r := by rw [if_neg (show ¬ (false = true) by decide)] at H; exact H
        clear H
        have H := H1
        clear H1
        have H' := aM H
        clear H
        have p4 : 0 ≤ (x3_1 : Int) := of_decide_eq_true (by first | (with_reducible assumption) | assumption)
        have q4 : x3_1 < (a0.size : Int) := of_decide_eq_true (by first | (with_reducible assumption) | assumption)
        have hx4 := bt_at a0 x3_1
        replace p4 := eq_true p4
        replace q4 := eq_true q4
        go_wp2_with (first | ((with_reducible refine gate_dst (N := 22) rfl ?_); (try (refine gate_guard (by rfl) ?_; dsimp only)); refine Kd.R_lit (Kd.int .u8) _ 5 ?hg (N := 22) ?hd (xs := ([bt a0 x3_1] : List Int)) (inner := [.int .u8 (bt a0 x3_1)]) (ok := fun _ => True) (okp := fun _ => True) ?hr ?hp (fun _ hk => hk) trivial (Below.refl _ _) (Nat.le_refl _) (by simp) ?_; (case hd => rfl); (case hg => rfl); (case hr => first | (go_simp; done) | (go_simp; rfl)); (case hp => exact (Reps.one (show Kd.M (Kd.int .u8) _ _ _ (bt a0 x3_1) [.int .u8 (bt a0 x3_1)] from rfl) (Reps.none _ _))); intro v211 w15 ho16 hb hg_ hnew_; clear hg_ hnew_; (first | rw [← Ny210.out] at ho16 | (simp only [Int.reduceToNat] at ho16; rw [← Ny210.out] at ho16)); have n0_ := aM (Kd.R_lower ho16 (below_size (by repeat (first | (with_reducible first | exact HB.out | apply below_alloc | apply pw_below_drewN | apply below_drew1) | exact HB.out)))); have n1_ := aM (below_step (by repeat (first | (with_reducible first | exact HB.out | apply below_alloc | apply pw_below_drewN | apply below_drew1) | exact HB.out)) hb); clear HB; have HO212 := n0_; have HB := n1_; clear n0_ n1_; clear hb ho16; have hcv17 := own_string (P := Tryz.prog) Tryz.underlying67 Tryz.underlying5 Tryz.underlying9 (Kd.own_of_R HO212.out)) | ((with_reducible refine gate_dst (N := 24) rfl ?_); (try (refine gate_guard (by rfl) ?_; dsimp only)); refine Kd.R_lit Kd.string _ 9 ?hg (N := 24) ?hd (xs := ([(⟨#[61]⟩ : ByteArray), (⟨#[36]⟩ : ByteArray), (⟨#[58]⟩ : ByteArray), (⟨#[34]⟩ : ByteArray), (⟨#[39]⟩ : ByteArray), (⟨#[92]⟩ : ByteArray), (⟨#[126]⟩ : ByteArray)] : List ByteArray)) (inner := [.string (⟨#[61]⟩ : ByteArray), .string (⟨#[36]⟩ : ByteArray), .string (⟨#[58]⟩ : ByteArray), .string (⟨#[34]⟩ : ByteArray), .string (⟨#[39]⟩ : ByteArray), .string (⟨#[92]⟩ : ByteArray), .string (⟨#[126]⟩ : ByteArray)]) (ok := fun _ => True) (okp := fun _ => True) ?hr ?hp (fun _ hk => hk) trivial (Below.refl _ _) (Nat.le_refl _) (by simp) ?_; (case hd => rfl); (case hg => rfl); (case hr => first | (go_simp; done) | (go_simp; rfl)); (case hp => exact (Reps.one (show Kd.M Kd.string _ _ _ (⟨#[61]⟩ : ByteArray) [.string (⟨#[61]⟩ : ByteArray)] from rfl) (Reps.one (show Kd.M Kd.string _ _ _ (⟨#[36]⟩ : ByteArray) [.string (⟨#[36]⟩ : ByteArray)] from rfl) (Reps.one (show Kd.M Kd.string _ _ _ (⟨#[58]⟩ : ByteArray) [.string (⟨#[58]⟩ : ByteArray)] from rfl) (Reps.one (show Kd.M Kd.string _ _ _ (⟨#[34]⟩ : ByteArray) [.string (⟨#[34]⟩ : ByteArray)] from rfl) (Reps.one (show Kd.M Kd.string _ _ _ (⟨#[39]⟩ : ByteArray) [.string (⟨#[39]⟩ : ByteArray)] from rfl) (Reps.one (show Kd.M Kd.string _ _ _ (⟨#[92]⟩ : ByteArray) [.string (⟨#[92]⟩ : ByteArray)] from rfl) (Reps.one (show Kd.M Kd.string _ _ _ (⟨#[126]⟩ : ByteArray) [.string (⟨#[126]⟩ : ByteArray)] from rfl) (Reps.none _ _))))))))); intro v214 w18 ho19 hb hg_ hnew_; clear hg_ hnew_; (first | rw [← Ny213.out] at ho19 | (simp only [Int.reduceToNat] at ho19; rw [← Ny213.out] at ho19)); have n0_ := aM (Kd.R_below (by (with_reducible repeat (first | apply Kd.R_alloc | apply Kd.R_drewN | apply Kd.R_drew)); exact HO212.out) hb); have n1_ := aM (Kd.R_lower ho19 (below_size (by repeat (first | (with_reducible first | exact HB.out | apply below_alloc | apply pw_below_drewN | apply below_drew1) | exact HB.out)))); have n2_ := aM (below_step (by repeat (first | (with_reducible first | exact HB.out | apply below_alloc | apply pw_below_drewN | apply below_drew1) | exact HB.out)) hb); clear HO212; clear HB; have HO212 := n0_; have HO215 := n1_; have HB := n2_; clear n0_ n1_ n2_; clear hb ho19; obtain ⟨Ao20, co20, eo20⟩ := Kd.R_slice HO215.out; subst eo20) | (go_at_call 31; (with_reducible refine (spec_sayIn.calls k1 (strOfNums y210) _ _ y213 false _ ?side1 ?side2 A7.out).mono ?_); (case side1 => repeat (first | exact (Kd.R_reads' HO215.out).2.2 | (with_reducible refine Kd.C_alloc ?_ _) | (with_reducible refine Kd.C_drewN ?_ _) | (with_reducible refine Kd.C_drew ?_))); (case side2 => exact (Kd.R_reads' HO215.out).2.1); rintro e w' ⟨rfl, ⟨nd, rfl⟩⟩))
        go_roundg k1
        case measure => have := HK1.out; omega
        case rel => exact ⟨(wrap64 (x3_1 + 1)), (by first | rfl | (simp; done) | (simp [*]; done)), H', ⟨by have := HK1.out; omega⟩, ⟨by repeat (first | (with_reducible first | exact HB.out | apply below_alloc | apply pw_below_drewN | apply below_drew1) | exact HB.out)⟩⟩
    ·rw [if_neg c3] at H
     exact absurd H (by simp)
   ·rw [if_neg c2] at H
    have c2b0 : decide (x3_1 < (a0.size : Int)) = false := decide_eq_false c2
    clear c2
    obtain rfl := Option.some.inj H
    go_wp2
    go_ret
    exact ⟨by first | rfl | (simp [errW_none, errW_some] <;> rfl) | (simp [*, errW_none, errW_some] <;> rfl) | (refine congrArg (fun b_ => Ending.returned (.bool b_)) ?_; exact sayWordisE_ _) | (refine congrArg (fun b_ => Ending.returned (.bool b_)) ?_; exact nsayWordisE_ _), by repeat (first | (with_reducible first | exact HB.out | apply below_alloc | apply pw_below_drewN | apply below_drew1) | exact HB.out)⟩
end Go.Proofs.YtaembebbaejfiaaGreatDoor.PS
namespace Go.Proofs.YtaembebbaejfiaaGreatDoor.PS
open Go.RowKit Go.Proofs.YtaembebbaejfiaaGreatDoorW.PrintWords Go.Proofs.YtaembebbaejfiaaGreatDoorW.PrintLast Go.Proofs.YtaembebbaejfiaaGreatDoorW.PrintMore
attribute [local go_sem] max2_int min2_int max_two min_two max_three min_three max_four min_four 
set_option linter.unusedVariables false
set_option linter.unusedSimpArgs false
end Go.Proofs.YtaembebbaejfiaaGreatDoor.PS
namespace Go.Proofs.YtaembebbaejfiaaGreatDoor.Tr
open Go.RowKit Go.Proofs.YtaembebbaejfiaaGreatDoorW.PrintWords Go.Proofs.YtaembebbaejfiaaGreatDoorW.PrintLast Go.Proofs.YtaembebbaejfiaaGreatDoor.Str Go.Proofs.YtaembebbaejfiaaGreatDoor.Kit Go.Proofs.YtaembebbaejfiaaGreatDoor.MapV Go.Proofs.YtaembebbaejfiaaGreatDoor.Frame Go.Proofs.YtaembebbaejfiaaGreatDoor.PS
open Go.Proofs.YtaembebbaejfiaaGreatDoor.Val (place placeI placeB placeI_hit placeI_end)
set_option linter.unusedVariables false
set_option linter.unusedSimpArgs false
theorem ends_sayWord_l (s : BA) (hs : s.size < 4611686018427387904) : ∀ (d i : Nat), i + d = s.size → Ends (fun _ => True) (fun k => spec_sayWord.l0 k s (i : Int)) := by
 intro d
 induction d with
 | zero =>
  intro i hi
  refine Ends.step (fun k => by simp only [spec_sayWord.l0]; rfl) ?_
  exact Ends.no (by omega) (Ends.now trivial)
 | succ d ih =>
  intro i hi
  have hn := ih (i + 1) (by omega)
  refine Ends.step (fun k => by simp only [spec_sayWord.l0]; rfl) ?_
  rw [wrapS i (by omega)]
  refine Ends.yes (by omega) (Ends.yes (by omega) ?_)
  repeat' first
   | exact hn
   | exact Ends.now trivial
   | (refine Ends.bindEv (ev_sayIn _ _ (by simp)) ?_)
   | (refine Ends.ite (fun _ => ?_) (fun _ => ?_))
theorem ends_sayWord (s : BA) (hs : s.size < 4611686018427387904) : Ends (fun _ => True) (fun k => spec_sayWord.f k s) := ends_sayWord_l s hs s.size 0 (by omega)
end Go.Proofs.YtaembebbaejfiaaGreatDoor.Tr
namespace Go.Proofs.YtaembebbaejfiaaGreatDoor.PS
open Go.RowKit Go.Proofs.YtaembebbaejfiaaGreatDoorW.PrintWords Go.Proofs.YtaembebbaejfiaaGreatDoorW.PrintLast Go.Proofs.YtaembebbaejfiaaGreatDoorW.PrintMore
attribute [local go_sem] max2_int min2_int max_two min_two max_three min_three max_four min_four 
set_option linter.unusedVariables false
set_option linter.unusedSimpArgs false
def spec_sayText.f (k : Nat) (a0_0 : Int) (a0_1 : Int) (a0_2 : ByteArray) (l0_3 : List ByteArray) (l0_4 : List (S25)) : Option (Bool) := if a0_0 = 3 then ((spec_sayWord.f k a0_2).bind fun t218 => (some t218)) else (some false)
set_option maxHeartbeats 8000000 in
set_option maxRecDepth 100000 in
theorem spec_sayText.calls (k : Nat) (a0_0 : Int) (a0_1 : Int) (a0_2 : ByteArray) (A0_3 : Option Addr) (c0_3 : Nat) (l0_3 : List ByteArray) (A0_4 : Option Addr) (c0_4 : Nat) (l0_4 : List (S25)) (r : Bool) (w : World) (hr0_3 : Kd.C Kd.string w A0_3 l0_3.length l0_3) (hc0_3 : l0_3.length ≤ c0_3) (hr0_4 : Kd.C k25 w A0_4 l0_4.length l0_4) (hc0_4 : l0_4.length ≤ c0_4) (h : spec_sayText.f k a0_0 a0_1 a0_2 l0_3 l0_4 = some r) :
  Calls Tryz.prog 32 #[.agg #[.int .i64 a0_0, .int .i64 a0_1, .string a0_2, .slice A0_3 l0_3.length c0_3, .slice A0_4 l0_4.length c0_4]] w fun e w' => e = .returned (.bool r) ∧ Below w.heap.size w w' := by
 have hu25 := Tryz.underlying25
 have HR0_3 := aM hr0_3
 have HC0_3 := aM hc0_3
 clear hr0_3 hc0_3
 have HR0_4 := aM hr0_4
 have HC0_4 := aM hc0_4
 clear hr0_4 hc0_4
 have HB := aM (Below.refl w.heap.size w)
 have H : (if a0_0 = 3 then ((spec_sayWord.f k a0_2).bind fun t218 => (some t218)) else (some false)) = some r := h
 clear h
 by_cases c2 : a0_0 = 3
 ·rw [if_pos c2] at H
  have c2b0 : (a0_0 == 3) = true := beq_iff_eq.mpr c2
  have c2b1 : (a0_0 != 3) = false := bne_eq_false_iff_eq.mpr c2
  clear c2
  replace H := Option.bind_eq_some_iff.mp H
  obtain ⟨t218, A30, H⟩ := H
  replace H : (some t218) = some r := H
  have A3 := aM A30
  clear A30
  obtain rfl := Option.some.inj H
  go_enter Tryz.func32, Tryz.ntmps32
  go_wp2_with (first | ((with_reducible refine gate_dst (N := 1) rfl ?_); refine box_event ?hg (N := 1) ?hd (cs := #[.int .i64 a0_0, .int .i64 a0_1, .string a0_2, .slice A0_3 l0_3.length c0_3, .slice A0_4 l0_4.length c0_4]) (t := 25) ?hr ?_; (case hd => rfl); (case hg => rfl); (case hr => first | (go_simp; done) | (go_simp; rfl)); intro gb217 hg w4 hbox hb; have n0_ := aM (below_step (by repeat (first | (with_reducible first | exact HB.out | apply below_alloc | apply pw_below_drewN | apply below_drew1) | exact HB.out)) hb); have n1_ := aM (hbox); have n2_ := aM ((by rw [hg]; exact (below_size (by repeat (first | (with_reducible first | exact HB.out | apply below_alloc | apply pw_below_drewN | apply below_drew1) | exact HB.out))) : w.heap.size ≤ gb217)); have n3_ := aM ((by rw [hg]; exact (below_size (by repeat (first | (with_reducible first | exact HB.out | apply below_alloc | apply pw_below_drewN | apply below_drew1) | exact HB.out))) : w.heap.size ≤ gb217)); clear HB; have HB := n0_; have BK217 := n1_; have GW217 := n2_; have GE217 := n3_; clear n0_ n1_ n2_ n3_; clear hb hbox hg; have hcz5_0 : w4.cell? ⟨gb217, 0, none⟩ = some (.int .i64 a0_0) := (blk_cell BK217.out 0).trans rfl; have hcz5_1 : w4.cell? ⟨gb217, 1, none⟩ = some (.int .i64 a0_1) := (blk_cell BK217.out 1).trans rfl; have hcz5_2 : w4.cell? ⟨gb217, 2, none⟩ = some (.string a0_2) := (blk_cell BK217.out 2).trans rfl; have hcz5_3 : w4.cell? ⟨gb217, 3, none⟩ = some (.slice A0_3 l0_3.length c0_3) := (blk_cell BK217.out 3).trans rfl; have hcz5_4 : w4.cell? ⟨gb217, 4, none⟩ = some (.slice A0_4 l0_4.length c0_4) := (blk_cell BK217.out 4).trans rfl; have hfz5_0 := blk_frozen BK217.out 0; have hfz5_1 := blk_frozen BK217.out 1; have hfz5_2 := blk_frozen BK217.out 2; have hfz5_3 := blk_frozen BK217.out 3; have hfz5_4 := blk_frozen BK217.out 4) | (go_at_call 28; (with_reducible refine (spec_sayWord.calls k a0_2 t218 _ A3.out).mono ?_); rintro e w6 ⟨rfl, hb⟩; have n0_ := aM (blk_below (g := gb217) (o := .cells #[.int .i64 a0_0, .int .i64 a0_1, .string a0_2, .slice A0_3 l0_3.length c0_3, .slice A0_4 l0_4.length c0_4] 25 (0, 0)) (by (with_reducible repeat (first | refine blk_drewN ?_ _ | refine blk_drew ?_ | refine blk_alloc ?_ _)); exact BK217.out) hb); have n1_ := aM (below_step (by repeat (first | (with_reducible first | exact HB.out | apply below_alloc | apply pw_below_drewN | apply below_drew1 | refine below_set ?_ GE217.out) | exact HB.out)) hb); clear BK217; clear HB; have BK217 := n0_; have HB := n1_; clear n0_ n1_; (try clear hb); (try clear hb2); (try clear hk); (try clear hi)))
  go_ret
  exact ⟨by first | rfl | (simp [errW_none, errW_some] <;> rfl) | (simp [*, errW_none, errW_some] <;> rfl), by repeat (first | (with_reducible first | exact HB.out | apply below_alloc | apply pw_below_drewN | apply below_drew1 | refine below_set ?_ GE217.out) | exact HB.out)⟩
 ·rw [if_neg c2] at H
  have c2b0 : (a0_0 == 3) = false := beq_eq_false_iff_ne.mpr c2
  have c2b1 : (a0_0 != 3) = true := bne_iff_ne.mpr c2
  obtain rfl := Option.some.inj H
  go_enter Tryz.func32, Tryz.ntmps32
  go_wp2_with (first | ((with_reducible refine gate_dst (N := 1) rfl ?_); refine box_event ?hg (N := 1) ?hd (cs := #[.int .i64 a0_0, .int .i64 a0_1, .string a0_2, .slice A0_3 l0_3.length c0_3, .slice A0_4 l0_4.length c0_4]) (t := 25) ?hr ?_; (case hd => rfl); (case hg => rfl); (case hr => first | (go_simp; done) | (go_simp; rfl)); intro gb217 hg w7 hbox hb; have n0_ := aM (below_step (by repeat (first | (with_reducible first | exact HB.out | apply below_alloc | apply pw_below_drewN | apply below_drew1) | exact HB.out)) hb); have n1_ := aM (hbox); have n2_ := aM ((by rw [hg]; exact (below_size (by repeat (first | (with_reducible first | exact HB.out | apply below_alloc | apply pw_below_drewN | apply below_drew1) | exact HB.out))) : w.heap.size ≤ gb217)); have n3_ := aM ((by rw [hg]; exact (below_size (by repeat (first | (with_reducible first | exact HB.out | apply below_alloc | apply pw_below_drewN | apply below_drew1) | exact HB.out))) : w.heap.size ≤ gb217)); clear HB; have HB := n0_; have BK217 := n1_; have GW217 := n2_; have GE217 := n3_; clear n0_ n1_ n2_ n3_; clear hb hbox hg; have hcz8_0 : w7.cell? ⟨gb217, 0, none⟩ = some (.int .i64 a0_0) := (blk_cell BK217.out 0).trans rfl; have hcz8_1 : w7.cell? ⟨gb217, 1, none⟩ = some (.int .i64 a0_1) := (blk_cell BK217.out 1).trans rfl; have hcz8_2 : w7.cell? ⟨gb217, 2, none⟩ = some (.string a0_2) := (blk_cell BK217.out 2).trans rfl; have hcz8_3 : w7.cell? ⟨gb217, 3, none⟩ = some (.slice A0_3 l0_3.length c0_3) := (blk_cell BK217.out 3).trans rfl; have hcz8_4 : w7.cell? ⟨gb217, 4, none⟩ = some (.slice A0_4 l0_4.length c0_4) := (blk_cell BK217.out 4).trans rfl; have hfz8_0 := blk_frozen BK217.out 0; have hfz8_1 := blk_frozen BK217.out 1; have hfz8_2 := blk_frozen BK217.out 2; have hfz8_3 := blk_frozen BK217.out 3; have hfz8_4 := blk_frozen BK217.out 4))
  go_ret
  exact ⟨by first | rfl | (simp [errW_none, errW_some] <;> rfl) | (simp [*, errW_none, errW_some] <;> rfl), by repeat (first | (with_reducible first | exact HB.out | apply below_alloc | apply pw_below_drewN | apply below_drew1 | refine below_set ?_ GE217.out) | exact HB.out)⟩
end Go.Proofs.YtaembebbaejfiaaGreatDoor.PS
namespace Go.Proofs.YtaembebbaejfiaaGreatDoor.PS
open Go.RowKit Go.Proofs.YtaembebbaejfiaaGreatDoorW.PrintWords Go.Proofs.YtaembebbaejfiaaGreatDoorW.PrintLast Go.Proofs.YtaembebbaejfiaaGreatDoorW.PrintMore
attribute [local go_sem] max2_int min2_int max_two min_two max_three min_three max_four min_four 
set_option linter.unusedVariables false
set_option linter.unusedSimpArgs false
def spec_sayKnown.l0 : Nat → List ByteArray → List ByteArray → Int → Int → Int → ByteArray → List ByteArray → List (S25) → Option (Bool)
 | 0, _, _, _, _, _, _, _, _ => none
 | k + 1, x1, x2, x7, x262000, x262001, x262002, x262003, x262004 => if x7 < (x262003.length : Int) then (if 0 ≤ x7 then ((spec_sayIn.f k (rdOf ByteArray.empty x262003 x7) x1).bind fun t263 => (if t263 = true then (if x7 < (x262004.length : Int) then ((spec_sayText.f k ((rd_T25 x262004 x7).f0) ((rd_T25 x262004 x7).f1) ((rd_T25 x262004 x7).f2) ((rd_T25 x262004 x7).f3) ((rd_T25 x262004 x7).f4)).bind fun t265 => (if t265 = true then (spec_sayKnown.l0 k x1 x2 (wrap64 (x7 + 1)) x262000 x262001 x262002 x262003 x262004) else ((spec_sayIn.f k (rdOf ByteArray.empty x262003 x7) x2).bind fun t267 => (if t267 = true then (if (((rd_T25 x262004 x7).f0) = 1) then (spec_sayKnown.l0 k x1 x2 (wrap64 (x7 + 1)) x262000 x262001 x262002 x262003 x262004) else (some false)) else (some false))))) else (none)) else ((spec_sayIn.f k (rdOf ByteArray.empty x262003 x7) x2).bind fun t270 => (if t270 = true then (if x7 < (x262004.length : Int) then (if (((rd_T25 x262004 x7).f0) = 1) then (spec_sayKnown.l0 k x1 x2 (wrap64 (x7 + 1)) x262000 x262001 x262002 x262003 x262004) else (some false)) else (none)) else (some false))))) else (none)) else (if x262000 = 5 then (some (decide ((x262003.length : Int) > 0))) else (some false))
def spec_sayKnown.f (k : Nat) (a0_0 : Int) (a0_1 : Int) (a0_2 : ByteArray) (l0_3 : List ByteArray) (l0_4 : List (S25)) (l1 : List ByteArray) (l2 : List ByteArray) : Option (Bool) := spec_sayKnown.l0 k l1 l2 0 a0_0 a0_1 a0_2 l0_3 l0_4
set_option maxHeartbeats 8000000 in
set_option maxRecDepth 100000 in
theorem spec_sayKnown.calls (k : Nat) (a0_0 : Int) (a0_1 : Int) (a0_2 : ByteArray) (A0_3 : Option Addr) (c0_3 : Nat) (l0_3 : List ByteArray) (A0_4 : Option Addr) (c0_4 : Nat) (l0_4 : List (S25)) (A1 : Option Addr) (c1 : Nat) (l1 : List ByteArray) (A2 : Option Addr) (c2 : Nat) (l2 : List ByteArray) (r : Bool) (w : World) (hr0_3 : Kd.C Kd.string w A0_3 l0_3.length l0_3) (hc0_3 : l0_3.length ≤ c0_3) (hr0_4 : Kd.C k25 w A0_4 l0_4.length l0_4) (hc0_4 : l0_4.length ≤ c0_4) (hr1 : Kd.C Kd.string w A1 l1.length l1) (hc1 : l1.length ≤ c1) (hr2 : Kd.C Kd.string w A2 l2.length l2) (hc2 : l2.length ≤ c2) (h : spec_sayKnown.f k a0_0 a0_1 a0_2 l0_3 l0_4 l1 l2 = some r) :
  Calls Tryz.prog 41 #[.agg #[.int .i64 a0_0, .int .i64 a0_1, .string a0_2, .slice A0_3 l0_3.length c0_3, .slice A0_4 l0_4.length c0_4], .slice A1 l1.length c1, .slice A2 l2.length c2] w fun e w' => e = .returned (.bool r) ∧ Below w.heap.size w w' := by
 have hu25 := Tryz.underlying25
 have HR0_3 := aM hr0_3
 have HC0_3 := aM hc0_3
 clear hr0_3 hc0_3
 have HR0_4 := aM hr0_4
 have HC0_4 := aM hc0_4
 clear hr0_4 hc0_4
 have HR1 := aM hr1
 have HC1 := aM hc1
 clear hr1 hc1
 have HR2 := aM hr2
 have HC2 := aM hc2
 clear hr2 hc2
 have HB := aM (Below.refl w.heap.size w)
 have H : (spec_sayKnown.l0 k l1 l2 0 a0_0 a0_1 a0_2 l0_3 l0_4) = some r := h
 clear h
 have H' := aM H
 clear H
 go_enter Tryz.func41, Tryz.ntmps41
 go_wp2_with (first | ((with_reducible refine gate_dst (N := 3) rfl ?_); (try (refine gate_guard (by rfl) ?_; dsimp only)); refine box_event ?hg (N := 3) ?hd (cs := #[.int .i64 a0_0, .int .i64 a0_1, .string a0_2, .slice A0_3 l0_3.length c0_3, .slice A0_4 l0_4.length c0_4]) (t := 25) ?hr ?_; (case hd => rfl); (case hg => rfl); (case hr => first | (go_simp; done) | (go_simp; rfl)); intro gb261 hg w4 hbox hb; have n0_ := aM (below_step (by repeat (first | (with_reducible first | exact HB.out | apply below_alloc | apply pw_below_drewN | apply below_drew1) | exact HB.out)) hb); have n1_ := aM (hbox); have n2_ := aM ((by rw [hg]; exact (below_size (by repeat (first | (with_reducible first | exact HB.out | apply below_alloc | apply pw_below_drewN | apply below_drew1) | exact HB.out))) : w.heap.size ≤ gb261)); have n3_ := aM ((by rw [hg]; exact (below_size (by repeat (first | (with_reducible first | exact HB.out | apply below_alloc | apply pw_below_drewN | apply below_drew1) | exact HB.out))) : w.heap.size ≤ gb261)); clear HB; have HB := n0_; have BK261 := n1_; have GW261 := n2_; have GE261 := n3_; clear n0_ n1_ n2_ n3_; clear hb hbox hg))
 go_loopg [7] k (fun kq v7 w' => ∃ (x7_1 : Int), v7 = .int .i64 x7_1 ∧ Aside0 (spec_sayKnown.l0 kq l1 l2 x7_1 a0_0 a0_1 a0_2 l0_3 l0_4 = some r) ∧ Aside0 (kq ≤ k) ∧ Aside0 (w'.heap[gb261]? = some (.cells #[.int .i64 a0_0, .int .i64 a0_1, .string a0_2, (.slice A0_3 l0_3.length c0_3), (.slice A0_4 l0_4.length c0_4)] 25 (0, 0))) ∧ Aside0 (Below w.heap.size w w'))
 case atStart => exact ⟨(0), (by first | rfl | (simp; done) | (simp [*]; done)), H', ⟨Nat.le_refl _⟩, ⟨by (with_reducible repeat (first | refine blk_drewN ?_ _ | refine blk_drew ?_ | refine blk_alloc ?_ _)); exact BK261.out⟩, ⟨by repeat (first | (with_reducible first | exact HB.out | apply below_alloc | apply pw_below_drewN | apply below_drew1 | refine below_set ?_ GE261.out) | exact HB.out)⟩⟩
 case round =>
  clear H'
  try clear c1
  try clear c2
  try clear p2
  try clear c4
  obtain ⟨x7_1, rfl, HA, HK1, BK261, HB⟩ := hrel
  cases gk with
  | zero => exact absurd HA.out (by simp [spec_sayKnown.l0])
  | succ k1 =>
   have H := HA.out
   clear HA
   simp only [spec_sayKnown.l0] at H
   by_cases c5 : x7_1 < (l0_3.length : Int)
   ·rw [if_pos c5] at H
    have c5b0 : decide (x7_1 < (l0_3.length : Int)) = true := decide_eq_true c5
    clear c5
    by_cases c6 : 0 ≤ x7_1
    ·rw [if_pos c6] at H
     have c6b0 : decide (0 ≤ x7_1) = true := decide_eq_true c6
     clear c6
     replace H := Option.bind_eq_some_iff.mp H
     obtain ⟨t263, A70, H⟩ := H
     replace H : (if t263 = true then (if x7_1 < (l0_4.length : Int) then ((spec_sayText.f k1 ((rd_T25 l0_4 x7_1).f0) ((rd_T25 l0_4 x7_1).f1) ((rd_T25 l0_4 x7_1).f2) ((rd_T25 l0_4 x7_1).f3) ((rd_T25 l0_4 x7_1).f4)).bind fun t265 => (if t265 = true then (spec_sayKnown.l0 k1 l1 l2 (wrap64 (x7_1 + 1)) a0_0 a0_1 a0_2 l0_3 l0_4) else ((spec_sayIn.f k1 (rdOf ByteArray.empty l0_3 x7_1) l2).bind fun t267 => (if t267 = true then (if (((rd_T25 l0_4 x7_1).f0) = 1) then (spec_sayKnown.l0 k1 l1 l2 (wrap64 (x7_1 + 1)) a0_0 a0_1 a0_2 l0_3 l0_4) else (some false)) else (some false))))) else (none)) else ((spec_sayIn.f k1 (rdOf ByteArray.empty l0_3 x7_1) l2).bind fun t270 => (if t270 = true then (if x7_1 < (l0_4.length : Int) then (if (((rd_T25 l0_4 x7_1).f0) = 1) then (spec_sayKnown.l0 k1 l1 l2 (wrap64 (x7_1 + 1)) a0_0 a0_1 a0_2 l0_3 l0_4) else (some false)) else (none)) else (some false)))) = some r := H
     have A7 := aM A70
     clear A70
     by_cases c8 : t263 = true
     ·subst c8
      have H1 : (if x7_1 < (l0_4.length : Int) then ((spec_sayText.f k1 ((rd_T25 l0_4 x7_1).f0) ((rd_T25 l0_4 x7_1).f1) ((rd_T25 l0_4 x7_1).f2) ((rd_T25 l0_4 x7_1).f3) ((rd_T25 l0_4 x7_1).f4)).bind fun t265 => (if t265 = true then (spec_sayKnown.l0 k1 l1 l2 (wrap64 (x7_1 + 1)) a0_0 a0_1 a0_2 l0_3 l0_4) else ((spec_sayIn.f k1 (rdOf ByteArray.empty l0_3 x7_1) l2).bind fun t267 => (if t267 = true then (if (((rd_T25 l0_4 x7_1).f0) = 1) then (spec_sayKnown.l0 k1 l1 l2 (wrap64 (x7_1 + 1)) a0_0 a0_1 a0_2 l0_3 l0_4) else (some false)) else (some false))))) else (none)) = some r := by rw [if_pos rfl] at H; exact H
      clear H
      have H := H1
      clear H1
      by_cases c9 : x7_1 < (l0_4.length : Int)
      ·rw [if_pos c9] at H
       have c9b0 : decide (x7_1 < (l0_4.length : Int)) = true := decide_eq_true c9
       clear c9
       replace H := Option.bind_eq_some_iff.mp H
       obtain ⟨t265, A100, H⟩ := H
       replace H : (if t265 = true then (spec_sayKnown.l0 k1 l1 l2 (wrap64 (x7_1 + 1)) a0_0 a0_1 a0_2 l0_3 l0_4) else ((spec_sayIn.f k1 (rdOf ByteArray.empty l0_3 x7_1) l2).bind fun t267 => (if t267 = true then (if (((rd_T25 l0_4 x7_1).f0) = 1) then (spec_sayKnown.l0 k1 l1 l2 (wrap64 (x7_1 + 1)) a0_0 a0_1 a0_2 l0_3 l0_4) else (some false)) else (some false)))) = some r := H
       have A10 := aM A100
       clear A100
       by_cases c11 : t265 = true
       ·subst c11
        have H1 : (spec_sayKnown.l0 k1 l1 l2 (wrap64 (x7_1 + 1)) a0_0 a0_1 a0_2 l0_3 l0_4) = some r := by rw [if_pos rfl] at H; exact H
        clear H
        have H := H1
        clear H1
        have H' := aM H
        clear H
        have hcz12_0 : wr.cell? ⟨gb261, 0, none⟩ = some (.int .i64 a0_0) := (blk_cell BK261.out 0).trans rfl
        have hcz12_1 : wr.cell? ⟨gb261, 1, none⟩ = some (.int .i64 a0_1) := (blk_cell BK261.out 1).trans rfl
        have hcz12_2 : wr.cell? ⟨gb261, 2, none⟩ = some (.string a0_2) := (blk_cell BK261.out 2).trans rfl
        have hcz12_3 : wr.cell? ⟨gb261, 3, none⟩ = some (.slice A0_3 l0_3.length c0_3) := (blk_cell BK261.out 3).trans rfl
        have hcz12_4 : wr.cell? ⟨gb261, 4, none⟩ = some (.slice A0_4 l0_4.length c0_4) := (blk_cell BK261.out 4).trans rfl
        have hfz12_0 := blk_frozen BK261.out 0
        have hfz12_1 := blk_frozen BK261.out 1
        have hfz12_2 := blk_frozen BK261.out 2
        have hfz12_3 := blk_frozen BK261.out 3
        have hfz12_4 := blk_frozen BK261.out 4
        have p262 : 0 ≤ (x7_1 : Int) := of_decide_eq_true (by first | (with_reducible assumption) | assumption)
        have q262 : x7_1 < (l0_3.length : Int) := of_decide_eq_true (by first | (with_reducible assumption) | assumption)
        obtain ⟨ad262, e262, hx262_0⟩ := Kd.at_string HR0_3.out x7_1 p262 q262
        cases e262
        replace hx262_0 := (HB.out.cell (World.block_lt_of_cell? w _ hx262_0)).trans hx262_0
        replace p262 := eq_true p262
        replace q262 := eq_true q262
        go_wp2_with (first | ((with_reducible refine gate_callee (f := 31) rfl ?_); refine goesL_ (some 21) rfl rfl Tryz.func31 (by kernel_rfl) rfl #[.string (rdOf ByteArray.empty l0_3 x7_1), .slice A1 l1.length c1] rfl (by (try simp only [List.map_toArray, List.map_cons, List.map_nil]); first | done | rfl | (simp only [List.length_drop, List.length_take]; rfl)) ?_; (with_reducible refine (spec_sayIn.calls k1 (rdOf ByteArray.empty l0_3 x7_1) _ _ l1 true _ ?side1 ?side2 A7.out).mono ?_); (case side1 => repeat (first | exact (Kd.C_below HR1.out HB.out) | (with_reducible refine Kd.C_alloc ?_ _) | (with_reducible refine Kd.C_drewN ?_ _) | (with_reducible refine Kd.C_drew ?_))); (case side2 => exact HC1.out); rintro e w' ⟨rfl, ⟨nd, rfl⟩⟩; refine ⟨_, rfl, ?_⟩; have p264 : 0 ≤ (x7_1 : Int) := of_decide_eq_true (by first | (with_reducible assumption) | assumption); have q264 : x7_1 < (l0_4.length : Int) := of_decide_eq_true (by first | (with_reducible assumption) | assumption); obtain ⟨ad264, A264_3, c264_3, A264_4, c264_4, e264, hx264_0, hx264_1, hx264_2, hx264_3, hx264_4, hl264_3, hi264_3, hl264_4, hi264_4⟩ := at_T25 HR0_4.out x7_1 p264 q264; cases e264; replace hx264_0 := (HB.out.cell (World.block_lt_of_cell? w _ hx264_0)).trans hx264_0; replace hx264_1 := (HB.out.cell (World.block_lt_of_cell? w _ hx264_1)).trans hx264_1; replace hx264_2 := (HB.out.cell (World.block_lt_of_cell? w _ hx264_2)).trans hx264_2; replace hx264_3 := (HB.out.cell (World.block_lt_of_cell? w _ hx264_3)).trans hx264_3; replace hx264_4 := (HB.out.cell (World.block_lt_of_cell? w _ hx264_4)).trans hx264_4; have HR264_3 := aM hi264_3; have HC264_3 := aM hl264_3; clear hi264_3 hl264_3; have HR264_4 := aM hi264_4; have HC264_4 := aM hl264_4; clear hi264_4 hl264_4; replace p264 := eq_true p264; replace q264 := eq_true q264) | (go_at_call 32; (with_reducible refine (spec_sayText.calls k1 ((rd_T25 l0_4 x7_1).f0) ((rd_T25 l0_4 x7_1).f1) ((rd_T25 l0_4 x7_1).f2) _ _ ((rd_T25 l0_4 x7_1).f3) _ _ ((rd_T25 l0_4 x7_1).f4) true _ ?side1 ?side2 ?side3 ?side4 A10.out).mono ?_); (case side1 => repeat (first | exact (Kd.C_below HR264_3.out (by repeat (first | (with_reducible first | exact HB.out | apply below_alloc | apply pw_below_drewN | apply below_drew1 | refine below_set ?_ GE261.out) | exact HB.out))) | (with_reducible refine Kd.C_alloc ?_ _) | (with_reducible refine Kd.C_drewN ?_ _) | (with_reducible refine Kd.C_drew ?_))); (case side2 => exact HC264_3.out); (case side3 => repeat (first | exact (Kd.C_below HR264_4.out (by repeat (first | (with_reducible first | exact HB.out | apply below_alloc | apply pw_below_drewN | apply below_drew1 | refine below_set ?_ GE261.out) | exact HB.out))) | (with_reducible refine Kd.C_alloc ?_ _) | (with_reducible refine Kd.C_drewN ?_ _) | (with_reducible refine Kd.C_drew ?_))); (case side4 => exact HC264_4.out); rintro e w13 ⟨rfl, hb⟩; have n0_ := aM (blk_below (g := gb261) (o := .cells #[.int .i64 a0_0, .int .i64 a0_1, .string a0_2, .slice (some ad262) l0_3.length c0_3, .slice (some ad264) l0_4.length c0_4] 25 (0, 0)) (by (with_reducible repeat (first | refine blk_drewN ?_ _ | refine blk_drew ?_ | refine blk_alloc ?_ _)); exact BK261.out) hb); have n1_ := aM (below_step (by repeat (first | (with_reducible first | exact HB.out | apply below_alloc | apply pw_below_drewN | apply below_drew1 | refine below_set ?_ GE261.out) | exact HB.out)) hb); clear BK261; clear HB; have BK261 := n0_; have HB := n1_; clear n0_ n1_; (try clear hb); (try clear hb2); (try clear hk); (try clear hi)))
        go_roundg k1
        case measure => have := HK1.out; omega
        case rel => exact ⟨(wrap64 (x7_1 + 1)), (by first | rfl | (simp; done) | (simp [*]; done)), H', ⟨by have := HK1.out; omega⟩, ⟨by (with_reducible repeat (first | refine blk_drewN ?_ _ | refine blk_drew ?_ | refine blk_alloc ?_ _)); exact BK261.out⟩, ⟨by repeat (first | (with_reducible first | exact HB.out | apply below_alloc | apply pw_below_drewN | apply below_drew1 | refine below_set ?_ GE261.out) | exact HB.out)⟩⟩
       ·replace c11 := Bool.eq_false_iff.mpr c11
        subst c11
        have H1 : ((spec_sayIn.f k1 (rdOf ByteArray.empty l0_3 x7_1) l2).bind fun t267 => (if t267 = true then (if (((rd_T25 l0_4 x7_1).f0) = 1) then (spec_sayKnown.l0 k1 l1 l2 (wrap64 (x7_1 + 1)) a0_0 a0_1 a0_2 l0_3 l0_4) else (some false)) else (some false))) = some r := by rw [if_neg (show ¬ (false = true) by decide)] at H; exact H
        clear H
        have H := H1
        clear H1
        replace H := Option.bind_eq_some_iff.mp H
        obtain ⟨t267, A140, H⟩ := H
        replace H : (if t267 = true then (if (((rd_T25 l0_4 x7_1).f0) = 1) then (spec_sayKnown.l0 k1 l1 l2 (wrap64 (x7_1 + 1)) a0_0 a0_1 a0_2 l0_3 l0_4) else (some false)) else (some false)) = some r := H
        have A14 := aM A140
        clear A140
        by_cases c15 : t267 = true
        ·subst c15
         have H1 : (if (((rd_T25 l0_4 x7_1).f0) = 1) then (spec_sayKnown.l0 k1 l1 l2 (wrap64 (x7_1 + 1)) a0_0 a0_1 a0_2 l0_3 l0_4) else (some false)) = some r := by rw [if_pos rfl] at H; exact H
         clear H
         have H := H1
         clear H1
         by_cases c16 : (((rd_T25 l0_4 x7_1).f0) = 1)
         ·rw [if_pos c16] at H
          have c16b0 : (((rd_T25 l0_4 x7_1).f0) == 1) = true := beq_iff_eq.mpr c16
          have c16b1 : (((rd_T25 l0_4 x7_1).f0) != 1) = false := bne_eq_false_iff_eq.mpr c16
          clear c16
          have H' := aM H
          clear H
          have hcz17_0 : wr.cell? ⟨gb261, 0, none⟩ = some (.int .i64 a0_0) := (blk_cell BK261.out 0).trans rfl
          have hcz17_1 : wr.cell? ⟨gb261, 1, none⟩ = some (.int .i64 a0_1) := (blk_cell BK261.out 1).trans rfl
          have hcz17_2 : wr.cell? ⟨gb261, 2, none⟩ = some (.string a0_2) := (blk_cell BK261.out 2).trans rfl
          have hcz17_3 : wr.cell? ⟨gb261, 3, none⟩ = some (.slice A0_3 l0_3.length c0_3) := (blk_cell BK261.out 3).trans rfl
          have hcz17_4 : wr.cell? ⟨gb261, 4, none⟩ = some (.slice A0_4 l0_4.length c0_4) := (blk_cell BK261.out 4).trans rfl
          have hfz17_0 := blk_frozen BK261.out 0
          have hfz17_1 := blk_frozen BK261.out 1
          have hfz17_2 := blk_frozen BK261.out 2
          have hfz17_3 := blk_frozen BK261.out 3
          have hfz17_4 := blk_frozen BK261.out 4
          have p262 : 0 ≤ (x7_1 : Int) := of_decide_eq_true (by first | (with_reducible assumption) | assumption)
          have q262 : x7_1 < (l0_3.length : Int) := of_decide_eq_true (by first | (with_reducible assumption) | assumption)
          obtain ⟨ad262, e262, hx262_0⟩ := Kd.at_string HR0_3.out x7_1 p262 q262
          cases e262
          replace hx262_0 := (HB.out.cell (World.block_lt_of_cell? w _ hx262_0)).trans hx262_0
          replace p262 := eq_true p262
          replace q262 := eq_true q262
          go_wp2_with (first | ((with_reducible refine gate_callee (f := 31) rfl ?_); refine goesL_ (some 21) rfl rfl Tryz.func31 (by kernel_rfl) rfl #[.string (rdOf ByteArray.empty l0_3 x7_1), .slice A1 l1.length c1] rfl (by (try simp only [List.map_toArray, List.map_cons, List.map_nil]); first | done | rfl | (simp only [List.length_drop, List.length_take]; rfl)) ?_; (with_reducible refine (spec_sayIn.calls k1 (rdOf ByteArray.empty l0_3 x7_1) _ _ l1 true _ ?side1 ?side2 A7.out).mono ?_); (case side1 => repeat (first | exact (Kd.C_below HR1.out HB.out) | (with_reducible refine Kd.C_alloc ?_ _) | (with_reducible refine Kd.C_drewN ?_ _) | (with_reducible refine Kd.C_drew ?_))); (case side2 => exact HC1.out); rintro e w' ⟨rfl, ⟨nd, rfl⟩⟩; refine ⟨_, rfl, ?_⟩; have p264 : 0 ≤ (x7_1 : Int) := of_decide_eq_true (by first | (with_reducible assumption) | assumption); have q264 : x7_1 < (l0_4.length : Int) := of_decide_eq_true (by first | (with_reducible assumption) | assumption); obtain ⟨ad264, A264_3, c264_3, A264_4, c264_4, e264, hx264_0, hx264_1, hx264_2, hx264_3, hx264_4, hl264_3, hi264_3, hl264_4, hi264_4⟩ := at_T25 HR0_4.out x7_1 p264 q264; cases e264; replace hx264_0 := (HB.out.cell (World.block_lt_of_cell? w _ hx264_0)).trans hx264_0; replace hx264_1 := (HB.out.cell (World.block_lt_of_cell? w _ hx264_1)).trans hx264_1; replace hx264_2 := (HB.out.cell (World.block_lt_of_cell? w _ hx264_2)).trans hx264_2; replace hx264_3 := (HB.out.cell (World.block_lt_of_cell? w _ hx264_3)).trans hx264_3; replace hx264_4 := (HB.out.cell (World.block_lt_of_cell? w _ hx264_4)).trans hx264_4; have HR264_3 := aM hi264_3; have HC264_3 := aM hl264_3; clear hi264_3 hl264_3; have HR264_4 := aM hi264_4; have HC264_4 := aM hl264_4; clear hi264_4 hl264_4; replace p264 := eq_true p264; replace q264 := eq_true q264) | (go_at_call 32; (with_reducible refine (spec_sayText.calls k1 ((rd_T25 l0_4 x7_1).f0) ((rd_T25 l0_4 x7_1).f1) ((rd_T25 l0_4 x7_1).f2) _ _ ((rd_T25 l0_4 x7_1).f3) _ _ ((rd_T25 l0_4 x7_1).f4) false _ ?side1 ?side2 ?side3 ?side4 A10.out).mono ?_); (case side1 => repeat (first | exact (Kd.C_below HR264_3.out (by repeat (first | (with_reducible first | exact HB.out | apply below_alloc | apply pw_below_drewN | apply below_drew1 | refine below_set ?_ GE261.out) | exact HB.out))) | (with_reducible refine Kd.C_alloc ?_ _) | (with_reducible refine Kd.C_drewN ?_ _) | (with_reducible refine Kd.C_drew ?_))); (case side2 => exact HC264_3.out); (case side3 => repeat (first | exact (Kd.C_below HR264_4.out (by repeat (first | (with_reducible first | exact HB.out | apply below_alloc | apply pw_below_drewN | apply below_drew1 | refine below_set ?_ GE261.out) | exact HB.out))) | (with_reducible refine Kd.C_alloc ?_ _) | (with_reducible refine Kd.C_drewN ?_ _) | (with_reducible refine Kd.C_drew ?_))); (case side4 => exact HC264_4.out); rintro e w18 ⟨rfl, hb⟩; have n0_ := aM (blk_below (g := gb261) (o := .cells #[.int .i64 a0_0, .int .i64 a0_1, .string a0_2, .slice (some ad262) l0_3.length c0_3, .slice (some ad264) l0_4.length c0_4] 25 (0, 0)) (by (with_reducible repeat (first | refine blk_drewN ?_ _ | refine blk_drew ?_ | refine blk_alloc ?_ _)); exact BK261.out) hb); have n1_ := aM (below_step (by repeat (first | (with_reducible first | exact HB.out | apply below_alloc | apply pw_below_drewN | apply below_drew1 | refine below_set ?_ GE261.out) | exact HB.out)) hb); clear BK261; clear HB; have BK261 := n0_; have HB := n1_; clear n0_ n1_; (try clear hb); (try clear hb2); (try clear hk); (try clear hi); have hcz19_0 : w18.cell? ⟨gb261, 0, none⟩ = some (.int .i64 a0_0) := (blk_cell BK261.out 0).trans rfl; have hcz19_1 : w18.cell? ⟨gb261, 1, none⟩ = some (.int .i64 a0_1) := (blk_cell BK261.out 1).trans rfl; have hcz19_2 : w18.cell? ⟨gb261, 2, none⟩ = some (.string a0_2) := (blk_cell BK261.out 2).trans rfl; have hcz19_3 : w18.cell? ⟨gb261, 3, none⟩ = some (.slice (some ad262) l0_3.length c0_3) := (blk_cell BK261.out 3).trans rfl; have hcz19_4 : w18.cell? ⟨gb261, 4, none⟩ = some (.slice (some ad264) l0_4.length c0_4) := (blk_cell BK261.out 4).trans rfl; have hfz19_0 := blk_frozen BK261.out 0; have hfz19_1 := blk_frozen BK261.out 1; have hfz19_2 := blk_frozen BK261.out 2; have hfz19_3 := blk_frozen BK261.out 3; have hfz19_4 := blk_frozen BK261.out 4; have p266 : 0 ≤ (x7_1 : Int) := of_decide_eq_true (by first | (with_reducible assumption) | assumption); have q266 : x7_1 < (l0_3.length : Int) := of_decide_eq_true (by first | (with_reducible assumption) | assumption); obtain ⟨ad266, e266, hx266_0⟩ := Kd.at_string HR0_3.out x7_1 p266 q266; obtain rfl : ad262 = ad266 := (by injection e266); replace hx266_0 := (HB.out.cell (World.block_lt_of_cell? w _ hx266_0)).trans hx266_0; replace p266 := eq_true p266; replace q266 := eq_true q266) | (go_at_call 31; (with_reducible refine (spec_sayIn.calls k1 (rdOf ByteArray.empty l0_3 x7_1) _ _ l2 true _ ?side1 ?side2 A14.out).mono ?_); (case side1 => repeat (first | exact (Kd.C_below HR2.out HB.out) | (with_reducible refine Kd.C_alloc ?_ _) | (with_reducible refine Kd.C_drewN ?_ _) | (with_reducible refine Kd.C_drew ?_))); (case side2 => exact HC2.out); rintro e w' ⟨rfl, ⟨nd, rfl⟩⟩; have p268 : 0 ≤ (x7_1 : Int) := of_decide_eq_true (by first | (with_reducible assumption) | assumption); have q268 : x7_1 < (l0_4.length : Int) := of_decide_eq_true (by first | (with_reducible assumption) | assumption); obtain ⟨ad268, A268_3, c268_3, A268_4, c268_4, e268, hx268_0, hx268_1, hx268_2, hx268_3, hx268_4, hl268_3, hi268_3, hl268_4, hi268_4⟩ := at_T25 HR0_4.out x7_1 p268 q268; obtain rfl : ad264 = ad268 := (by injection e268); replace hx268_0 := (HB.out.cell (World.block_lt_of_cell? w _ hx268_0)).trans hx268_0; replace hx268_1 := (HB.out.cell (World.block_lt_of_cell? w _ hx268_1)).trans hx268_1; replace hx268_2 := (HB.out.cell (World.block_lt_of_cell? w _ hx268_2)).trans hx268_2; replace hx268_3 := (HB.out.cell (World.block_lt_of_cell? w _ hx268_3)).trans hx268_3; replace hx268_4 := (HB.out.cell (World.block_lt_of_cell? w _ hx268_4)).trans hx268_4; have HR268_3 := aM hi268_3; have HC268_3 := aM hl268_3; clear hi268_3 hl268_3; have HR268_4 := aM hi268_4; have HC268_4 := aM hl268_4; clear hi268_4 hl268_4; replace p268 := eq_true p268; replace q268 := eq_true q268))
          go_roundg k1
          case measure => have := HK1.out; omega
          case rel => exact ⟨(wrap64 (x7_1 + 1)), (by first | rfl | (simp; done) | (simp [*]; done)), H', ⟨by have := HK1.out; omega⟩, ⟨by (with_reducible repeat (first | refine blk_drewN ?_ _ | refine blk_drew ?_ | refine blk_alloc ?_ _)); exact BK261.out⟩, ⟨by repeat (first | (with_reducible first | exact HB.out | apply below_alloc | apply pw_below_drewN | apply below_drew1 | refine below_set ?_ GE261.out) | exact HB.out)⟩⟩
         ·rw [if_neg c16] at H
          have c16b0 : (((rd_T25 l0_4 x7_1).f0) == 1) = false := beq_eq_false_iff_ne.mpr c16
          have c16b1 : (((rd_T25 l0_4 x7_1).f0) != 1) = true := bne_iff_ne.mpr c16
          obtain rfl := Option.some.inj H
          have hcz20_0 : wr.cell? ⟨gb261, 0, none⟩ = some (.int .i64 a0_0) := (blk_cell BK261.out 0).trans rfl
          have hcz20_1 : wr.cell? ⟨gb261, 1, none⟩ = some (.int .i64 a0_1) := (blk_cell BK261.out 1).trans rfl
          have hcz20_2 : wr.cell? ⟨gb261, 2, none⟩ = some (.string a0_2) := (blk_cell BK261.out 2).trans rfl
          have hcz20_3 : wr.cell? ⟨gb261, 3, none⟩ = some (.slice A0_3 l0_3.length c0_3) := (blk_cell BK261.out 3).trans rfl
          have hcz20_4 : wr.cell? ⟨gb261, 4, none⟩ = some (.slice A0_4 l0_4.length c0_4) := (blk_cell BK261.out 4).trans rfl
          have hfz20_0 := blk_frozen BK261.out 0
          have hfz20_1 := blk_frozen BK261.out 1
          have hfz20_2 := blk_frozen BK261.out 2
          have hfz20_3 := blk_frozen BK261.out 3
          have hfz20_4 := blk_frozen BK261.out 4
          have p262 : 0 ≤ (x7_1 : Int) := of_decide_eq_true (by first | (with_reducible assumption) | assumption)
          have q262 : x7_1 < (l0_3.length : Int) := of_decide_eq_true (by first | (with_reducible assumption) | assumption)
          obtain ⟨ad262, e262, hx262_0⟩ := Kd.at_string HR0_3.out x7_1 p262 q262
          cases e262
          replace hx262_0 := (HB.out.cell (World.block_lt_of_cell? w _ hx262_0)).trans hx262_0
          replace p262 := eq_true p262
          replace q262 := eq_true q262
          go_wp2_with (first | ((with_reducible refine gate_callee (f := 31) rfl ?_); refine goesL_ (some 21) rfl rfl Tryz.func31 (by kernel_rfl) rfl #[.string (rdOf ByteArray.empty l0_3 x7_1), .slice A1 l1.length c1] rfl (by (try simp only [List.map_toArray, List.map_cons, List.map_nil]); first | done | rfl | (simp only [List.length_drop, List.length_take]; rfl)) ?_; (with_reducible refine (spec_sayIn.calls k1 (rdOf ByteArray.empty l0_3 x7_1) _ _ l1 true _ ?side1 ?side2 A7.out).mono ?_); (case side1 => repeat (first | exact (Kd.C_below HR1.out HB.out) | (with_reducible refine Kd.C_alloc ?_ _) | (with_reducible refine Kd.C_drewN ?_ _) | (with_reducible refine Kd.C_drew ?_))); (case side2 => exact HC1.out); rintro e w' ⟨rfl, ⟨nd, rfl⟩⟩; refine ⟨_, rfl, ?_⟩; have p264 : 0 ≤ (x7_1 : Int) := of_decide_eq_true (by first | (with_reducible assumption) | assumption); have q264 : x7_1 < (l0_4.length : Int) := of_decide_eq_true (by first | (with_reducible assumption) | assumption); obtain ⟨ad264, A264_3, c264_3, A264_4, c264_4, e264, hx264_0, hx264_1, hx264_2, hx264_3, hx264_4, hl264_3, hi264_3, hl264_4, hi264_4⟩ := at_T25 HR0_4.out x7_1 p264 q264; cases e264; replace hx264_0 := (HB.out.cell (World.block_lt_of_cell? w _ hx264_0)).trans hx264_0; replace hx264_1 := (HB.out.cell (World.block_lt_of_cell? w _ hx264_1)).trans hx264_1; replace hx264_2 := (HB.out.cell (World.block_lt_of_cell? w _ hx264_2)).trans hx264_2; replace hx264_3 := (HB.out.cell (World.block_lt_of_cell? w _ hx264_3)).trans hx264_3; replace hx264_4 := (HB.out.cell (World.block_lt_of_cell? w _ hx264_4)).trans hx264_4; have HR264_3 := aM hi264_3; have HC264_3 := aM hl264_3; clear hi264_3 hl264_3; have HR264_4 := aM hi264_4; have HC264_4 := aM hl264_4; clear hi264_4 hl264_4; replace p264 := eq_true p264; replace q264 := eq_true q264) | (go_at_call 32; (with_reducible refine (spec_sayText.calls k1 ((rd_T25 l0_4 x7_1).f0) ((rd_T25 l0_4 x7_1).f1) ((rd_T25 l0_4 x7_1).f2) _ _ ((rd_T25 l0_4 x7_1).f3) _ _ ((rd_T25 l0_4 x7_1).f4) false _ ?side1 ?side2 ?side3 ?side4 A10.out).mono ?_); (case side1 => repeat (first | exact (Kd.C_below HR264_3.out (by repeat (first | (with_reducible first | exact HB.out | apply below_alloc | apply pw_below_drewN | apply below_drew1 | refine below_set ?_ GE261.out) | exact HB.out))) | (with_reducible refine Kd.C_alloc ?_ _) | (with_reducible refine Kd.C_drewN ?_ _) | (with_reducible refine Kd.C_drew ?_))); (case side2 => exact HC264_3.out); (case side3 => repeat (first | exact (Kd.C_below HR264_4.out (by repeat (first | (with_reducible first | exact HB.out | apply below_alloc | apply pw_below_drewN | apply below_drew1 | refine below_set ?_ GE261.out) | exact HB.out))) | (with_reducible refine Kd.C_alloc ?_ _) | (with_reducible refine Kd.C_drewN ?_ _) | (with_reducible refine Kd.C_drew ?_))); (case side4 => exact HC264_4.out); rintro e w21 ⟨rfl, hb⟩; have n0_ := aM (blk_below (g := gb261) (o := .cells #[.int .i64 a0_0, .int .i64 a0_1, .string a0_2, .slice (some ad262) l0_3.length c0_3, .slice (some ad264) l0_4.length c0_4] 25 (0, 0)) (by (with_reducible repeat (first | refine blk_drewN ?_ _ | refine blk_drew ?_ | refine blk_alloc ?_ _)); exact BK261.out) hb); have n1_ := aM (below_step (by repeat (first | (with_reducible first | exact HB.out | apply below_alloc | apply pw_below_drewN | apply below_drew1 | refine below_set ?_ GE261.out) | exact HB.out)) hb); clear BK261; clear HB; have BK261 := n0_; have HB := n1_; clear n0_ n1_; (try clear hb); (try clear hb2); (try clear hk); (try clear hi); have hcz22_0 : w21.cell? ⟨gb261, 0, none⟩ = some (.int .i64 a0_0) := (blk_cell BK261.out 0).trans rfl; have hcz22_1 : w21.cell? ⟨gb261, 1, none⟩ = some (.int .i64 a0_1) := (blk_cell BK261.out 1).trans rfl; have hcz22_2 : w21.cell? ⟨gb261, 2, none⟩ = some (.string a0_2) := (blk_cell BK261.out 2).trans rfl; have hcz22_3 : w21.cell? ⟨gb261, 3, none⟩ = some (.slice (some ad262) l0_3.length c0_3) := (blk_cell BK261.out 3).trans rfl; have hcz22_4 : w21.cell? ⟨gb261, 4, none⟩ = some (.slice (some ad264) l0_4.length c0_4) := (blk_cell BK261.out 4).trans rfl; have hfz22_0 := blk_frozen BK261.out 0; have hfz22_1 := blk_frozen BK261.out 1; have hfz22_2 := blk_frozen BK261.out 2; have hfz22_3 := blk_frozen BK261.out 3; have hfz22_4 := blk_frozen BK261.out 4; have p266 : 0 ≤ (x7_1 : Int) := of_decide_eq_true (by first | (with_reducible assumption) | assumption); have q266 : x7_1 < (l0_3.length : Int) := of_decide_eq_true (by first | (with_reducible assumption) | assumption); obtain ⟨ad266, e266, hx266_0⟩ := Kd.at_string HR0_3.out x7_1 p266 q266; obtain rfl : ad262 = ad266 := (by injection e266); replace hx266_0 := (HB.out.cell (World.block_lt_of_cell? w _ hx266_0)).trans hx266_0; replace p266 := eq_true p266; replace q266 := eq_true q266) | (go_at_call 31; (with_reducible refine (spec_sayIn.calls k1 (rdOf ByteArray.empty l0_3 x7_1) _ _ l2 true _ ?side1 ?side2 A14.out).mono ?_); (case side1 => repeat (first | exact (Kd.C_below HR2.out HB.out) | (with_reducible refine Kd.C_alloc ?_ _) | (with_reducible refine Kd.C_drewN ?_ _) | (with_reducible refine Kd.C_drew ?_))); (case side2 => exact HC2.out); rintro e w' ⟨rfl, ⟨nd, rfl⟩⟩; have p268 : 0 ≤ (x7_1 : Int) := of_decide_eq_true (by first | (with_reducible assumption) | assumption); have q268 : x7_1 < (l0_4.length : Int) := of_decide_eq_true (by first | (with_reducible assumption) | assumption); obtain ⟨ad268, A268_3, c268_3, A268_4, c268_4, e268, hx268_0, hx268_1, hx268_2, hx268_3, hx268_4, hl268_3, hi268_3, hl268_4, hi268_4⟩ := at_T25 HR0_4.out x7_1 p268 q268; obtain rfl : ad264 = ad268 := (by injection e268); replace hx268_0 := (HB.out.cell (World.block_lt_of_cell? w _ hx268_0)).trans hx268_0; replace hx268_1 := (HB.out.cell (World.block_lt_of_cell? w _ hx268_1)).trans hx268_1; replace hx268_2 := (HB.out.cell (World.block_lt_of_cell? w _ hx268_2)).trans hx268_2; replace hx268_3 := (HB.out.cell (World.block_lt_of_cell? w _ hx268_3)).trans hx268_3; replace hx268_4 := (HB.out.cell (World.block_lt_of_cell? w _ hx268_4)).trans hx268_4; have HR268_3 := aM hi268_3; have HC268_3 := aM hl268_3; clear hi268_3 hl268_3; have HR268_4 := aM hi268_4; have HC268_4 := aM hl268_4; clear hi268_4 hl268_4; replace p268 := eq_true p268; replace q268 := eq_true q268))
          go_ret
          exact ⟨by first | rfl | (simp [errW_none, errW_some] <;> rfl) | (simp [*, errW_none, errW_some] <;> rfl), by repeat (first | (with_reducible first | exact HB.out | apply below_alloc | apply pw_below_drewN | apply below_drew1 | refine below_set ?_ GE261.out) | exact HB.out)⟩
        ·replace c15 := Bool.eq_false_iff.mpr c15
         subst c15
         have H1 : (some false) = some r := by rw [if_neg (show ¬ (false = true) by decide)] at H; exact H
         clear H
         have H := H1
         clear H1
         obtain rfl := Option.some.inj H
         have hcz23_0 : wr.cell? ⟨gb261, 0, none⟩ = some (.int .i64 a0_0) := (blk_cell BK261.out 0).trans rfl
         have hcz23_1 : wr.cell? ⟨gb261, 1, none⟩ = some (.int .i64 a0_1) := (blk_cell BK261.out 1).trans rfl
         have hcz23_2 : wr.cell? ⟨gb261, 2, none⟩ = some (.string a0_2) := (blk_cell BK261.out 2).trans rfl
         have hcz23_3 : wr.cell? ⟨gb261, 3, none⟩ = some (.slice A0_3 l0_3.length c0_3) := (blk_cell BK261.out 3).trans rfl
         have hcz23_4 : wr.cell? ⟨gb261, 4, none⟩ = some (.slice A0_4 l0_4.length c0_4) := (blk_cell BK261.out 4).trans rfl
         have hfz23_0 := blk_frozen BK261.out 0
         have hfz23_1 := blk_frozen BK261.out 1
         have hfz23_2 := blk_frozen BK261.out 2
         have hfz23_3 := blk_frozen BK261.out 3
         have hfz23_4 := blk_frozen BK261.out 4
         have p262 : 0 ≤ (x7_1 : Int) := of_decide_eq_true (by first | (with_reducible assumption) | assumption)
         have q262 : x7_1 < (l0_3.length : Int) := of_decide_eq_true (by first | (with_reducible assumption) | assumption)
         obtain ⟨ad262, e262, hx262_0⟩ := Kd.at_string HR0_3.out x7_1 p262 q262
         cases e262
         replace hx262_0 := (HB.out.cell (World.block_lt_of_cell? w _ hx262_0)).trans hx262_0
         replace p262 := eq_true p262
         replace q262 := eq_true q262
         go_wp2_with (first | ((with_reducible refine gate_callee (f := 31) rfl ?_); refine goesL_ (some 21) rfl rfl Tryz.func31 (by kernel_rfl) rfl #[.string (rdOf ByteArray.empty l0_3 x7_1), .slice A1 l1.length c1] rfl (by (try simp only [List.map_toArray, List.map_cons, List.map_nil]); first | done | rfl | (simp only [List.length_drop, List.length_take]; rfl)) ?_; (with_reducible refine (spec_sayIn.calls k1 (rdOf ByteArray.empty l0_3 x7_1) _ _ l1 true _ ?side1 ?side2 A7.out).mono ?_); (case side1 => repeat (first | exact (Kd.C_below HR1.out HB.out) | (with_reducible refine Kd.C_alloc ?_ _) | (with_reducible refine Kd.C_drewN ?_ _) | (with_reducible refine Kd.C_drew ?_))); (case side2 => exact HC1.out); rintro e w' ⟨rfl, ⟨nd, rfl⟩⟩; refine ⟨_, rfl, ?_⟩; have p264 : 0 ≤ (x7_1 : Int) := of_decide_eq_true (by first | (with_reducible assumption) | assumption); have q264 : x7_1 < (l0_4.length : Int) := of_decide_eq_true (by first | (with_reducible assumption) | assumption); obtain ⟨ad264, A264_3, c264_3, A264_4, c264_4, e264, hx264_0, hx264_1, hx264_2, hx264_3, hx264_4, hl264_3, hi264_3, hl264_4, hi264_4⟩ := at_T25 HR0_4.out x7_1 p264 q264; cases e264; replace hx264_0 := (HB.out.cell (World.block_lt_of_cell? w _ hx264_0)).trans hx264_0; replace hx264_1 := (HB.out.cell (World.block_lt_of_cell? w _ hx264_1)).trans hx264_1; replace hx264_2 := (HB.out.cell (World.block_lt_of_cell? w _ hx264_2)).trans hx264_2; replace hx264_3 := (HB.out.cell (World.block_lt_of_cell? w _ hx264_3)).trans hx264_3; replace hx264_4 := (HB.out.cell (World.block_lt_of_cell? w _ hx264_4)).trans hx264_4; have HR264_3 := aM hi264_3; have HC264_3 := aM hl264_3; clear hi264_3 hl264_3; have HR264_4 := aM hi264_4; have HC264_4 := aM hl264_4; clear hi264_4 hl264_4; replace p264 := eq_true p264; replace q264 := eq_true q264) | (go_at_call 32; (with_reducible refine (spec_sayText.calls k1 ((rd_T25 l0_4 x7_1).f0) ((rd_T25 l0_4 x7_1).f1) ((rd_T25 l0_4 x7_1).f2) _ _ ((rd_T25 l0_4 x7_1).f3) _ _ ((rd_T25 l0_4 x7_1).f4) false _ ?side1 ?side2 ?side3 ?side4 A10.out).mono ?_); (case side1 => repeat (first | exact (Kd.C_below HR264_3.out (by repeat (first | (with_reducible first | exact HB.out | apply below_alloc | apply pw_below_drewN | apply below_drew1 | refine below_set ?_ GE261.out) | exact HB.out))) | (with_reducible refine Kd.C_alloc ?_ _) | (with_reducible refine Kd.C_drewN ?_ _) | (with_reducible refine Kd.C_drew ?_))); (case side2 => exact HC264_3.out); (case side3 => repeat (first | exact (Kd.C_below HR264_4.out (by repeat (first | (with_reducible first | exact HB.out | apply below_alloc | apply pw_below_drewN | apply below_drew1 | refine below_set ?_ GE261.out) | exact HB.out))) | (with_reducible refine Kd.C_alloc ?_ _) | (with_reducible refine Kd.C_drewN ?_ _) | (with_reducible refine Kd.C_drew ?_))); (case side4 => exact HC264_4.out); rintro e w24 ⟨rfl, hb⟩; have n0_ := aM (blk_below (g := gb261) (o := .cells #[.int .i64 a0_0, .int .i64 a0_1, .string a0_2, .slice (some ad262) l0_3.length c0_3, .slice (some ad264) l0_4.length c0_4] 25 (0, 0)) (by (with_reducible repeat (first | refine blk_drewN ?_ _ | refine blk_drew ?_ | refine blk_alloc ?_ _)); exact BK261.out) hb); have n1_ := aM (below_step (by repeat (first | (with_reducible first | exact HB.out | apply below_alloc | apply pw_below_drewN | apply below_drew1 | refine below_set ?_ GE261.out) | exact HB.out)) hb); clear BK261; clear HB; have BK261 := n0_; have HB := n1_; clear n0_ n1_; (try clear hb); (try clear hb2); (try clear hk); (try clear hi); have hcz25_0 : w24.cell? ⟨gb261, 0, none⟩ = some (.int .i64 a0_0) := (blk_cell BK261.out 0).trans rfl; have hcz25_1 : w24.cell? ⟨gb261, 1, none⟩ = some (.int .i64 a0_1) := (blk_cell BK261.out 1).trans rfl; have hcz25_2 : w24.cell? ⟨gb261, 2, none⟩ = some (.string a0_2) := (blk_cell BK261.out 2).trans rfl; have hcz25_3 : w24.cell? ⟨gb261, 3, none⟩ = some (.slice (some ad262) l0_3.length c0_3) := (blk_cell BK261.out 3).trans rfl; have hcz25_4 : w24.cell? ⟨gb261, 4, none⟩ = some (.slice (some ad264) l0_4.length c0_4) := (blk_cell BK261.out 4).trans rfl; have hfz25_0 := blk_frozen BK261.out 0; have hfz25_1 := blk_frozen BK261.out 1; have hfz25_2 := blk_frozen BK261.out 2; have hfz25_3 := blk_frozen BK261.out 3; have hfz25_4 := blk_frozen BK261.out 4; have p266 : 0 ≤ (x7_1 : Int) := of_decide_eq_true (by first | (with_reducible assumption) | assumption); have q266 : x7_1 < (l0_3.length : Int) := of_decide_eq_true (by first | (with_reducible assumption) | assumption); obtain ⟨ad266, e266, hx266_0⟩ := Kd.at_string HR0_3.out x7_1 p266 q266; obtain rfl : ad262 = ad266 := (by injection e266); replace hx266_0 := (HB.out.cell (World.block_lt_of_cell? w _ hx266_0)).trans hx266_0; replace p266 := eq_true p266; replace q266 := eq_true q266) | (go_at_call 31; (with_reducible refine (spec_sayIn.calls k1 (rdOf ByteArray.empty l0_3 x7_1) _ _ l2 false _ ?side1 ?side2 A14.out).mono ?_); (case side1 => repeat (first | exact (Kd.C_below HR2.out HB.out) | (with_reducible refine Kd.C_alloc ?_ _) | (with_reducible refine Kd.C_drewN ?_ _) | (with_reducible refine Kd.C_drew ?_))); (case side2 => exact HC2.out); rintro e w' ⟨rfl, ⟨nd, rfl⟩⟩))
         go_ret
         exact ⟨by first | rfl | (simp [errW_none, errW_some] <;> rfl) | (simp [*, errW_none, errW_some] <;> rfl), by repeat (first | (with_reducible first | exact HB.out | apply below_alloc | apply pw_below_drewN | apply below_drew1 | refine below_set ?_ GE261.out) | exact HB.out)⟩
      ·rw [if_neg c9] at H
       exact absurd H (by simp)
     ·replace c8 := Bool.eq_false_iff.mpr c8
      subst c8
      have H1 : ((spec_sayIn.f k1 (rdOf ByteArray.empty l0_3 x7_1) l2).bind fun t270 => (if t270 = true then (if x7_1 < (l0_4.length : Int) then (if (((rd_T25 l0_4 x7_1).f0) = 1) then (spec_sayKnown.l0 k1 l1 l2 (wrap64 (x7_1 + 1)) a0_0 a0_1 a0_2 l0_3 l0_4) else (some false)) else (none)) else (some false))) = some r := by rw [if_neg (show ¬ (false = true) by decide)] at H; exact H
      clear H
      have H := H1
      clear H1
      replace H := Option.bind_eq_some_iff.mp H
      obtain ⟨t270, A260, H⟩ := H
      replace H : (if t270 = true then (if x7_1 < (l0_4.length : Int) then (if (((rd_T25 l0_4 x7_1).f0) = 1) then (spec_sayKnown.l0 k1 l1 l2 (wrap64 (x7_1 + 1)) a0_0 a0_1 a0_2 l0_3 l0_4) else (some false)) else (none)) else (some false)) = some r := H
      have A26 := aM A260
      clear A260
      by_cases c27 : t270 = true
      ·subst c27
       have H1 : (if x7_1 < (l0_4.length : Int) then (if (((rd_T25 l0_4 x7_1).f0) = 1) then (spec_sayKnown.l0 k1 l1 l2 (wrap64 (x7_1 + 1)) a0_0 a0_1 a0_2 l0_3 l0_4) else (some false)) else (none)) = some r := by rw [if_pos rfl] at H; exact H
       clear H
       have H := H1
       clear H1
       by_cases c28 : x7_1 < (l0_4.length : Int)
       ·rw [if_pos c28] at H
        have c28b0 : decide (x7_1 < (l0_4.length : Int)) = true := decide_eq_true c28
        clear c28
        by_cases c29 : (((rd_T25 l0_4 x7_1).f0) = 1)
        ·rw [if_pos c29] at H
         have c29b0 : (((rd_T25 l0_4 x7_1).f0) == 1) = true := beq_iff_eq.mpr c29
         have c29b1 : (((rd_T25 l0_4 x7_1).f0) != 1) = false := bne_eq_false_iff_eq.mpr c29
         clear c29
         have H' := aM H
         clear H
         have hcz30_0 : wr.cell? ⟨gb261, 0, none⟩ = some (.int .i64 a0_0) := (blk_cell BK261.out 0).trans rfl
         have hcz30_1 : wr.cell? ⟨gb261, 1, none⟩ = some (.int .i64 a0_1) := (blk_cell BK261.out 1).trans rfl
         have hcz30_2 : wr.cell? ⟨gb261, 2, none⟩ = some (.string a0_2) := (blk_cell BK261.out 2).trans rfl
         have hcz30_3 : wr.cell? ⟨gb261, 3, none⟩ = some (.slice A0_3 l0_3.length c0_3) := (blk_cell BK261.out 3).trans rfl
         have hcz30_4 : wr.cell? ⟨gb261, 4, none⟩ = some (.slice A0_4 l0_4.length c0_4) := (blk_cell BK261.out 4).trans rfl
         have hfz30_0 := blk_frozen BK261.out 0
         have hfz30_1 := blk_frozen BK261.out 1
         have hfz30_2 := blk_frozen BK261.out 2
         have hfz30_3 := blk_frozen BK261.out 3
         have hfz30_4 := blk_frozen BK261.out 4
         have p262 : 0 ≤ (x7_1 : Int) := of_decide_eq_true (by first | (with_reducible assumption) | assumption)
         have q262 : x7_1 < (l0_3.length : Int) := of_decide_eq_true (by first | (with_reducible assumption) | assumption)
         obtain ⟨ad262, e262, hx262_0⟩ := Kd.at_string HR0_3.out x7_1 p262 q262
         cases e262
         replace hx262_0 := (HB.out.cell (World.block_lt_of_cell? w _ hx262_0)).trans hx262_0
         replace p262 := eq_true p262
         replace q262 := eq_true q262
         go_wp2_with (first | ((with_reducible refine gate_callee (f := 31) rfl ?_); refine goesL_ (some 21) rfl rfl Tryz.func31 (by kernel_rfl) rfl #[.string (rdOf ByteArray.empty l0_3 x7_1), .slice A1 l1.length c1] rfl (by (try simp only [List.map_toArray, List.map_cons, List.map_nil]); first | done | rfl | (simp only [List.length_drop, List.length_take]; rfl)) ?_; (with_reducible refine (spec_sayIn.calls k1 (rdOf ByteArray.empty l0_3 x7_1) _ _ l1 false _ ?side1 ?side2 A7.out).mono ?_); (case side1 => repeat (first | exact (Kd.C_below HR1.out HB.out) | (with_reducible refine Kd.C_alloc ?_ _) | (with_reducible refine Kd.C_drewN ?_ _) | (with_reducible refine Kd.C_drew ?_))); (case side2 => exact HC1.out); rintro e w' ⟨rfl, ⟨nd, rfl⟩⟩; refine ⟨_, rfl, ?_⟩; have p269 : 0 ≤ (x7_1 : Int) := of_decide_eq_true (by first | (with_reducible assumption) | assumption); have q269 : x7_1 < (l0_3.length : Int) := of_decide_eq_true (by first | (with_reducible assumption) | assumption); obtain ⟨ad269, e269, hx269_0⟩ := Kd.at_string HR0_3.out x7_1 p269 q269; obtain rfl : ad262 = ad269 := (by injection e269); replace hx269_0 := (HB.out.cell (World.block_lt_of_cell? w _ hx269_0)).trans hx269_0; replace p269 := eq_true p269; replace q269 := eq_true q269) | (go_at_call 31; (with_reducible refine (spec_sayIn.calls k1 (rdOf ByteArray.empty l0_3 x7_1) _ _ l2 true _ ?side1 ?side2 A26.out).mono ?_); (case side1 => repeat (first | exact (Kd.C_below HR2.out (by repeat (first | (with_reducible first | exact HB.out | apply below_alloc | apply pw_below_drewN | apply below_drew1 | refine below_set ?_ GE261.out) | exact HB.out))) | (with_reducible refine Kd.C_alloc ?_ _) | (with_reducible refine Kd.C_drewN ?_ _) | (with_reducible refine Kd.C_drew ?_))); (case side2 => exact HC2.out); rintro e w' ⟨rfl, ⟨nd, rfl⟩⟩; have p271 : 0 ≤ (x7_1 : Int) := of_decide_eq_true (by first | (with_reducible assumption) | assumption); have q271 : x7_1 < (l0_4.length : Int) := of_decide_eq_true (by first | (with_reducible assumption) | assumption); obtain ⟨ad271, A271_3, c271_3, A271_4, c271_4, e271, hx271_0, hx271_1, hx271_2, hx271_3, hx271_4, hl271_3, hi271_3, hl271_4, hi271_4⟩ := at_T25 HR0_4.out x7_1 p271 q271; cases e271; replace hx271_0 := (HB.out.cell (World.block_lt_of_cell? w _ hx271_0)).trans hx271_0; replace hx271_1 := (HB.out.cell (World.block_lt_of_cell? w _ hx271_1)).trans hx271_1; replace hx271_2 := (HB.out.cell (World.block_lt_of_cell? w _ hx271_2)).trans hx271_2; replace hx271_3 := (HB.out.cell (World.block_lt_of_cell? w _ hx271_3)).trans hx271_3; replace hx271_4 := (HB.out.cell (World.block_lt_of_cell? w _ hx271_4)).trans hx271_4; have HR271_3 := aM hi271_3; have HC271_3 := aM hl271_3; clear hi271_3 hl271_3; have HR271_4 := aM hi271_4; have HC271_4 := aM hl271_4; clear hi271_4 hl271_4; replace p271 := eq_true p271; replace q271 := eq_true q271))
         go_roundg k1
         case measure => have := HK1.out; omega
         case rel => exact ⟨(wrap64 (x7_1 + 1)), (by first | rfl | (simp; done) | (simp [*]; done)), H', ⟨by have := HK1.out; omega⟩, ⟨by (with_reducible repeat (first | refine blk_drewN ?_ _ | refine blk_drew ?_ | refine blk_alloc ?_ _)); exact BK261.out⟩, ⟨by repeat (first | (with_reducible first | exact HB.out | apply below_alloc | apply pw_below_drewN | apply below_drew1 | refine below_set ?_ GE261.out) | exact HB.out)⟩⟩
        ·rw [if_neg c29] at H
         have c29b0 : (((rd_T25 l0_4 x7_1).f0) == 1) = false := beq_eq_false_iff_ne.mpr c29
         have c29b1 : (((rd_T25 l0_4 x7_1).f0) != 1) = true := bne_iff_ne.mpr c29
         obtain rfl := Option.some.inj H
         have hcz31_0 : wr.cell? ⟨gb261, 0, none⟩ = some (.int .i64 a0_0) := (blk_cell BK261.out 0).trans rfl
         have hcz31_1 : wr.cell? ⟨gb261, 1, none⟩ = some (.int .i64 a0_1) := (blk_cell BK261.out 1).trans rfl
         have hcz31_2 : wr.cell? ⟨gb261, 2, none⟩ = some (.string a0_2) := (blk_cell BK261.out 2).trans rfl
         have hcz31_3 : wr.cell? ⟨gb261, 3, none⟩ = some (.slice A0_3 l0_3.length c0_3) := (blk_cell BK261.out 3).trans rfl
         have hcz31_4 : wr.cell? ⟨gb261, 4, none⟩ = some (.slice A0_4 l0_4.length c0_4) := (blk_cell BK261.out 4).trans rfl
         have hfz31_0 := blk_frozen BK261.out 0
         have hfz31_1 := blk_frozen BK261.out 1
         have hfz31_2 := blk_frozen BK261.out 2
         have hfz31_3 := blk_frozen BK261.out 3
         have hfz31_4 := blk_frozen BK261.out 4
         have p262 : 0 ≤ (x7_1 : Int) := of_decide_eq_true (by first | (with_reducible assumption) | assumption)
         have q262 : x7_1 < (l0_3.length : Int) := of_decide_eq_true (by first | (with_reducible assumption) | assumption)
         obtain ⟨ad262, e262, hx262_0⟩ := Kd.at_string HR0_3.out x7_1 p262 q262
         cases e262
         replace hx262_0 := (HB.out.cell (World.block_lt_of_cell? w _ hx262_0)).trans hx262_0
         replace p262 := eq_true p262
         replace q262 := eq_true q262
         go_wp2_with (first | ((with_reducible refine gate_callee (f := 31) rfl ?_); refine goesL_ (some 21) rfl rfl Tryz.func31 (by kernel_rfl) rfl #[.string (rdOf ByteArray.empty l0_3 x7_1), .slice A1 l1.length c1] rfl (by (try simp only [List.map_toArray, List.map_cons, List.map_nil]); first | done | rfl | (simp only [List.length_drop, List.length_take]; rfl)) ?_; (with_reducible refine (spec_sayIn.calls k1 (rdOf ByteArray.empty l0_3 x7_1) _ _ l1 false _ ?side1 ?side2 A7.out).mono ?_); (case side1 => repeat (first | exact (Kd.C_below HR1.out HB.out) | (with_reducible refine Kd.C_alloc ?_ _) | (with_reducible refine Kd.C_drewN ?_ _) | (with_reducible refine Kd.C_drew ?_))); (case side2 => exact HC1.out); rintro e w' ⟨rfl, ⟨nd, rfl⟩⟩; refine ⟨_, rfl, ?_⟩; have p269 : 0 ≤ (x7_1 : Int) := of_decide_eq_true (by first | (with_reducible assumption) | assumption); have q269 : x7_1 < (l0_3.length : Int) := of_decide_eq_true (by first | (with_reducible assumption) | assumption); obtain ⟨ad269, e269, hx269_0⟩ := Kd.at_string HR0_3.out x7_1 p269 q269; obtain rfl : ad262 = ad269 := (by injection e269); replace hx269_0 := (HB.out.cell (World.block_lt_of_cell? w _ hx269_0)).trans hx269_0; replace p269 := eq_true p269; replace q269 := eq_true q269) | (go_at_call 31; (with_reducible refine (spec_sayIn.calls k1 (rdOf ByteArray.empty l0_3 x7_1) _ _ l2 true _ ?side1 ?side2 A26.out).mono ?_); (case side1 => repeat (first | exact (Kd.C_below HR2.out (by repeat (first | (with_reducible first | exact HB.out | apply below_alloc | apply pw_below_drewN | apply below_drew1 | refine below_set ?_ GE261.out) | exact HB.out))) | (with_reducible refine Kd.C_alloc ?_ _) | (with_reducible refine Kd.C_drewN ?_ _) | (with_reducible refine Kd.C_drew ?_))); (case side2 => exact HC2.out); rintro e w' ⟨rfl, ⟨nd, rfl⟩⟩; have p271 : 0 ≤ (x7_1 : Int) := of_decide_eq_true (by first | (with_reducible assumption) | assumption); have q271 : x7_1 < (l0_4.length : Int) := of_decide_eq_true (by first | (with_reducible assumption) | assumption); obtain ⟨ad271, A271_3, c271_3, A271_4, c271_4, e271, hx271_0, hx271_1, hx271_2, hx271_3, hx271_4, hl271_3, hi271_3, hl271_4, hi271_4⟩ := at_T25 HR0_4.out x7_1 p271 q271; cases e271; replace hx271_0 := (HB.out.cell (World.block_lt_of_cell? w _ hx271_0)).trans hx271_0; replace hx271_1 := (HB.out.cell (World.block_lt_of_cell? w _ hx271_1)).trans hx271_1; replace hx271_2 := (HB.out.cell (World.block_lt_of_cell? w _ hx271_2)).trans hx271_2; replace hx271_3 := (HB.out.cell (World.block_lt_of_cell? w _ hx271_3)).trans hx271_3; replace hx271_4 := (HB.out.cell (World.block_lt_of_cell? w _ hx271_4)).trans hx271_4; have HR271_3 := aM hi271_3; have HC271_3 := aM hl271_3; clear hi271_3 hl271_3; have HR271_4 := aM hi271_4; have HC271_4 := aM hl271_4; clear hi271_4 hl271_4; replace p271 := eq_true p271; replace q271 := eq_true q271))
         go_ret
         exact ⟨by first | rfl | (simp [errW_none, errW_some] <;> rfl) | (simp [*, errW_none, errW_some] <;> rfl), by repeat (first | (with_reducible first | exact HB.out | apply below_alloc | apply pw_below_drewN | apply below_drew1 | refine below_set ?_ GE261.out) | exact HB.out)⟩
       ·rw [if_neg c28] at H
        exact absurd H (by simp)
      ·replace c27 := Bool.eq_false_iff.mpr c27
       subst c27
       have H1 : (some false) = some r := by rw [if_neg (show ¬ (false = true) by decide)] at H; exact H
       clear H
       have H := H1
       clear H1
       obtain rfl := Option.some.inj H
       have hcz32_0 : wr.cell? ⟨gb261, 0, none⟩ = some (.int .i64 a0_0) := (blk_cell BK261.out 0).trans rfl
       have hcz32_1 : wr.cell? ⟨gb261, 1, none⟩ = some (.int .i64 a0_1) := (blk_cell BK261.out 1).trans rfl
       have hcz32_2 : wr.cell? ⟨gb261, 2, none⟩ = some (.string a0_2) := (blk_cell BK261.out 2).trans rfl
       have hcz32_3 : wr.cell? ⟨gb261, 3, none⟩ = some (.slice A0_3 l0_3.length c0_3) := (blk_cell BK261.out 3).trans rfl
       have hcz32_4 : wr.cell? ⟨gb261, 4, none⟩ = some (.slice A0_4 l0_4.length c0_4) := (blk_cell BK261.out 4).trans rfl
       have hfz32_0 := blk_frozen BK261.out 0
       have hfz32_1 := blk_frozen BK261.out 1
       have hfz32_2 := blk_frozen BK261.out 2
       have hfz32_3 := blk_frozen BK261.out 3
       have hfz32_4 := blk_frozen BK261.out 4
       have p262 : 0 ≤ (x7_1 : Int) := of_decide_eq_true (by first | (with_reducible assumption) | assumption)
       have q262 : x7_1 < (l0_3.length : Int) := of_decide_eq_true (by first | (with_reducible assumption) | assumption)
       obtain ⟨ad262, e262, hx262_0⟩ := Kd.at_string HR0_3.out x7_1 p262 q262
       cases e262
       replace hx262_0 := (HB.out.cell (World.block_lt_of_cell? w _ hx262_0)).trans hx262_0
       replace p262 := eq_true p262
       replace q262 := eq_true q262
       go_wp2_with (first | ((with_reducible refine gate_callee (f := 31) rfl ?_); refine goesL_ (some 21) rfl rfl Tryz.func31 (by kernel_rfl) rfl #[.string (rdOf ByteArray.empty l0_3 x7_1), .slice A1 l1.length c1] rfl (by (try simp only [List.map_toArray, List.map_cons, List.map_nil]); first | done | rfl | (simp only [List.length_drop, List.length_take]; rfl)) ?_; (with_reducible refine (spec_sayIn.calls k1 (rdOf ByteArray.empty l0_3 x7_1) _ _ l1 false _ ?side1 ?side2 A7.out).mono ?_); (case side1 => repeat (first | exact (Kd.C_below HR1.out HB.out) | (with_reducible refine Kd.C_alloc ?_ _) | (with_reducible refine Kd.C_drewN ?_ _) | (with_reducible refine Kd.C_drew ?_))); (case side2 => exact HC1.out); rintro e w' ⟨rfl, ⟨nd, rfl⟩⟩; refine ⟨_, rfl, ?_⟩; have p269 : 0 ≤ (x7_1 : Int) := of_decide_eq_true (by first | (with_reducible assumption) | assumption); have q269 : x7_1 < (l0_3.length : Int) := of_decide_eq_true (by first | (with_reducible assumption) | assumption); obtain ⟨ad269, e269, hx269_0⟩ := Kd.at_string HR0_3.out x7_1 p269 q269; obtain rfl : ad262 = ad269 := (by injection e269); replace hx269_0 := (HB.out.cell (World.block_lt_of_cell? w _ hx269_0)).trans hx269_0; replace p269 := eq_true p269; replace q269 := eq_true q269) | (go_at_call 31; (with_reducible refine (spec_sayIn.calls k1 (rdOf ByteArray.empty l0_3 x7_1) _ _ l2 false _ ?side1 ?side2 A26.out).mono ?_); (case side1 => repeat (first | exact (Kd.C_below HR2.out (by repeat (first | (with_reducible first | exact HB.out | apply below_alloc | apply pw_below_drewN | apply below_drew1 | refine below_set ?_ GE261.out) | exact HB.out))) | (with_reducible refine Kd.C_alloc ?_ _) | (with_reducible refine Kd.C_drewN ?_ _) | (with_reducible refine Kd.C_drew ?_))); (case side2 => exact HC2.out); rintro e w' ⟨rfl, ⟨nd, rfl⟩⟩))
       go_ret
       exact ⟨by first | rfl | (simp [errW_none, errW_some] <;> rfl) | (simp [*, errW_none, errW_some] <;> rfl), by repeat (first | (with_reducible first | exact HB.out | apply below_alloc | apply pw_below_drewN | apply below_drew1 | refine below_set ?_ GE261.out) | exact HB.out)⟩
    ·rw [if_neg c6] at H
     exact absurd H (by simp)
   ·rw [if_neg c5] at H
    have c5b0 : decide (x7_1 < (l0_3.length : Int)) = false := decide_eq_false c5
    clear c5
    by_cases c33 : a0_0 = 5
    ·rw [if_pos c33] at H
     have c33b0 : (a0_0 == 5) = true := beq_iff_eq.mpr c33
     have c33b1 : (a0_0 != 5) = false := bne_eq_false_iff_eq.mpr c33
     clear c33
     obtain rfl := Option.some.inj H
     have hcz34_0 : wr.cell? ⟨gb261, 0, none⟩ = some (.int .i64 a0_0) := (blk_cell BK261.out 0).trans rfl
     have hcz34_1 : wr.cell? ⟨gb261, 1, none⟩ = some (.int .i64 a0_1) := (blk_cell BK261.out 1).trans rfl
     have hcz34_2 : wr.cell? ⟨gb261, 2, none⟩ = some (.string a0_2) := (blk_cell BK261.out 2).trans rfl
     have hcz34_3 : wr.cell? ⟨gb261, 3, none⟩ = some (.slice A0_3 l0_3.length c0_3) := (blk_cell BK261.out 3).trans rfl
     have hcz34_4 : wr.cell? ⟨gb261, 4, none⟩ = some (.slice A0_4 l0_4.length c0_4) := (blk_cell BK261.out 4).trans rfl
     have hfz34_0 := blk_frozen BK261.out 0
     have hfz34_1 := blk_frozen BK261.out 1
     have hfz34_2 := blk_frozen BK261.out 2
     have hfz34_3 := blk_frozen BK261.out 3
     have hfz34_4 := blk_frozen BK261.out 4
     go_wp2
     go_ret
     exact ⟨by first | rfl | (simp [errW_none, errW_some] <;> rfl) | (simp [*, errW_none, errW_some] <;> rfl), by repeat (first | (with_reducible first | exact HB.out | apply below_alloc | apply pw_below_drewN | apply below_drew1 | refine below_set ?_ GE261.out) | exact HB.out)⟩
    ·rw [if_neg c33] at H
     have c33b0 : (a0_0 == 5) = false := beq_eq_false_iff_ne.mpr c33
     have c33b1 : (a0_0 != 5) = true := bne_iff_ne.mpr c33
     obtain rfl := Option.some.inj H
     have hcz35_0 : wr.cell? ⟨gb261, 0, none⟩ = some (.int .i64 a0_0) := (blk_cell BK261.out 0).trans rfl
     have hcz35_1 : wr.cell? ⟨gb261, 1, none⟩ = some (.int .i64 a0_1) := (blk_cell BK261.out 1).trans rfl
     have hcz35_2 : wr.cell? ⟨gb261, 2, none⟩ = some (.string a0_2) := (blk_cell BK261.out 2).trans rfl
     have hcz35_3 : wr.cell? ⟨gb261, 3, none⟩ = some (.slice A0_3 l0_3.length c0_3) := (blk_cell BK261.out 3).trans rfl
     have hcz35_4 : wr.cell? ⟨gb261, 4, none⟩ = some (.slice A0_4 l0_4.length c0_4) := (blk_cell BK261.out 4).trans rfl
     have hfz35_0 := blk_frozen BK261.out 0
     have hfz35_1 := blk_frozen BK261.out 1
     have hfz35_2 := blk_frozen BK261.out 2
     have hfz35_3 := blk_frozen BK261.out 3
     have hfz35_4 := blk_frozen BK261.out 4
     go_wp2
     go_ret
     exact ⟨by first | rfl | (simp [errW_none, errW_some] <;> rfl) | (simp [*, errW_none, errW_some] <;> rfl), by repeat (first | (with_reducible first | exact HB.out | apply below_alloc | apply pw_below_drewN | apply below_drew1 | refine below_set ?_ GE261.out) | exact HB.out)⟩
end Go.Proofs.YtaembebbaejfiaaGreatDoor.PS
namespace Go.Proofs.YtaembebbaejfiaaGreatDoor.Tr
open Go.RowKit Go.Proofs.YtaembebbaejfiaaGreatDoorW.PrintWords Go.Proofs.YtaembebbaejfiaaGreatDoorW.PrintLast Go.Proofs.YtaembebbaejfiaaGreatDoor.Str Go.Proofs.YtaembebbaejfiaaGreatDoor.Kit Go.Proofs.YtaembebbaejfiaaGreatDoor.MapV Go.Proofs.YtaembebbaejfiaaGreatDoor.Frame Go.Proofs.YtaembebbaejfiaaGreatDoor.PS
open Go.Proofs.YtaembebbaejfiaaGreatDoor.Val (place placeI placeB placeI_hit placeI_end)
set_option linter.unusedVariables false
set_option linter.unusedSimpArgs false
theorem ends_sayText (x : VS) (ht : TextIn x) : Ends (fun b => b = true → x.f0 = 3) (fun k => spec_sayText.f k x.f0 x.f1 x.f2 x.f3 x.f4) := by
 unfold spec_sayText.f
 exact Ends.ite (fun h3 => Ends.bind (ends_sayWord _ ht) (fun b _ => Ends.now (fun _ => h3))) (fun _ => Ends.now (fun h => by cases h))
def KnownAt (ws ts : List BA) (k : BA) (v : VS) : Prop := (inB k ws = true ∧ v.f0 = 3) ∨ (inB k ts = true ∧ v.f0 = 1)
theorem ends_sayKnown_l (ws ts : List BA) (x : VS) (hw : ws.length < 4611686018427387904) (hts : ts.length < 4611686018427387904) (hl : x.f3.length < 4611686018427387904) (hlen : x.f3.length ≤ x.f4.length) (ht : ∀ v, v ∈ x.f4 → TextIn v) : ∀ (d i : Nat), i + d = x.f3.length →
  Ends (fun b => b = true → x.f0 = 5 ∧ ∀ (j : Nat) (hj : j < x.f3.length), i ≤ j → KnownAt ws ts x.f3[j] (x.f4[j]'(by omega))) (fun k => spec_sayKnown.l0 k ws ts (i : Int) x.f0 x.f1 x.f2 x.f3 x.f4) := by
 intro d
 induction d with
 | zero =>
  intro i hi
  refine Ends.step (fun k => by simp only [spec_sayKnown.l0]; rfl) ?_
  exact Ends.no (by omega) (Ends.ite (fun h => Ends.now (fun _ => ⟨h, fun j hj hij => absurd hj (by omega)⟩)) (fun _ => Ends.now (fun h => by cases h)))
 | succ d ih =>
  intro i hi
  have hlt : i < x.f3.length := by omega
  have hlt4 : i < x.f4.length := by omega
  have hn := ih (i + 1) (by omega)
  have more : ∀ (q : KnownAt ws ts x.f3[i] x.f4[i]), Ends (fun b => b = true → x.f0 = 5 ∧ ∀ (j : Nat) (hj : j < x.f3.length), i ≤ j → KnownAt ws ts x.f3[j] (x.f4[j]'(by omega))) (fun k => spec_sayKnown.l0 k ws ts ((i + 1 : Nat) : Int) x.f0 x.f1 x.f2 x.f3 x.f4) := fun q => hn.mono (fun r hr h => by
   obtain ⟨h5, hj⟩ := hr h
   refine ⟨h5, fun j hjl hij => ?_⟩
   by_cases e : j = i
   ·subst e; exact q
   ·exact hj j hjl (by omega))
  refine Ends.step (fun k => by simp only [spec_sayKnown.l0]; rfl) ?_
  rw [wrapS i (by omega), rdS hlt4, rdB hlt]
  have tail : ∀ (q : inB x.f3[i] ts = true → x.f4[i].f0 = 1 → KnownAt ws ts x.f3[i] x.f4[i]), True := fun _ => trivial
  refine Ends.yes (by omega) (Ends.yes (by omega) (Ends.bind (Ev.ends (ev_sayIn _ _ hw)) (fun b hb => ?_)))
  subst hb
  refine Ends.ite (fun h1 => Ends.yes (by omega) (Ends.bind (ends_sayText _ (ht _ (List.getElem_mem hlt4))) (fun b hb => Ends.ite (fun h2 => more (.inl ⟨h1, hb h2⟩)) (fun _ => Ends.bind (Ev.ends (ev_sayIn _ _ hts)) (fun c hc => Ends.ite (fun h3 => Ends.ite (fun h4 => more (.inr ⟨hc ▸ h3, h4⟩)) (fun _ => Ends.now (fun h => by cases h))) (fun _ => Ends.now (fun h => by cases h)))))))
   (fun _ => Ends.bind (Ev.ends (ev_sayIn _ _ hts)) (fun c hc => Ends.ite (fun h3 => Ends.yes (by omega) (Ends.ite (fun h4 => more (.inr ⟨hc ▸ h3, h4⟩)) (fun _ => Ends.now (fun h => by cases h)))) (fun _ => Ends.now (fun h => by cases h))))
theorem ends_sayKnown (ws ts : List BA) (x : VS) (hw : ws.length < 4611686018427387904) (hts : ts.length < 4611686018427387904) (hl : x.f3.length < 4611686018427387904) (hlen : x.f3.length ≤ x.f4.length) (ht : ∀ v, v ∈ x.f4 → TextIn v) :
  Ends (fun b => b = true → x.f0 = 5 ∧ ∀ (j : Nat) (hj : j < x.f3.length), KnownAt ws ts x.f3[j] (x.f4[j]'(by omega))) (fun k => spec_sayKnown.f k x.f0 x.f1 x.f2 x.f3 x.f4 ws ts) :=
 (ends_sayKnown_l ws ts x hw hts hl hlen ht x.f3.length 0 (by omega)).mono (fun r hr h => ⟨(hr h).1, fun j hj => (hr h).2 j hj (Nat.zero_le _)⟩)
end Go.Proofs.YtaembebbaejfiaaGreatDoor.Tr
namespace Go.Proofs.YtaembebbaejfiaaGreatDoor.Tr
open Go.RowKit Go.Proofs.YtaembebbaejfiaaGreatDoorW.PrintWords Go.Proofs.YtaembebbaejfiaaGreatDoorW.PrintLast Go.Proofs.YtaembebbaejfiaaGreatDoor.Str Go.Proofs.YtaembebbaejfiaaGreatDoor.Kit Go.Proofs.YtaembebbaejfiaaGreatDoor.MapV Go.Proofs.YtaembebbaejfiaaGreatDoor.Frame Go.Proofs.YtaembebbaejfiaaGreatDoor.PS
set_option linter.unusedVariables false
set_option linter.unusedSimpArgs false
def Turns (ig : Bool) (x y : VI) : Prop := ∀ (w : World) (A3 A4 : Option Addr) (c3 c4 : Nat), x.f3.length ≤ c3 → Kd.string.C w A3 x.f3.length x.f3 → x.f4.length ≤ c4 → kI.C w A4 x.f4.length x.f4 →
  Calls Tryz.prog 9 #[.agg #[.int .i64 x.f0, .int .i64 x.f1, .string x.f2, .slice A3 x.f3.length c3, .slice A4 x.f4.length c4], .bool ig] w (Told w y)
theorem from_calls (x : VI) (z : VS) (hz : fromI x = z) (hx : Small x) (A3 A4 : Option Addr) (c3 c4 : Nat) (w : World) (l3 : x.f3.length ≤ c3) (hk : Kd.string.C w A3 x.f3.length x.f3) (l4 : x.f4.length ≤ c4) (hv : kI.C w A4 x.f4.length x.f4) :
  Calls Tryz.prog 23 #[.agg #[.int .i64 x.f0, .int .i64 x.f1, .string x.f2, .slice A3 x.f3.length c3, .slice A4 x.f4.length c4]] w fun e w' => ∃ B3 d3 B4 d4, e = .returned (.agg #[.int .i64 z.f0, .int .i64 z.f1, .string z.f2, .slice B3 z.f3.length d3, .slice B4 z.f4.length d4]) ∧ z.f3.length ≤ d3 ∧ Kd.string.C w' B3 z.f3.length z.f3 ∧ z.f4.length ≤ d4 ∧ kS.C w' B4 z.f4.length z.f4 ∧ Below w.heap.size w w' := by
 subst hz
 obtain ⟨k, hk'⟩ := (ev_from x hx).rounds
 refine (laws_from.calls k x.f0 x.f1 x.f2 A3 c3 x.f3 A4 c4 x.f4 _ _ _ _ _ w hk l3 hv l4 hk').mono ?_
 rintro e w1 ⟨v3, v4, rfl, hr3, hr4, hb⟩
 obtain ⟨B3, d3, rfl, m3, g3⟩ := Kd.R_reads hr3
 obtain ⟨B4, d4, rfl, m4, g4⟩ := Kd.R_reads hr4
 exact ⟨B3, d3, B4, d4, rfl, m3, g3, m4, g4, hb⟩
theorem to_calls (x : VS) (hx : SmallS x) (A3 A4 : Option Addr) (c3 c4 : Nat) (w : World) (l3 : x.f3.length ≤ c3) (hk : Kd.string.C w A3 x.f3.length x.f3) (l4 : x.f4.length ≤ c4) (hv : kS.C w A4 x.f4.length x.f4) :
  Calls Tryz.prog 21 #[.agg #[.int .i64 x.f0, .int .i64 x.f1, .string x.f2, .slice A3 x.f3.length c3, .slice A4 x.f4.length c4]] w fun e w' => ∃ B3 d3 B4 d4, e = .returned (.agg #[.int .i64 (toI x).f0, .int .i64 (toI x).f1, .string (toI x).f2, .slice B3 (toI x).f3.length d3, .slice B4 (toI x).f4.length d4]) ∧ (toI x).f3.length ≤ d3 ∧ Kd.string.C w' B3 (toI x).f3.length (toI x).f3 ∧ (toI x).f4.length ≤ d4 ∧ kI.C w' B4 (toI x).f4.length (toI x).f4 ∧ Below w.heap.size w w' := by
 obtain ⟨k, hk'⟩ := (ev_to x hx).rounds
 refine (laws_to.calls k x.f0 x.f1 x.f2 A3 c3 x.f3 A4 c4 x.f4 _ _ _ _ _ w hk l3 hv l4 hk').mono ?_
 rintro e w1 ⟨v3, v4, rfl, hr3, hr4, hb⟩
 obtain ⟨B3, d3, rfl, m3, g3⟩ := Kd.R_reads hr3
 obtain ⟨B4, d4, rfl, m4, g4⟩ := Kd.R_reads hr4
 exact ⟨B3, d3, B4, d4, rfl, m3, g3, m4, g4, hb⟩
theorem same_calls (x : VS) (hx : Short x) (A3 A4 : Option Addr) (c3 c4 : Nat) (B3 B4 : Option Addr) (d3 d4 : Nat) (w : World) (l3 : x.f3.length ≤ c3) (hk : Kd.string.C w A3 x.f3.length x.f3) (l4 : x.f4.length ≤ c4) (hv : kS.C w A4 x.f4.length x.f4) (m3 : x.f3.length ≤ d3) (jk : Kd.string.C w B3 x.f3.length x.f3) (m4 : x.f4.length ≤ d4) (jv : kS.C w B4 x.f4.length x.f4) :
  Calls Tryz.prog 22 #[.agg #[.int .i64 x.f0, .int .i64 x.f1, .string x.f2, .slice A3 x.f3.length c3, .slice A4 x.f4.length c4], .agg #[.int .i64 x.f0, .int .i64 x.f1, .string x.f2, .slice B3 x.f3.length d3, .slice B4 x.f4.length d4]] w fun e w' => e = .returned (.bool true) ∧ Below w.heap.size w w' := by
 obtain ⟨k, hk'⟩ := (ev_same x hx).rounds
 exact spec_Same.calls k x.f0 x.f1 x.f2 A3 c3 x.f3 A4 c4 x.f4 x.f0 x.f1 x.f2 B3 d3 x.f3 B4 d4 x.f4 true w hk l3 hv l4 jk m3 jv m4 hk'
theorem cell_row5 {w : World} {b : Nat} {T : TypeId} {v0 v1 v2 v3 v4 : Value} (h : w.heap[b]? = some (.cells #[v0, v1, v2, v3, v4] T (0, 0))) :
  w.cell? ⟨b, 0, none⟩ = some v0 ∧ w.cell? ⟨b, 1, none⟩ = some v1 ∧ w.cell? ⟨b, 2, none⟩ = some v2 ∧ w.cell? ⟨b, 3, none⟩ = some v3 ∧ w.cell? ⟨b, 4, none⟩ = some v4 := by
 simp [World.cell?, h]
set_option maxHeartbeats 3200000 in
set_option maxRecDepth 100000 in
theorem part_is (ig : Bool) (x want : VS) (y1 y2 : VI) (hx : SmallS x) (h1 : Turns ig (toI x) y1) (h2 : Turns ig y1 y2) (hy1 : Small y1) (hy2 : Small y2) (e1 : fromI y1 = want) (e2 : fromI y2 = want) (hw : Short want)
  (A3 A4 B3 B4 : Option Addr) (c3 c4 d3 d4 : Nat) (w : World) (l3 : x.f3.length ≤ c3) (hk : Kd.string.C w A3 x.f3.length x.f3) (l4 : x.f4.length ≤ c4) (hv : kS.C w A4 x.f4.length x.f4) (m3 : want.f3.length ≤ d3) (jk : Kd.string.C w B3 want.f3.length want.f3) (m4 : want.f4.length ≤ d4) (jv : kS.C w B4 want.f4.length want.f4) :
  Calls Tryz.prog 8 #[.func (.func 9) #[] #[], .agg #[.int .i64 x.f0, .int .i64 x.f1, .string x.f2, .slice A3 x.f3.length c3, .slice A4 x.f4.length c4], .agg #[.int .i64 want.f0, .int .i64 want.f1, .string want.f2, .slice B3 want.f3.length d3, .slice B4 want.f4.length d4], .bool ig] w fun e w' => e = .returned (.bool true) ∧ Below w.heap.size w w' := by
 have hb1 := below_alloc (Below.refl w.heap.size w) (.cells #[.int .i64 x.f0, .int .i64 x.f1, .string x.f2, .slice A3 x.f3.length c3, .slice A4 x.f4.length c4] 25)
 have hb2 := below_alloc hb1 (.cells #[.int .i64 want.f0, .int .i64 want.f1, .string want.f2, .slice B3 want.f3.length d3, .slice B4 want.f4.length d4] 25)
 have HB := aM hb2
 have hxb : ((w.alloc (.cells #[.int .i64 x.f0, .int .i64 x.f1, .string x.f2, .slice A3 x.f3.length c3, .slice A4 x.f4.length c4] 25)).alloc (.cells #[.int .i64 want.f0, .int .i64 want.f1, .string want.f2, .slice B3 want.f3.length d3, .slice B4 want.f4.length d4] 25)).heap[w.heap.size]? = some (.cells #[.int .i64 x.f0, .int .i64 x.f1, .string x.f2, .slice A3 x.f3.length c3, .slice A4 x.f4.length c4] 25 (0, 0)) := blk_alloc (cb_new _ _) _
 have hwb := cb_new (w.alloc (.cells #[.int .i64 x.f0, .int .i64 x.f1, .string x.f2, .slice A3 x.f3.length c3, .slice A4 x.f4.length c4] 25)) (.cells #[.int .i64 want.f0, .int .i64 want.f1, .string want.f2, .slice B3 want.f3.length d3, .slice B4 want.f4.length d4] 25)
 rw [World.size_alloc] at hwb
 have HW := aM hwb
 have CT := aM (to_calls x hx A3 A4 c3 c4 _ l3 (Kd.C_below hk hb2) l4 (Kd.C_below hv hb2))
 have JK := aM (Kd.C_below jk hb2)
 have JV := aM (Kd.C_below jv hb2)
 have H1 := aM h1
 have H2 := aM h2
 have E1 := aM e1
 have E2 := aM e2
 clear hb1 hb2 hwb hk hv jk jv h1 h2 e1 e2
 generalize toI x = x1 at CT H1
 obtain ⟨z0, z1, z2, z3, z4⟩ := x1
 obtain ⟨p0, p1, p2, p3, p4⟩ := y1
 obtain ⟨q0, q1, q2, q3, q4⟩ := y2
 go_enter Tryz.func8, Tryz.ntmps8
 go_wp2_with (refine load_val (.tmp 5) rfl rfl rfl hxb ?_)
 refine CT.out.mono ?_
 rintro e w1 ⟨G3, g3, G4, g4, rfl, k3, r3, k4, r4, hb⟩
 have HB1 := aM (hb_then HB.out hb)
 have HW1 := aM ((hb.block _ (cb_lt HW.out)).trans HW.out)
 have JK1 := aM (Kd.C_below JK.out hb)
 have JV1 := aM (Kd.C_below JV.out hb)
 have CG := aM (H1.out w1 G3 G4 g3 g4 k3 r3 k4 r4)
 clear hb CT r3 r4 k3 k4 HB HW JK JV hxb H1
 go_wp2_with fail
 refine CG.out.mono ?_
 rintro e w2 ⟨v3, v4, rfl, hv3, hv4, hb⟩
 obtain ⟨P3, a3, rfl, k3, r3⟩ := Kd.R_reads hv3
 obtain ⟨P4, a4, rfl, k4, r4⟩ := Kd.R_reads hv4
 have hbn := below_alloc (Below.refl w2.heap.size w2) (.cells #[.int .i64 p0, .int .i64 p1, .string p2, .slice P3 p3.length a3, .slice P4 p4.length a4] 45)
 have HB2 := aM (hb_then (hb_then HB1.out hb) hbn)
 have HW2 := aM (blk_alloc ((hb.block _ (cb_lt HW1.out)).trans HW1.out) (.cells #[.int .i64 p0, .int .i64 p1, .string p2, .slice P3 p3.length a3, .slice P4 p4.length a4] 45))
 have JK2 := aM (Kd.C_below (Kd.C_below JK1.out hb) hbn)
 have JV2 := aM (Kd.C_below (Kd.C_below JV1.out hb) hbn)
 have RK2 := aM (Kd.C_below r3 hbn)
 have RV2 := aM (Kd.C_below r4 hbn)
 have hp := cb_new w2 (.cells #[.int .i64 p0, .int .i64 p1, .string p2, .slice P3 p3.length a3, .slice P4 p4.length a4] 45)
 have HP2 := aM hp
 have CG2 := aM (H2.out _ P3 P4 a3 a4 k3 (Kd.C_below r3 hbn) k4 (Kd.C_below r4 hbn))
 clear hb CG r3 r4 HB1 HW1 JK1 JV1 H2 hv3 hv4 hbn
 go_wp2_with (refine load_ival (.tmp 9) rfl rfl rfl hp ?_)
 refine CG2.out.mono ?_
 rintro e w3 ⟨v3, v4, rfl, hv3, hv4, hb⟩
 obtain ⟨Q3, s3, rfl, n3, t3⟩ := Kd.R_reads hv3
 obtain ⟨Q4, s4, rfl, n4, t4⟩ := Kd.R_reads hv4
 have hbn := below_alloc (Below.refl w3.heap.size w3) (.cells #[.int .i64 q0, .int .i64 q1, .string q2, .slice Q3 q3.length s3, .slice Q4 q4.length s4] 45)
 have hbw := hb_then hb hbn
 have HB3 := aM (hb_then HB2.out hbw)
 have HP3 := aM (cell_row5 ((hbw.block _ (cb_lt HP2.out)).trans HP2.out))
 have HW3 := aM (cell_row5 ((hbw.block _ (cb_lt HW2.out)).trans HW2.out))
 have HQ3 := aM (cell_row5 (cb_new w3 (.cells #[.int .i64 q0, .int .i64 q1, .string q2, .slice Q3 q3.length s3, .slice Q4 q4.length s4] 45)))
 have JK3 := aM (Kd.C_below JK2.out hbw)
 have JV3 := aM (Kd.C_below JV2.out hbw)
 have RK3 := aM (Kd.C_below RK2.out hbw)
 have RV3 := aM (Kd.C_below RV2.out hbw)
 have QK3 := aM (Kd.C_below t3 hbn)
 have QV3 := aM (Kd.C_below t4 hbn)
 have HL3 := aM k3
 have HL4 := aM k4
 have HM3 := aM n3
 have HM4 := aM n4
 clear hb hbw hbn hv3 hv4 t3 t4 CG2 JK2 JV2 RK2 RV2 HP2 HW2 HB2 k3 k4 n3 n4 hp
 go_wp2
 generalize hW0 : w3.alloc _ = W0 at HB3 HP3 HW3 HQ3 JK3 JV3 RK3 RV3 QK3 QV3 ⊢
 obtain ⟨x0, x1, x2, x3, x4⟩ := HP3.out
 obtain ⟨x5, x6, x7, x8, x9⟩ := HW3.out
 obtain ⟨x10, x11, x12, x13, x14⟩ := HQ3.out
 clear HP3 HW3 HQ3 hW0
 refine start_ (n := 17) (S := fun w' => w'.cell? ⟨w2.heap.size, 0, none⟩ = some (.int .i64 p0) ∧ w'.cell? ⟨w2.heap.size, 1, none⟩ = some (.int .i64 p1) ∧ w'.cell? ⟨w2.heap.size, 2, none⟩ = some (.string p2) ∧ w'.cell? ⟨w2.heap.size, 3, none⟩ = some (.slice P3 p3.length a3) ∧ w'.cell? ⟨w2.heap.size, 4, none⟩ = some (.slice P4 p4.length a4) ∧ w'.cell? ⟨w.heap.size + 1, 0, none⟩ = some (.int .i64 want.f0) ∧ w'.cell? ⟨w.heap.size + 1, 1, none⟩ = some (.int .i64 want.f1) ∧ w'.cell? ⟨w.heap.size + 1, 2, none⟩ = some (.string want.f2) ∧ w'.cell? ⟨w.heap.size + 1, 3, none⟩ = some (.slice B3 want.f3.length d3) ∧ w'.cell? ⟨w.heap.size + 1, 4, none⟩ = some (.slice B4 want.f4.length d4) ∧ w'.cell? ⟨w3.heap.size, 0, none⟩ = some (.int .i64 q0) ∧ w'.cell? ⟨w3.heap.size, 1, none⟩ = some (.int .i64 q1) ∧ w'.cell? ⟨w3.heap.size, 2, none⟩ = some (.string q2) ∧ w'.cell? ⟨w3.heap.size, 3, none⟩ = some (.slice Q3 q3.length s3) ∧ w'.cell? ⟨w3.heap.size, 4, none⟩ = some (.slice Q4 q4.length s4)) (ds := []) #[false, false, false, false, false, false, false, false, false, false, false, false, false, false, false, false, false] (by kernel_rfl) rfl rfl ⟨x0, x1, x2, x3, x4, x5, x6, x7, x8, x9, x10, x11, x12, x13, x14⟩ (fun hHeld => ?_)
 refine pure_ (i := 0) (N := some 28) (v := ?_) (a' := ?_) #[true, false, false, false, false, false, false, false, false, false, false, false, false, false, false, false, false] rfl rfl (by kernel_rfl) (fun _ _ _ h => h) (Or.inl ⟨by rfl, ?_⟩) ?_ ?_
 rotate_left
 ·intro w'; go_simp; with_reducible rfl
 rotate_left
 ·simp only [Act.put, sA, sB, sC, i64_w, i32_w]; rfl
 refine pure_ (i := 1) (N := some 29) (v := ?_) (a' := ?_) #[true, true, false, false, false, false, false, false, false, false, false, false, false, false, false, false, false] rfl rfl (by kernel_rfl) (fun _ _ _ h => h) (Or.inl ⟨by rfl, ?_⟩) ?_ ?_
 rotate_left
 ·intro w'; go_simp; with_reducible rfl
 rotate_left
 ·simp only [Act.put, sA, sB, sC, i64_w, i32_w]; rfl
 refine pure_ (i := 2) (N := some 30) (v := ?_) (a' := ?_) #[true, true, true, false, false, false, false, false, false, false, false, false, false, false, false, false, false] rfl rfl (by kernel_rfl) (fun _ _ _ h => h) (Or.inl ⟨by rfl, ?_⟩) ?_ ?_
 rotate_left
 ·intro w'; go_simp; with_reducible rfl
 rotate_left
 ·simp only [Act.put, sA, sB, sC, i64_w, i32_w]; rfl
 refine pure_ (i := 3) (N := some 31) (v := ?_) (a' := ?_) #[true, true, true, true, false, false, false, false, false, false, false, false, false, false, false, false, false] rfl rfl (by kernel_rfl) (fun _ _ _ h => h) (Or.inl ⟨by rfl, ?_⟩) ?_ ?_
 rotate_left
 ·intro w'; go_simp; with_reducible rfl
 rotate_left
 ·simp only [Act.put, sA, sB, sC, i64_w, i32_w]; rfl
 refine pure_ (i := 4) (N := some 32) (v := ?_) (a' := ?_) #[true, true, true, true, true, false, false, false, false, false, false, false, false, false, false, false, false] rfl rfl (by kernel_rfl) (fun _ _ _ h => h) (Or.inl ⟨by rfl, ?_⟩) ?_ ?_
 rotate_left
 ·intro w'; go_simp; with_reducible rfl
 rotate_left
 ·simp only [Act.put, sA, sB, sC, i64_w, i32_w]; rfl
 refine take_ (i := 5) (N := some 33) (v := ?_) (a' := ?_) #[true, true, true, true, true, true, false, false, false, false, false, false, false, false, false, false, false] rfl rfl (by kernel_rfl) (fun _ _ _ h => h) (Or.inl ⟨by rfl, ?_⟩) hHeld ?_ ?_
 rotate_left
 ·rintro w' ⟨s0, s1, s2, s3, s4, s5, s6, s7, s8, s9, s10, s11, s12, s13, s14⟩
  go_simp; with_reducible rfl
 rotate_left
 ·simp only [Act.put, sA, sB, sC, i64_w, i32_w]; rfl
 refine take_ (i := 7) (N := some 35) (v := ?_) (a' := ?_) #[true, true, true, true, true, true, false, true, false, false, false, false, false, false, false, false, false] rfl rfl (by kernel_rfl) (fun _ _ _ h => h) (Or.inl ⟨by rfl, ?_⟩) hHeld ?_ ?_
 rotate_left
 ·rintro w' ⟨s0, s1, s2, s3, s4, s5, s6, s7, s8, s9, s10, s11, s12, s13, s14⟩
  go_simp; with_reducible rfl
 rotate_left
 ·simp only [Act.put, sA, sB, sC, i64_w, i32_w]; rfl
 refine one_ (i := 6) (N := some 34) #[true, true, true, true, true, true, true, true, false, false, false, false, false, false, false, false, false] rfl rfl (by kernel_rfl) (by decide) (fun K hK => ?_)
 refine goes_ Tryz.func23 (by kernel_rfl) rfl #[.agg #[.int .i64 p0, .int .i64 p1, .string p2, .slice P3 p3.length a3, .slice P4 p4.length a4]] (by rfl) rfl rfl (by simp only [List.map_toArray, List.map_cons, List.map_nil]; rfl) ?_
 with_reducible refine (from_calls ⟨p0, p1, p2, p3, p4⟩ want E1.out hy1 P3 P4 a3 a4 W0.drew HL3.out (Kd.C_below RK3.out (below_drew (Below.refl _ _))) HL4.out (Kd.C_below RV3.out (below_drew (Below.refl _ _)))).mono ?_
 rintro e w4 ⟨F3, b3, F4, b4, rfl, f3, g3, f4, g4, hb4⟩
 refine ⟨_, rfl, ?_⟩
 have F4_ := aM (And.intro f3 (And.intro g3 (And.intro f4 g4)))
 have HB4 := aM (hb_then (below_drew (Below.refl W0.heap.size W0)) hb4)
 clear f3 g3 f4 g4
 refine hK.out _ _ ⟨pw_cell_below hb4 hHeld.1, pw_cell_below hb4 hHeld.2.1, pw_cell_below hb4 hHeld.2.2.1, pw_cell_below hb4 hHeld.2.2.2.1, pw_cell_below hb4 hHeld.2.2.2.2.1, pw_cell_below hb4 hHeld.2.2.2.2.2.1, pw_cell_below hb4 hHeld.2.2.2.2.2.2.1, pw_cell_below hb4 hHeld.2.2.2.2.2.2.2.1, pw_cell_below hb4 hHeld.2.2.2.2.2.2.2.2.1, pw_cell_below hb4 hHeld.2.2.2.2.2.2.2.2.2.1, pw_cell_below hb4 hHeld.2.2.2.2.2.2.2.2.2.2.1, pw_cell_below hb4 hHeld.2.2.2.2.2.2.2.2.2.2.2.1, pw_cell_below hb4 hHeld.2.2.2.2.2.2.2.2.2.2.2.2.1, pw_cell_below hb4 hHeld.2.2.2.2.2.2.2.2.2.2.2.2.2.1, pw_cell_below hb4 hHeld.2.2.2.2.2.2.2.2.2.2.2.2.2.2⟩ (fun hHeld => ?_)
 clear hK K
 refine norm_ (a' := ?_) ?_ ?_
 rotate_left
 ·show Act.put _ (some 34) _ = _
  simp only [Act.put, sA, sB, sC, i64_w, i32_w]; rfl
 refine one_ (i := 8) (N := some 36) #[true, true, true, true, true, true, true, true, true, false, false, false, false, false, false, false, false] rfl rfl (by kernel_rfl) (by decide) (fun K hK => ?_)
 refine goes_ Tryz.func22 (by kernel_rfl) rfl #[.agg #[.int .i64 want.f0, .int .i64 want.f1, .string want.f2, .slice F3 want.f3.length b3, .slice F4 want.f4.length b4], .agg #[.int .i64 want.f0, .int .i64 want.f1, .string want.f2, .slice B3 want.f3.length d3, .slice B4 want.f4.length d4]] (by rfl) rfl rfl (by simp only [List.map_toArray, List.map_cons, List.map_nil]; rfl) ?_
 with_reducible refine (same_calls want hw F3 F4 b3 b4 B3 B4 d3 d4 w4 F4_.out.1 F4_.out.2.1 F4_.out.2.2.1 F4_.out.2.2.2 m3 (Kd.C_below JK3.out HB4.out) m4 (Kd.C_below JV3.out HB4.out)).mono ?_
 rintro e w5 ⟨rfl, hb5⟩
 refine ⟨_, rfl, ?_⟩
 have HB5 := aM (hb_then HB4.out hb5)
 refine hK.out _ _ ⟨pw_cell_below hb5 hHeld.1, pw_cell_below hb5 hHeld.2.1, pw_cell_below hb5 hHeld.2.2.1, pw_cell_below hb5 hHeld.2.2.2.1, pw_cell_below hb5 hHeld.2.2.2.2.1, pw_cell_below hb5 hHeld.2.2.2.2.2.1, pw_cell_below hb5 hHeld.2.2.2.2.2.2.1, pw_cell_below hb5 hHeld.2.2.2.2.2.2.2.1, pw_cell_below hb5 hHeld.2.2.2.2.2.2.2.2.1, pw_cell_below hb5 hHeld.2.2.2.2.2.2.2.2.2.1, pw_cell_below hb5 hHeld.2.2.2.2.2.2.2.2.2.2.1, pw_cell_below hb5 hHeld.2.2.2.2.2.2.2.2.2.2.2.1, pw_cell_below hb5 hHeld.2.2.2.2.2.2.2.2.2.2.2.2.1, pw_cell_below hb5 hHeld.2.2.2.2.2.2.2.2.2.2.2.2.2.1, pw_cell_below hb5 hHeld.2.2.2.2.2.2.2.2.2.2.2.2.2.2⟩ (fun hHeld => ?_)
 clear hK K
 refine norm_ (a' := ?_) ?_ ?_
 rotate_left
 ·show Act.put _ (some 36) _ = _
  simp only [Act.put, sA, sB, sC, i64_w, i32_w]; rfl
 refine pure_ (i := 9) (N := some 37) (v := ?_) (a' := ?_) #[true, true, true, true, true, true, true, true, true, true, false, false, false, false, false, false, false] rfl rfl (by kernel_rfl) (fun _ _ _ h => h) (Or.inl ⟨by rfl, ?_⟩) ?_ ?_
 rotate_left
 ·intro w'; go_simp; with_reducible rfl
 rotate_left
 ·simp only [Act.put, sA, sB, sC, i64_w, i32_w]; rfl
 refine pure_ (i := 10) (N := some 38) (v := ?_) (a' := ?_) #[true, true, true, true, true, true, true, true, true, true, true, false, false, false, false, false, false] rfl rfl (by kernel_rfl) (fun _ _ _ h => h) (Or.inl ⟨by rfl, ?_⟩) ?_ ?_
 rotate_left
 ·intro w'; go_simp; with_reducible rfl
 rotate_left
 ·simp only [Act.put, sA, sB, sC, i64_w, i32_w]; rfl
 refine take_ (i := 11) (N := some 39) (v := ?_) (a' := ?_) #[true, true, true, true, true, true, true, true, true, true, true, true, false, false, false, false, false] rfl rfl (by kernel_rfl) (fun _ _ _ h => h) (Or.inl ⟨by rfl, ?_⟩) hHeld ?_ ?_
 rotate_left
 ·rintro w' ⟨s0, s1, s2, s3, s4, s5, s6, s7, s8, s9, s10, s11, s12, s13, s14⟩
  go_simp; with_reducible rfl
 rotate_left
 ·simp only [Act.put, sA, sB, sC, i64_w, i32_w]; rfl
 refine take_ (i := 13) (N := some 41) (v := ?_) (a' := ?_) #[true, true, true, true, true, true, true, true, true, true, true, true, false, true, false, false, false] rfl rfl (by kernel_rfl) (fun _ _ _ h => h) (Or.inl ⟨by rfl, ?_⟩) hHeld ?_ ?_
 rotate_left
 ·rintro w' ⟨s0, s1, s2, s3, s4, s5, s6, s7, s8, s9, s10, s11, s12, s13, s14⟩
  go_simp; with_reducible rfl
 rotate_left
 ·simp only [Act.put, sA, sB, sC, i64_w, i32_w]; rfl
 refine one_ (i := 12) (N := some 40) #[true, true, true, true, true, true, true, true, true, true, true, true, true, true, false, false, false] rfl rfl (by kernel_rfl) (by decide) (fun K hK => ?_)
 refine goes_ Tryz.func23 (by kernel_rfl) rfl #[.agg #[.int .i64 q0, .int .i64 q1, .string q2, .slice Q3 q3.length s3, .slice Q4 q4.length s4]] (by rfl) rfl rfl (by simp only [List.map_toArray, List.map_cons, List.map_nil]; rfl) ?_
 with_reducible refine (from_calls ⟨q0, q1, q2, q3, q4⟩ want E2.out hy2 Q3 Q4 s3 s4 w5 HM3.out (Kd.C_below QK3.out HB5.out) HM4.out (Kd.C_below QV3.out HB5.out)).mono ?_
 rintro e w6 ⟨G3_, i3, G4_, i4, rfl, f3, g3, f4, g4, hb6⟩
 refine ⟨_, rfl, ?_⟩
 have F6_ := aM (And.intro f3 (And.intro g3 (And.intro f4 g4)))
 have HB6 := aM (hb_then HB5.out hb6)
 clear f3 g3 f4 g4
 refine hK.out _ _ ⟨pw_cell_below hb6 hHeld.1, pw_cell_below hb6 hHeld.2.1, pw_cell_below hb6 hHeld.2.2.1, pw_cell_below hb6 hHeld.2.2.2.1, pw_cell_below hb6 hHeld.2.2.2.2.1, pw_cell_below hb6 hHeld.2.2.2.2.2.1, pw_cell_below hb6 hHeld.2.2.2.2.2.2.1, pw_cell_below hb6 hHeld.2.2.2.2.2.2.2.1, pw_cell_below hb6 hHeld.2.2.2.2.2.2.2.2.1, pw_cell_below hb6 hHeld.2.2.2.2.2.2.2.2.2.1, pw_cell_below hb6 hHeld.2.2.2.2.2.2.2.2.2.2.1, pw_cell_below hb6 hHeld.2.2.2.2.2.2.2.2.2.2.2.1, pw_cell_below hb6 hHeld.2.2.2.2.2.2.2.2.2.2.2.2.1, pw_cell_below hb6 hHeld.2.2.2.2.2.2.2.2.2.2.2.2.2.1, pw_cell_below hb6 hHeld.2.2.2.2.2.2.2.2.2.2.2.2.2.2⟩ (fun hHeld => ?_)
 clear hK K
 refine norm_ (a' := ?_) ?_ ?_
 rotate_left
 ·show Act.put _ (some 40) _ = _
  simp only [Act.put, sA, sB, sC, i64_w, i32_w]; rfl
 refine one_ (i := 14) (N := some 42) #[true, true, true, true, true, true, true, true, true, true, true, true, true, true, true, false, false] rfl rfl (by kernel_rfl) (by decide) (fun K hK => ?_)
 refine goes_ Tryz.func22 (by kernel_rfl) rfl #[.agg #[.int .i64 want.f0, .int .i64 want.f1, .string want.f2, .slice G3_ want.f3.length i3, .slice G4_ want.f4.length i4], .agg #[.int .i64 want.f0, .int .i64 want.f1, .string want.f2, .slice B3 want.f3.length d3, .slice B4 want.f4.length d4]] (by rfl) rfl rfl (by simp only [List.map_toArray, List.map_cons, List.map_nil]; rfl) ?_
 with_reducible refine (same_calls want hw G3_ G4_ i3 i4 B3 B4 d3 d4 w6 F6_.out.1 F6_.out.2.1 F6_.out.2.2.1 F6_.out.2.2.2 m3 (Kd.C_below JK3.out HB6.out) m4 (Kd.C_below JV3.out HB6.out)).mono ?_
 rintro e w7 ⟨rfl, hb7⟩
 refine ⟨_, rfl, ?_⟩
 have HB7 := aM (hb_then HB6.out hb7)
 refine hK.out _ _ ⟨pw_cell_below hb7 hHeld.1, pw_cell_below hb7 hHeld.2.1, pw_cell_below hb7 hHeld.2.2.1, pw_cell_below hb7 hHeld.2.2.2.1, pw_cell_below hb7 hHeld.2.2.2.2.1, pw_cell_below hb7 hHeld.2.2.2.2.2.1, pw_cell_below hb7 hHeld.2.2.2.2.2.2.1, pw_cell_below hb7 hHeld.2.2.2.2.2.2.2.1, pw_cell_below hb7 hHeld.2.2.2.2.2.2.2.2.1, pw_cell_below hb7 hHeld.2.2.2.2.2.2.2.2.2.1, pw_cell_below hb7 hHeld.2.2.2.2.2.2.2.2.2.2.1, pw_cell_below hb7 hHeld.2.2.2.2.2.2.2.2.2.2.2.1, pw_cell_below hb7 hHeld.2.2.2.2.2.2.2.2.2.2.2.2.1, pw_cell_below hb7 hHeld.2.2.2.2.2.2.2.2.2.2.2.2.2.1, pw_cell_below hb7 hHeld.2.2.2.2.2.2.2.2.2.2.2.2.2.2⟩ (fun hHeld => ?_)
 clear hK K
 refine norm_ (a' := ?_) ?_ ?_
 rotate_left
 ·show Act.put _ (some 42) _ = _
  simp only [Act.put, sA, sB, sC, i64_w, i32_w]; rfl
 refine pure_ (i := 15) (N := some 43) (v := ?_) (a' := ?_) #[true, true, true, true, true, true, true, true, true, true, true, true, true, true, true, true, false] rfl rfl (by kernel_rfl) (fun _ _ _ h => h) (Or.inl ⟨by rfl, ?_⟩) ?_ ?_
 rotate_left
 ·intro w'; go_simp; with_reducible rfl
 rotate_left
 ·simp only [Act.put, sA, sB, sC, i64_w, i32_w]; rfl
 refine pure_ (i := 16) (N := some 8) (v := ?_) (a' := ?_) #[true, true, true, true, true, true, true, true, true, true, true, true, true, true, true, true, true] rfl rfl (by kernel_rfl) (fun _ _ _ h => h) (Or.inl ⟨by rfl, ?_⟩) ?_ ?_
 rotate_left
 ·intro w'; go_simp; with_reducible rfl
 rotate_left
 ·simp only [Act.put, sA, sB, sC, i64_w, i32_w]; rfl
 refine done_ (by kernel_rfl) ?_
 go_wp2
 go_ret
 exact ⟨rfl, hb_then HB3.out (HB7.out)⟩
end Go.Proofs.YtaembebbaejfiaaGreatDoor.Tr
namespace Go.Proofs.YtaembebbaejfiaaGreatDoor.PS
open Go.RowKit Go.Proofs.YtaembebbaejfiaaGreatDoorW.PrintWords Go.Proofs.YtaembebbaejfiaaGreatDoorW.PrintLast Go.Proofs.YtaembebbaejfiaaGreatDoorW.PrintMore
attribute [local go_sem] max2_int min2_int max_two min_two max_three min_three max_four min_four 
set_option linter.unusedVariables false
set_option linter.unusedSimpArgs false
def spec_sayNamed.f (k : Nat) (a0 : ByteArray) : Option (Bool) := (spec_sayIn.f k a0 (([(⟨#[101, 110, 118, 105, 114, 111, 110, 109, 101, 110, 116]⟩ : ByteArray), (⟨#[108, 97, 98, 101, 108, 115]⟩ : ByteArray), (⟨#[97, 110, 110, 111, 116, 97, 116, 105, 111, 110, 115]⟩ : ByteArray), (⟨#[115, 121, 115, 99, 116, 108, 115]⟩ : ByteArray)] : List ByteArray))).bind fun t230 => (some t230)
set_option maxHeartbeats 8000000 in
set_option maxRecDepth 100000 in
theorem spec_sayNamed.calls (k : Nat) (a0 : ByteArray) (r : Bool) (w : World) (h : spec_sayNamed.f k a0 = some r) :
  Calls Tryz.prog 35 #[.string a0] w fun e w' => e = .returned (.bool r) ∧ Below w.heap.size w w' := by
 have HB := aM (Below.refl w.heap.size w)
 have H : ((spec_sayIn.f k a0 (([(⟨#[101, 110, 118, 105, 114, 111, 110, 109, 101, 110, 116]⟩ : ByteArray), (⟨#[108, 97, 98, 101, 108, 115]⟩ : ByteArray), (⟨#[97, 110, 110, 111, 116, 97, 116, 105, 111, 110, 115]⟩ : ByteArray), (⟨#[115, 121, 115, 99, 116, 108, 115]⟩ : ByteArray)] : List ByteArray))).bind fun t230 => (some t230)) = some r := h
 clear h
 obtain ⟨y227, hy227⟩ : ∃ y_ : List ByteArray, y_ = (([(⟨#[101, 110, 118, 105, 114, 111, 110, 109, 101, 110, 116]⟩ : ByteArray), (⟨#[108, 97, 98, 101, 108, 115]⟩ : ByteArray), (⟨#[97, 110, 110, 111, 116, 97, 116, 105, 111, 110, 115]⟩ : ByteArray), (⟨#[115, 121, 115, 99, 116, 108, 115]⟩ : ByteArray)] : List ByteArray)) := ⟨_, rfl⟩
 replace H : ((spec_sayIn.f k a0 y227).bind fun t230 => (some t230)) = some r := by first | (rw [hy227]; with_reducible exact H) | (have H2_ := (Option.bind_some _ _).symm.trans H; rw [hy227]; with_reducible exact H2_) | (have H2_ := (Option.bind_some _ _).symm.trans H; with_reducible exact H2_) | with_reducible exact H | (rw [hy227]; exact H) | exact H
 have Ny227 := aM hy227
 clear hy227
 replace H := Option.bind_eq_some_iff.mp H
 obtain ⟨t230, A20, H⟩ := H
 replace H : (some t230) = some r := H
 have A2 := aM A20
 clear A20
 obtain rfl := Option.some.inj H
 go_enter Tryz.func35, Tryz.ntmps35
 go_wp2_with (first | ((with_reducible refine gate_dst (N := 4) rfl ?_); refine Kd.R_lit Kd.string _ 9 ?hg (N := 4) ?hd (xs := ([(⟨#[101, 110, 118, 105, 114, 111, 110, 109, 101, 110, 116]⟩ : ByteArray), (⟨#[108, 97, 98, 101, 108, 115]⟩ : ByteArray), (⟨#[97, 110, 110, 111, 116, 97, 116, 105, 111, 110, 115]⟩ : ByteArray), (⟨#[115, 121, 115, 99, 116, 108, 115]⟩ : ByteArray)] : List ByteArray)) (inner := [.string (⟨#[101, 110, 118, 105, 114, 111, 110, 109, 101, 110, 116]⟩ : ByteArray), .string (⟨#[108, 97, 98, 101, 108, 115]⟩ : ByteArray), .string (⟨#[97, 110, 110, 111, 116, 97, 116, 105, 111, 110, 115]⟩ : ByteArray), .string (⟨#[115, 121, 115, 99, 116, 108, 115]⟩ : ByteArray)]) (ok := fun _ => True) (okp := fun _ => True) ?hr ?hp (fun _ hk => hk) trivial (Below.refl _ _) (Nat.le_refl _) (by simp) ?_; (case hd => rfl); (case hg => rfl); (case hr => first | (go_simp; done) | (go_simp; rfl)); (case hp => exact (Reps.one (show Kd.M Kd.string _ _ _ (⟨#[101, 110, 118, 105, 114, 111, 110, 109, 101, 110, 116]⟩ : ByteArray) [.string (⟨#[101, 110, 118, 105, 114, 111, 110, 109, 101, 110, 116]⟩ : ByteArray)] from rfl) (Reps.one (show Kd.M Kd.string _ _ _ (⟨#[108, 97, 98, 101, 108, 115]⟩ : ByteArray) [.string (⟨#[108, 97, 98, 101, 108, 115]⟩ : ByteArray)] from rfl) (Reps.one (show Kd.M Kd.string _ _ _ (⟨#[97, 110, 110, 111, 116, 97, 116, 105, 111, 110, 115]⟩ : ByteArray) [.string (⟨#[97, 110, 110, 111, 116, 97, 116, 105, 111, 110, 115]⟩ : ByteArray)] from rfl) (Reps.one (show Kd.M Kd.string _ _ _ (⟨#[115, 121, 115, 99, 116, 108, 115]⟩ : ByteArray) [.string (⟨#[115, 121, 115, 99, 116, 108, 115]⟩ : ByteArray)] from rfl) (Reps.none _ _)))))); intro v228 w3 ho4 hb hg_ hnew_; clear hg_ hnew_; (first | rw [← Ny227.out] at ho4 | (simp only [Int.reduceToNat] at ho4; rw [← Ny227.out] at ho4)); have n0_ := aM (Kd.R_lower ho4 (below_size (by repeat (first | (with_reducible first | exact HB.out | apply below_alloc | apply pw_below_drewN | apply below_drew1) | exact HB.out)))); have n1_ := aM (below_step (by repeat (first | (with_reducible first | exact HB.out | apply below_alloc | apply pw_below_drewN | apply below_drew1) | exact HB.out)) hb); clear HB; have HO229 := n0_; have HB := n1_; clear n0_ n1_; clear hb ho4; obtain ⟨Ao5, co5, eo5⟩ := Kd.R_slice HO229.out; subst eo5) | ((with_reducible refine gate_callee (f := 31) rfl ?_); refine goesL_ (some 5) rfl rfl Tryz.func31 (by kernel_rfl) rfl #[.string a0, .slice Ao5 y227.length co5] rfl (by (try simp only [List.map_toArray, List.map_cons, List.map_nil]); first | done | rfl | (simp only [List.length_drop, List.length_take]; rfl)) ?_; (with_reducible refine (spec_sayIn.calls k a0 _ _ y227 t230 _ ?side1 ?side2 A2.out).mono ?_); (case side1 => repeat (first | exact (Kd.R_reads' HO229.out).2.2 | (with_reducible refine Kd.C_alloc ?_ _) | (with_reducible refine Kd.C_drewN ?_ _) | (with_reducible refine Kd.C_drew ?_))); (case side2 => exact (Kd.R_reads' HO229.out).2.1); rintro e w' ⟨rfl, ⟨nd, rfl⟩⟩; refine ⟨_, rfl, ?_⟩))
 go_ret
 exact ⟨by first | rfl | (simp [errW_none, errW_some] <;> rfl) | (simp [*, errW_none, errW_some] <;> rfl), by repeat (first | (with_reducible first | exact HB.out | apply below_alloc | apply pw_below_drewN | apply below_drew1) | exact HB.out)⟩
end Go.Proofs.YtaembebbaejfiaaGreatDoor.PS
