/- Parts of the proof, laid together: QLawsTo, MapStep, FitPlain, Any, ToMap, ToAny, PureFit, PureTo, QLawsFrom, PureFrom. -/
import Derived.Test.YtaembebbaejfiaaGreatDoorB3
import Derived.Test.YtaembebbaejfiaaGreatDoorB1
import Derived.Laws.IdiomCopy
import Derived.Test.YtaembebbaejfiaaGreatDoorB4
import Derived.Test.YtaembebbaejfiaaGreatDoorB5
import Derived.Test.YtaembebbaejfiaaGreatDoorB2
namespace Go.Proofs.YtaembebbaejfiaaGreatDoor.PS
open Go.RowKit Go.Proofs.YtaembebbaejfiaaGreatDoorW.PrintWords Go.Proofs.YtaembebbaejfiaaGreatDoorW.PrintLast Go.Proofs.YtaembebbaejfiaaGreatDoorW.PrintMore
attribute [local go_sem] max2_int min2_int max_two min_two max_three min_three max_four min_four 
set_option linter.unusedVariables false
set_option linter.unusedSimpArgs false
mutual
def laws_to.l0 : Nat → Int → Int → Int → ByteArray → List ByteArray → List (S25) → Int → Int → ByteArray → List ByteArray → List (S45) → Option (Int × Int × ByteArray × List ByteArray × (List (S45)))
 | 0, _, _, _, _, _, _, _, _, _, _, _ => none
 | k + 1, x4, x500000, x500001, x500002, x500003, x500004, x508000, x508001, x508002, x508003, x508004 => if x4 < (x500004.length : Int) then (if 0 ≤ x4 then ((laws_to.f k ((rd_T25 x500004 x4).f0) ((rd_T25 x500004 x4).f1) ((rd_T25 x500004 x4).f2) ((rd_T25 x500004 x4).f3) ((rd_T25 x500004 x4).f4)).bind fun bt509 => (if x508004.length < 1759218604441 then (laws_to.l0 k (wrap64 (x4 + 1)) x500000 x500001 x500002 x500003 x500004 x508000 x508001 x508002 x508003 (x508004 ++ [(⟨bt509.1, bt509.2.1, bt509.2.2.1, bt509.2.2.2.1, bt509.2.2.2.2⟩ : S45)])) else (none))) else (none)) else (some (x508000, x508001, x508002, x508003, x508004))
def laws_to.f : Nat → Int → Int → ByteArray → List ByteArray → List (S25) → Option (Int × Int × ByteArray × List ByteArray × (List (S45)))
 | 0, _, _, _, _, _ => none
 | k + 1, a0_0, a0_1, a0_2, l0_3, l0_4 => (some (([] : List ByteArray) : List ByteArray)).bind fun y501 => (if y501.length + l0_3.length < 8796093022208 then (laws_to.l0 k 0 a0_0 a0_1 a0_2 l0_3 l0_4 a0_0 a0_1 a0_2 (y501 ++ l0_3) ([] : List (S45))) else (none))
end
def laws_to.T1 : Bool × List (List Nat × List Nat) := (true, [([], []), ([0], [0]), ([], []), ([2], [2]), ([], []), ([4], [4]), ([], []), ([], []), ([7], [7]), ([6, 8], [6, 8]), ([1, 3, 5, 9], [1, 3, 5, 9]), ([], []), ([11, 10, 9, 0, 1, 2, 3, 4, 5, 6, 7, 8, 9, 10, 11], [10, 11])])
def laws_to.B1 : List Nat := [0, 1, 0, 4, 0, 16, 0, 0, 128, 448, 1023, 0, 4095]
theorem laws_to.tab1 : rtab .any (opsOf Tryz.f21 1) = laws_to.T1 := by kernel_rfl
theorem laws_to.bits1 : waitsOk laws_to.T1.2 laws_to.B1 = true := by kernel_rfl
def laws_to.T5 : Bool × List (List Nat × List Nat) := (true, [([], []), ([0], [0]), ([], []), ([2], [2]), ([], []), ([3, 4], [3, 4]), ([5], [5]), ([6], [6]), ([7], [7]), ([1, 8, 7], [1, 8]), ([0, 1, 2, 3, 4, 5, 6, 7, 8, 9], []), ([10, 9, 9, 0, 1, 2, 3, 4, 5, 6, 7, 8, 9], [9, 10])])
def laws_to.B5 : List Nat := [0, 1, 0, 4, 0, 28, 60, 124, 252, 511, 1023, 2047]
theorem laws_to.tab5 : rtab .any (opsOf Tryz.f21 5) = laws_to.T5 := by kernel_rfl
theorem laws_to.bits5 : waitsOk laws_to.T5.2 laws_to.B5 = true := by kernel_rfl
set_option maxHeartbeats 8000000 in
set_option maxRecDepth 100000 in
theorem laws_to.calls (k : Nat) : ∀ (a0_0 : Int) (a0_1 : Int) (a0_2 : ByteArray) (A0_3 : Option Addr) (c0_3 : Nat) (l0_3 : List ByteArray) (A0_4 : Option Addr) (c0_4 : Nat) (l0_4 : List (S25)) (r1 : Int) (r2 : Int) (r3 : ByteArray) (r4 : List ByteArray) (r5 : List (S45)) (w : World) (hr0_3 : Kd.C Kd.string w A0_3 l0_3.length l0_3) (hc0_3 : l0_3.length ≤ c0_3) (hr0_4 : Kd.C k25 w A0_4 l0_4.length l0_4) (hc0_4 : l0_4.length ≤ c0_4) (h : laws_to.f k a0_0 a0_1 a0_2 l0_3 l0_4 = some (r1, r2, r3, r4, r5)),
  Calls Tryz.prog 21 #[.agg #[.int .i64 a0_0, .int .i64 a0_1, .string a0_2, .slice A0_3 l0_3.length c0_3, .slice A0_4 l0_4.length c0_4]] w fun e w' => ∃ v3_ v4_ : Value, e = .returned (.agg #[.int .i64 r1, .int .i64 r2, .string r3, v3_, v4_]) ∧ Kd.R Kd.string 9 w' w.heap.size (fun _ => True) v3_ r4 ∧ Kd.R k45 45 w' w.heap.size (fun k_ => some k_ ≠ (v3_ : Value).ownBlock) v4_ r5 ∧ Below w.heap.size w w' := by
 induction k using Nat.strongRecOn with
 | _ k ih =>
 intro a0_0 a0_1 a0_2 A0_3 c0_3 l0_3 A0_4 c0_4 l0_4 r1 r2 r3 r4 r5 w hr0_3 hc0_3 hr0_4 hc0_4 h
 cases k with
 | zero => exact absurd h (by simp [laws_to.f])
 | succ k =>
 simp only [laws_to.f] at h
 have hu25 := Tryz.underlying25
 have hu45 := Tryz.underlying45
 have HR0_3 := aM hr0_3
 have HC0_3 := aM hc0_3
 clear hr0_3 hc0_3
 have HR0_4 := aM hr0_4
 have HC0_4 := aM hc0_4
 clear hr0_4 hc0_4
 have HB := aM (Below.refl w.heap.size w)
 have H : ((some (([] : List ByteArray) : List ByteArray)).bind fun y501 => (if y501.length + l0_3.length < 8796093022208 then (laws_to.l0 k 0 a0_0 a0_1 a0_2 l0_3 l0_4 a0_0 a0_1 a0_2 (y501 ++ l0_3) ([] : List (S45))) else (none))) = some (r1, r2, r3, r4, r5) := h
 clear h
 obtain ⟨y501, hy501⟩ : ∃ y_ : List ByteArray, y_ = (([] : List ByteArray)) := ⟨_, rfl⟩
 replace H : (if y501.length + l0_3.length < 8796093022208 then (laws_to.l0 k 0 a0_0 a0_1 a0_2 l0_3 l0_4 a0_0 a0_1 a0_2 (y501 ++ l0_3) ([] : List (S45))) else (none)) = some (r1, r2, r3, r4, r5) := by first | (rw [hy501]; with_reducible exact H) | (have H2_ := (Option.bind_some _ _).symm.trans H; rw [hy501]; with_reducible exact H2_) | (have H2_ := (Option.bind_some _ _).symm.trans H; with_reducible exact H2_) | with_reducible exact H | (rw [hy501]; exact H) | exact H
 have Ny501 := aM hy501
 clear hy501
 by_cases c2 : y501.length + l0_3.length < 8796093022208
 ·rw [if_pos c2] at H
  have LMc2 := aM c2
  clear c2
  obtain ⟨y504, hy504⟩ : ∃ y_ : List ByteArray, y_ = (y501 ++ l0_3) := ⟨_, rfl⟩
  replace H : (laws_to.l0 k 0 a0_0 a0_1 a0_2 l0_3 l0_4 a0_0 a0_1 a0_2 y504 ([] : List (S45))) = some (r1, r2, r3, r4, r5) := by first | (rw [hy504]; with_reducible exact H) | (have H2_ := (Option.bind_some _ _).symm.trans H; rw [hy504]; with_reducible exact H2_) | (have H2_ := (Option.bind_some _ _).symm.trans H; with_reducible exact H2_) | with_reducible exact H | (rw [hy504]; exact H) | exact H
  have Ny504 := aM hy504
  clear hy504
  have H' := aM H
  clear H
  go_enter Tryz.func21, Tryz.ntmps21
  try go_wp2_with (first | ((with_reducible refine gate_dst (N := 1) rfl ?_); refine box_event ?hg (N := 1) ?hd (cs := #[.int .i64 a0_0, .int .i64 a0_1, .string a0_2, .slice A0_3 l0_3.length c0_3, .slice A0_4 l0_4.length c0_4]) (t := 25) ?hr ?_; (case hd => rfl); (case hg => rfl); (case hr => first | (go_simp; done) | (go_simp; rfl)); intro gb499 hg w3 hbox hb; have n0_ := aM (below_step (by repeat (first | (with_reducible first | exact HB.out | apply below_alloc | apply pw_below_drewN | apply below_drew1) | exact HB.out)) hb); have n1_ := aM (hbox); have n2_ := aM ((by rw [hg]; exact (below_size (by repeat (first | (with_reducible first | exact HB.out | apply below_alloc | apply pw_below_drewN | apply below_drew1) | exact HB.out))) : w.heap.size ≤ gb499)); have n3_ := aM ((by rw [hg]; exact (below_size (by repeat (first | (with_reducible first | exact HB.out | apply below_alloc | apply pw_below_drewN | apply below_drew1) | exact HB.out))) : w.heap.size ≤ gb499)); clear HB; have HB := n0_; have BK499 := n1_; have GW499 := n2_; have GE499 := n3_; clear n0_ n1_ n2_ n3_; clear hb hbox hg) | ((with_reducible refine gate_dst (N := 2) rfl ?_); refine box_event ?hg (N := 2) ?hd (cs := #[.int .i64 0, .int .i64 0, .string (⟨#[]⟩ : ByteArray), .slice none 0 0, .slice none 0 0]) (t := 45) ?hr ?_; (case hd => rfl); (case hg => rfl); (case hr => first | (go_simp; done) | (go_simp; rfl)); intro gb500 hg w4 hbox hb; have n0_ := aM (blk_below (g := gb499) (o := .cells #[.int .i64 a0_0, .int .i64 a0_1, .string a0_2, .slice A0_3 l0_3.length c0_3, .slice A0_4 l0_4.length c0_4] 25 (0, 0)) (by (with_reducible repeat (first | refine blk_drewN ?_ _ | refine blk_drew ?_ | refine blk_alloc ?_ _)); exact BK499.out) hb); have n1_ := aM (below_step (by repeat (first | (with_reducible first | exact HB.out | apply below_alloc | apply pw_below_drewN | apply below_drew1 | refine below_set ?_ GE499.out) | exact HB.out)) hb); have n2_ := aM (hbox); have n3_ := aM ((by rw [hg]; exact (below_size (by repeat (first | (with_reducible first | exact HB.out | apply below_alloc | apply pw_below_drewN | apply below_drew1 | refine below_set ?_ GE499.out) | exact HB.out))) : w.heap.size ≤ gb500)); have n4_ := aM ((by rw [hg]; exact (below_size (by repeat (first | (with_reducible first | exact HB.out | apply below_alloc | apply pw_below_drewN | apply below_drew1 | refine below_set ?_ GE499.out) | exact HB.out))) : w.heap.size ≤ gb500)); have n5_ := aM ((by rw [hg]; exact Nat.ne_of_lt (blk_lt (g := gb499) (o := .cells #[.int .i64 a0_0, .int .i64 a0_1, .string a0_2, .slice A0_3 l0_3.length c0_3, .slice A0_4 l0_4.length c0_4] 25 (0, 0)) (by (with_reducible repeat (first | refine blk_drewN ?_ _ | refine blk_drew ?_ | refine blk_alloc ?_ _)); exact BK499.out)) : gb499 ≠ gb500)); have n6_ := aM ((by rw [hg]; exact Nat.ne_of_gt (blk_lt (g := gb499) (o := .cells #[.int .i64 a0_0, .int .i64 a0_1, .string a0_2, .slice A0_3 l0_3.length c0_3, .slice A0_4 l0_4.length c0_4] 25 (0, 0)) (by (with_reducible repeat (first | refine blk_drewN ?_ _ | refine blk_drew ?_ | refine blk_alloc ?_ _)); exact BK499.out)) : gb500 ≠ gb499)); clear BK499; clear HB; have BK499 := n0_; have HB := n1_; have BK500 := n2_; have GW500 := n3_; have GE500 := n4_; have NB499_500 := n5_; have NB500_499 := n6_; clear n0_ n1_ n2_ n3_ n4_ n5_ n6_; clear hb hbox hg))
  have n0_ := aM (blk_drew BK499.out)
  have n1_ := aM (blk_drew BK500.out)
  have n2_ := aM (below_drew1 HB.out)
  clear BK499 BK500 HB; have BK499 := n0_; have BK500 := n1_; have HB := n2_; clear n0_ n1_ n2_
  refine start_ (n := 13) (S := fun w' => w'.cell? ⟨gb499, 0, none⟩ = some (.int .i64 a0_0) ∧ w'.cell? ⟨gb499, 1, none⟩ = some (.int .i64 a0_1) ∧ w'.cell? ⟨gb499, 2, none⟩ = some (.string a0_2) ∧ w'.cell? ⟨gb499, 3, none⟩ = some (.slice A0_3 l0_3.length c0_3) ∧ w'.cell? ⟨gb499, 4, none⟩ = some (.slice A0_4 l0_4.length c0_4)) (ds := []) #[false, false, false, false, false, false, false, false, false, false, false, false, false] (by kernel_rfl) rfl rfl ⟨(blk_cell BK499.out 0).trans rfl, (blk_cell BK499.out 1).trans rfl, (blk_cell BK499.out 2).trans rfl, (blk_cell BK499.out 3).trans rfl, (blk_cell BK499.out 4).trans rfl⟩ (fun hHeld => ?_); refine with_tabW laws_to.tab1 laws_to.bits1 (fun HT_ HW_ => ?_)
  generalize w4.drew = w5 at BK499 BK500 HB hHeld ⊢
  refine pure_ (i := 0) (N := some 5) (v := ?_) (a' := ?_) #[true, false, false, false, false, false, false, false, false, false, false, false, false] rfl rfl (any_of HT_.out (by kernel_rfl)) (fun _ _ _ h => h) (Or.inl ⟨by rfl, ?_⟩) ?_ ?_
  rotate_left
  ·intro w'; go_simp; with_reducible rfl
  rotate_left
  ·simp only [Act.put, sA, sB, sC, i64_w, i32_w]; rfl
  refine pure_ (i := 2) (N := some 7) (v := ?_) (a' := ?_) #[true, false, true, false, false, false, false, false, false, false, false, false, false] rfl rfl (any_of HT_.out (by kernel_rfl)) (fun _ _ _ h => h) (Or.inl ⟨by rfl, ?_⟩) ?_ ?_
  rotate_left
  ·intro w'; go_simp; with_reducible rfl
  rotate_left
  ·simp only [Act.put, sA, sB, sC, i64_w, i32_w]; rfl
  refine pure_ (i := 4) (N := some 9) (v := ?_) (a' := ?_) #[true, false, true, false, true, false, false, false, false, false, false, false, false] rfl rfl (any_of HT_.out (by kernel_rfl)) (fun _ _ _ h => h) (Or.inl ⟨by rfl, ?_⟩) ?_ ?_
  rotate_left
  ·intro w'; go_simp; with_reducible rfl
  rotate_left
  ·simp only [Act.put, sA, sB, sC, i64_w, i32_w]; rfl
  refine pure_ (i := 7) (N := some 12) (v := ?_) (a' := ?_) #[true, false, true, false, true, false, false, true, false, false, false, false, false] rfl rfl (any_of HT_.out (by kernel_rfl)) (fun _ _ _ h => h) (Or.inl ⟨by rfl, ?_⟩) ?_ ?_
  rotate_left
  ·intro w'; go_simp; with_reducible rfl
  rotate_left
  ·simp only [Act.put, sA, sB, sC, i64_w, i32_w]; rfl
  refine take_ (i := 1) (N := some 6) (v := ?_) (a' := ?_) #[true, true, true, false, true, false, false, true, false, false, false, false, false] rfl rfl (take_ofW HT_.out HW_.out (by kernel_rfl)) (fun _ _ _ h => h) (Or.inl ⟨by rfl, ?_⟩) hHeld ?_ ?_
  rotate_left
  ·rintro w' ⟨s0, s1, s2, s3, s4⟩
   go_simp; with_reducible rfl
  rotate_left
  ·simp only [Act.put, sA, sB, sC, i64_w, i32_w]; rfl
  refine take_ (i := 3) (N := some 8) (v := ?_) (a' := ?_) #[true, true, true, true, true, false, false, true, false, false, false, false, false] rfl rfl (take_ofW HT_.out HW_.out (by kernel_rfl)) (fun _ _ _ h => h) (Or.inl ⟨by rfl, ?_⟩) hHeld ?_ ?_
  rotate_left
  ·rintro w' ⟨s0, s1, s2, s3, s4⟩
   go_simp; with_reducible rfl
  rotate_left
  ·simp only [Act.put, sA, sB, sC, i64_w, i32_w]; rfl
  refine take_ (i := 5) (N := some 10) (v := ?_) (a' := ?_) #[true, true, true, true, true, true, false, true, false, false, false, false, false] rfl rfl (take_ofW HT_.out HW_.out (by kernel_rfl)) (fun _ _ _ h => h) (Or.inl ⟨by rfl, ?_⟩) hHeld ?_ ?_
  rotate_left
  ·rintro w' ⟨s0, s1, s2, s3, s4⟩
   go_simp; with_reducible rfl
  rotate_left
  ·simp only [Act.put, sA, sB, sC, i64_w, i32_w]; rfl
  refine take_ (i := 8) (N := some 13) (v := ?_) (a' := ?_) #[true, true, true, true, true, true, false, true, true, false, false, false, false] rfl rfl (take_ofW HT_.out HW_.out (by kernel_rfl)) (fun _ _ _ h => h) (Or.inl ⟨by rfl, ?_⟩) hHeld ?_ ?_
  rotate_left
  ·rintro w' ⟨s0, s1, s2, s3, s4⟩
   go_simp; with_reducible rfl
  rotate_left
  ·simp only [Act.put, sA, sB, sC, i64_w, i32_w]; rfl
  refine join_ (σ := Value × Value × Nat) 1 #[true, true, true, true, true, true, true, true, true, true, true, true, false] (fun s_ => [(11, s_.1), (14, s_.2.1), (3, .pointer (some ⟨s_.2.2, 0, none⟩)), (15, .agg #[.int .i64 a0_0, .int .i64 a0_1, .string a0_2, s_.2.1, .slice none 0 0])]) (fun s_ w' => (w'.cell? ⟨gb499, 0, none⟩ = some (.int .i64 a0_0) ∧ w'.cell? ⟨gb499, 1, none⟩ = some (.int .i64 a0_1) ∧ w'.cell? ⟨gb499, 2, none⟩ = some (.string a0_2) ∧ w'.cell? ⟨gb499, 3, none⟩ = some (.slice A0_3 l0_3.length c0_3) ∧ w'.cell? ⟨gb499, 4, none⟩ = some (.slice A0_4 l0_4.length c0_4)) ∧ (Kd.R Kd.string 9 w' w.heap.size (fun _ => True) s_.2.1 y504) ∧ (w'.heap[gb499]? = some (.cells #[.int .i64 a0_0, .int .i64 a0_1, .string a0_2, .slice A0_3 l0_3.length c0_3, .slice A0_4 l0_4.length c0_4] 25 (0, 0))) ∧ (w'.heap[gb500]? = some (.cells #[.int .i64 0, .int .i64 0, .string (⟨#[]⟩ : ByteArray), .slice none 0 0, .slice none 0 0] 45 (0, 0))) ∧ (w'.heap[s_.2.2]? = some (.cells #[.int .i64 0, .int .i64 0, .string (⟨#[]⟩ : ByteArray), .slice none 0 0, .slice none 0 0] 45 (0, 0))) ∧ (w.heap.size ≤ s_.2.2) ∧ (w.heap.size ≤ s_.2.2) ∧ (gb499 ≠ s_.2.2) ∧ (s_.2.2 ≠ gb499) ∧ (gb500 ≠ s_.2.2) ∧ (s_.2.2 ≠ gb500) ∧ (Below w.heap.size w w')) ?_ ?_
  rotate_left
  ·intro hCont
   refine two_ (i := 6) (j := 11) (Ni := some 11) (Nj := some 3) #[true, true, true, true, true, true, true, true, true, false, false, false, false] #[true, true, true, true, true, true, false, true, true, false, false, true, false] rfl rfl rfl rfl (two_of HT_.out (by kernel_rfl)) (by decide) (by decide) (fun K hK => ?_) (fun K hK => ?_)
   ·skip
    refine Kd.R_lit_step Kd.string _ 9 ?hg (N := 11) ?hd (xs := ([] : List ByteArray)) (inner := []) (ok := fun _ => True) (okp := fun _ => True) ?hr ?hp (fun _ hk => hk) trivial (Below.refl _ _) (Nat.le_refl _) (by simp) ?_; (case hd => rfl); (case hg => rfl); (case hr => first | (go_simp; done) | (go_simp; rfl)); (case hp => exact (Reps.none _ _))
    intro v502 w6 ho7 hb hg_ hnew_; clear hg_ hnew_
    (first | rw [← Ny501.out] at ho7 | (simp only [Int.reduceToNat] at ho7; rw [← Ny501.out] at ho7))
    have n0_ := aM (Kd.R_lower ho7 (below_size (by repeat (first | (with_reducible first | exact HB.out | apply below_alloc | apply pw_below_drewN | apply below_drew1 | refine below_set ?_ GE499.out | refine below_set ?_ GE500.out) | exact HB.out))))
    have n1_ := aM (blk_below (g := gb499) (o := .cells #[.int .i64 a0_0, .int .i64 a0_1, .string a0_2, .slice A0_3 l0_3.length c0_3, .slice A0_4 l0_4.length c0_4] 25 (0, 0)) (by (with_reducible repeat (first | refine blk_drewN ?_ _ | refine blk_drew ?_ | refine blk_alloc ?_ _)); exact BK499.out) hb)
    have n2_ := aM (blk_below (g := gb500) (o := .cells #[.int .i64 0, .int .i64 0, .string (⟨#[]⟩ : ByteArray), .slice none 0 0, .slice none 0 0] 45 (0, 0)) (by (with_reducible repeat (first | refine blk_drewN ?_ _ | refine blk_drew ?_ | refine blk_alloc ?_ _)); exact BK500.out) hb)
    have n3_ := aM (below_step (by repeat (first | (with_reducible first | exact HB.out | apply below_alloc | apply pw_below_drewN | apply below_drew1 | refine below_set ?_ GE499.out | refine below_set ?_ GE500.out) | exact HB.out)) hb)
    clear BK499 BK500 HB; have HO503 := n0_; have BK499 := n1_; have BK500 := n2_; have HB := n3_; clear n0_ n1_ n2_ n3_ hb ho7
    refine hK.out _ _ ⟨(blk_cell BK499.out 0).trans rfl, (blk_cell BK499.out 1).trans rfl, (blk_cell BK499.out 2).trans rfl, (blk_cell BK499.out 3).trans rfl, (blk_cell BK499.out 4).trans rfl⟩ (fun hHeld => ?_)
    clear hK K
    refine norm_ (a' := ?_) ?_ ?_
    rotate_left
    ·show Act.put _ (some 11) _ = _
     simp only [Act.put, sA, sB, sC, i64_w, i32_w]; rfl
    refine two_ (i := 9) (j := 11) (Ni := some 14) (Nj := some 3) #[true, true, true, true, true, true, true, true, true, true, false, false, false] #[true, true, true, true, true, true, true, true, true, false, false, true, false] rfl rfl rfl rfl (two_of HT_.out (by kernel_rfl)) (by decide) (by decide) (fun K hK => ?_) (fun K hK => ?_)
    ·skip
     refine Kd.R_append_rows_step Kd.string (w0 := w) w.heap.size (by rfl) (.tmp 11) (.tmp 13) 22 9 (.string ⟨#[]⟩) 16 rfl Tryz.underlying22 info9 rfl (by decide) (by omega) v502 y501 l0_3 _ _ _ (fun _ => True) (fun _ => False) rfl rfl ?aO ?aR (fun _ _ h => h) (fun _ h => h.elim) ?aF ?aB ?aS ?aL ?_
     (case aR => repeat (first | exact (Kd.C_below HR0_3.out HB.out) | (with_reducible refine Kd.C_alloc ?_ _) | (with_reducible refine Kd.C_drewN ?_ _) | (with_reducible refine Kd.C_drew ?_)))
     (case aB => exact (by repeat (first | (with_reducible first | exact HB.out | apply below_alloc | apply pw_below_drewN | apply below_drew1 | refine below_set ?_ GE499.out | refine below_set ?_ GE500.out) | exact HB.out)))
     (case aF => exact (fun _ _ => trivial))
     (case aO => exact (by (with_reducible repeat (first | apply Kd.R_alloc | apply Kd.R_drewN | apply Kd.R_drew)); exact HO503.out))
     (case aS => exact (below_size (by repeat (first | (with_reducible first | exact HB.out | apply below_alloc | apply pw_below_drewN | apply below_drew1 | refine below_set ?_ GE499.out | refine below_set ?_ GE500.out) | exact HB.out))))
     (case aL => have := LMc2.out; omega)
     intro v505 w8 ho hb hg hat
     rw [← Ny504.out] at ho
     have n0_ := aM (blk_grown (g := gb499) (o := .cells #[.int .i64 a0_0, .int .i64 a0_1, .string a0_2, .slice A0_3 l0_3.length c0_3, .slice A0_4 l0_4.length c0_4] 25 (0, 0)) (by (with_reducible repeat (first | refine blk_drewN ?_ _ | refine blk_drew ?_ | refine blk_alloc ?_ _)); exact BK499.out) hg (Kd.R_ne HO503.out BK499.out (by decide)))
     have n1_ := aM (blk_grown (g := gb500) (o := .cells #[.int .i64 0, .int .i64 0, .string (⟨#[]⟩ : ByteArray), .slice none 0 0, .slice none 0 0] 45 (0, 0)) (by (with_reducible repeat (first | refine blk_drewN ?_ _ | refine blk_drew ?_ | refine blk_alloc ?_ _)); exact BK500.out) hg (Kd.R_ne HO503.out BK500.out (by decide)))
     have n2_ := aM (hb)
     have n3_ := aM (ho)
     clear BK499 BK500 HB HO503; have BK499 := n0_; have BK500 := n1_; have HB := n2_; have HO506 := n3_; clear n0_ n1_ n2_ n3_ ho hb hg hat
     obtain ⟨Ao9, co9, eo9⟩ := Kd.R_slice HO506.out
     (first | subst eo9 | (injection eo9 with f1_ f2_ f3_; have f4_ := f1_.symm; have f5_ := f3_.symm; clear f1_ f2_ f3_; subst f4_; subst f5_))
     refine hK.out _ _ ⟨(blk_cell BK499.out 0).trans rfl, (blk_cell BK499.out 1).trans rfl, (blk_cell BK499.out 2).trans rfl, (blk_cell BK499.out 3).trans rfl, (blk_cell BK499.out 4).trans rfl⟩ (fun hHeld => ?_)
     clear hK K
     refine norm_ (a' := ?_) ?_ ?_
     rotate_left
     ·show Act.put _ (some 14) _ = _
      simp only [Act.put, sA, sB, sC, i64_w, i32_w]; rfl
     refine pure_ (i := 10) (N := some 15) (v := ?_) (a' := ?_) #[true, true, true, true, true, true, true, true, true, true, true, false, false] rfl rfl (any_of HT_.out (by kernel_rfl)) (fun _ _ _ h => h) (Or.inl ⟨by rfl, ?_⟩) ?_ ?_
     rotate_left
     ·intro w'; go_simp; with_reducible rfl
     rotate_left
     ·simp only [Act.put, sA, sB, sC, i64_w, i32_w]; rfl
     refine one_ (i := 11) (N := some 3) #[true, true, true, true, true, true, true, true, true, true, true, true, false] rfl rfl (one_of HT_.out (by kernel_rfl)) (by decide) (fun K hK => ?_)
     refine box_step ?hg (N := 3) ?hd (cs := #[.int .i64 0, .int .i64 0, .string (⟨#[]⟩ : ByteArray), .slice none 0 0, .slice none 0 0]) (t := 45) ?hr ?_; (case hd => rfl); (case hg => rfl); (case hr => first | (go_simp; done) | (go_simp; rfl))
     intro gb507 hg w10 hbox hb
     have n0_ := aM (Kd.R_below (by (with_reducible repeat (first | apply Kd.R_alloc | apply Kd.R_drewN | apply Kd.R_drew)); exact HO506.out) hb)
     have n1_ := aM (blk_below (g := gb499) (o := .cells #[.int .i64 a0_0, .int .i64 a0_1, .string a0_2, .slice A0_3 l0_3.length c0_3, .slice A0_4 l0_4.length c0_4] 25 (0, 0)) (by (with_reducible repeat (first | refine blk_drewN ?_ _ | refine blk_drew ?_ | refine blk_alloc ?_ _)); exact BK499.out) hb)
     have n2_ := aM (blk_below (g := gb500) (o := .cells #[.int .i64 0, .int .i64 0, .string (⟨#[]⟩ : ByteArray), .slice none 0 0, .slice none 0 0] 45 (0, 0)) (by (with_reducible repeat (first | refine blk_drewN ?_ _ | refine blk_drew ?_ | refine blk_alloc ?_ _)); exact BK500.out) hb)
     have n3_ := aM (below_step (by repeat (first | (with_reducible first | exact HB.out | apply below_alloc | apply pw_below_drewN | apply below_drew1 | refine below_set ?_ GE499.out | refine below_set ?_ GE500.out) | exact HB.out)) hb)
     have n4_ := aM (hbox)
     have n5_ := aM ((by rw [hg]; exact (below_size (by repeat (first | (with_reducible first | exact HB.out | apply below_alloc | apply pw_below_drewN | apply below_drew1 | refine below_set ?_ GE499.out | refine below_set ?_ GE500.out) | exact HB.out))) : w.heap.size ≤ gb507))
     have n6_ := aM ((by rw [hg]; exact (below_size (by repeat (first | (with_reducible first | exact HB.out | apply below_alloc | apply pw_below_drewN | apply below_drew1 | refine below_set ?_ GE499.out | refine below_set ?_ GE500.out) | exact HB.out))) : w.heap.size ≤ gb507))
     have n7_ := aM ((by rw [hg]; exact Nat.ne_of_lt (blk_lt (g := gb499) (o := .cells #[.int .i64 a0_0, .int .i64 a0_1, .string a0_2, .slice A0_3 l0_3.length c0_3, .slice A0_4 l0_4.length c0_4] 25 (0, 0)) (by (with_reducible repeat (first | refine blk_drewN ?_ _ | refine blk_drew ?_ | refine blk_alloc ?_ _)); exact BK499.out)) : gb499 ≠ gb507))
     have n8_ := aM ((by rw [hg]; exact Nat.ne_of_gt (blk_lt (g := gb499) (o := .cells #[.int .i64 a0_0, .int .i64 a0_1, .string a0_2, .slice A0_3 l0_3.length c0_3, .slice A0_4 l0_4.length c0_4] 25 (0, 0)) (by (with_reducible repeat (first | refine blk_drewN ?_ _ | refine blk_drew ?_ | refine blk_alloc ?_ _)); exact BK499.out)) : gb507 ≠ gb499))
     have n9_ := aM ((by rw [hg]; exact Nat.ne_of_lt (blk_lt (g := gb500) (o := .cells #[.int .i64 0, .int .i64 0, .string (⟨#[]⟩ : ByteArray), .slice none 0 0, .slice none 0 0] 45 (0, 0)) (by (with_reducible repeat (first | refine blk_drewN ?_ _ | refine blk_drew ?_ | refine blk_alloc ?_ _)); exact BK500.out)) : gb500 ≠ gb507))
     have n10_ := aM ((by rw [hg]; exact Nat.ne_of_gt (blk_lt (g := gb500) (o := .cells #[.int .i64 0, .int .i64 0, .string (⟨#[]⟩ : ByteArray), .slice none 0 0, .slice none 0 0] 45 (0, 0)) (by (with_reducible repeat (first | refine blk_drewN ?_ _ | refine blk_drew ?_ | refine blk_alloc ?_ _)); exact BK500.out)) : gb507 ≠ gb500))
     clear HO506 BK499 BK500 HB; have HO506 := n0_; have BK499 := n1_; have BK500 := n2_; have HB := n3_; have BK507 := n4_; have GW507 := n5_; have GE507 := n6_; have NB499_507 := n7_; have NB507_499 := n8_; have NB500_507 := n9_; have NB507_500 := n10_; clear n0_ n1_ n2_ n3_ n4_ n5_ n6_ n7_ n8_ n9_ n10_ hb hbox hg
     refine hK.out _ _ ⟨(blk_cell BK499.out 0).trans rfl, (blk_cell BK499.out 1).trans rfl, (blk_cell BK499.out 2).trans rfl, (blk_cell BK499.out 3).trans rfl, (blk_cell BK499.out 4).trans rfl⟩ (fun hHeld => ?_)
     clear hK K
     refine norm_ (a' := ?_) ?_ ?_
     rotate_left
     ·show Act.put _ (some 3) _ = _
      simp only [Act.put, sA, sB, sC, i64_w, i32_w]; rfl
     exact norm_ (by simp only [putAll, Act.put, sA, sB, sC]) (hCont (v502, .slice Ao9 y504.length co9, gb507) _ ⟨hHeld, (by (with_reducible repeat (first | apply Kd.R_alloc | apply Kd.R_drewN | apply Kd.R_drew)); exact HO506.out), (by (with_reducible repeat (first | refine blk_drewN ?_ _ | refine blk_drew ?_ | refine blk_alloc ?_ _)); exact BK499.out), (by (with_reducible repeat (first | refine blk_drewN ?_ _ | refine blk_drew ?_ | refine blk_alloc ?_ _)); exact BK500.out), (by (with_reducible repeat (first | refine blk_drewN ?_ _ | refine blk_drew ?_ | refine blk_alloc ?_ _)); exact BK507.out), GW507.out, GE507.out, NB499_507.out, NB507_499.out, NB500_507.out, NB507_500.out, (by repeat (first | (with_reducible first | exact HB.out | apply below_alloc | apply pw_below_drewN | apply below_drew1 | refine below_set ?_ GE499.out | refine below_set ?_ GE500.out | refine below_set ?_ GE507.out) | exact HB.out))⟩)
    ·skip
     refine box_step ?hg (N := 3) ?hd (cs := #[.int .i64 0, .int .i64 0, .string (⟨#[]⟩ : ByteArray), .slice none 0 0, .slice none 0 0]) (t := 45) ?hr ?_; (case hd => rfl); (case hg => rfl); (case hr => first | (go_simp; done) | (go_simp; rfl))
     intro gb507 hg w8 hbox hb
     have n0_ := aM (Kd.R_below (by (with_reducible repeat (first | apply Kd.R_alloc | apply Kd.R_drewN | apply Kd.R_drew)); exact HO503.out) hb)
     have n1_ := aM (blk_below (g := gb499) (o := .cells #[.int .i64 a0_0, .int .i64 a0_1, .string a0_2, .slice A0_3 l0_3.length c0_3, .slice A0_4 l0_4.length c0_4] 25 (0, 0)) (by (with_reducible repeat (first | refine blk_drewN ?_ _ | refine blk_drew ?_ | refine blk_alloc ?_ _)); exact BK499.out) hb)
     have n2_ := aM (blk_below (g := gb500) (o := .cells #[.int .i64 0, .int .i64 0, .string (⟨#[]⟩ : ByteArray), .slice none 0 0, .slice none 0 0] 45 (0, 0)) (by (with_reducible repeat (first | refine blk_drewN ?_ _ | refine blk_drew ?_ | refine blk_alloc ?_ _)); exact BK500.out) hb)
     have n3_ := aM (below_step (by repeat (first | (with_reducible first | exact HB.out | apply below_alloc | apply pw_below_drewN | apply below_drew1 | refine below_set ?_ GE499.out | refine below_set ?_ GE500.out) | exact HB.out)) hb)
     have n4_ := aM (hbox)
     have n5_ := aM ((by rw [hg]; exact (below_size (by repeat (first | (with_reducible first | exact HB.out | apply below_alloc | apply pw_below_drewN | apply below_drew1 | refine below_set ?_ GE499.out | refine below_set ?_ GE500.out) | exact HB.out))) : w.heap.size ≤ gb507))
     have n6_ := aM ((by rw [hg]; exact (below_size (by repeat (first | (with_reducible first | exact HB.out | apply below_alloc | apply pw_below_drewN | apply below_drew1 | refine below_set ?_ GE499.out | refine below_set ?_ GE500.out) | exact HB.out))) : w.heap.size ≤ gb507))
     have n7_ := aM ((by rw [hg]; exact Nat.ne_of_lt (blk_lt (g := gb499) (o := .cells #[.int .i64 a0_0, .int .i64 a0_1, .string a0_2, .slice A0_3 l0_3.length c0_3, .slice A0_4 l0_4.length c0_4] 25 (0, 0)) (by (with_reducible repeat (first | refine blk_drewN ?_ _ | refine blk_drew ?_ | refine blk_alloc ?_ _)); exact BK499.out)) : gb499 ≠ gb507))
     have n8_ := aM ((by rw [hg]; exact Nat.ne_of_gt (blk_lt (g := gb499) (o := .cells #[.int .i64 a0_0, .int .i64 a0_1, .string a0_2, .slice A0_3 l0_3.length c0_3, .slice A0_4 l0_4.length c0_4] 25 (0, 0)) (by (with_reducible repeat (first | refine blk_drewN ?_ _ | refine blk_drew ?_ | refine blk_alloc ?_ _)); exact BK499.out)) : gb507 ≠ gb499))
     have n9_ := aM ((by rw [hg]; exact Nat.ne_of_lt (blk_lt (g := gb500) (o := .cells #[.int .i64 0, .int .i64 0, .string (⟨#[]⟩ : ByteArray), .slice none 0 0, .slice none 0 0] 45 (0, 0)) (by (with_reducible repeat (first | refine blk_drewN ?_ _ | refine blk_drew ?_ | refine blk_alloc ?_ _)); exact BK500.out)) : gb500 ≠ gb507))
     have n10_ := aM ((by rw [hg]; exact Nat.ne_of_gt (blk_lt (g := gb500) (o := .cells #[.int .i64 0, .int .i64 0, .string (⟨#[]⟩ : ByteArray), .slice none 0 0, .slice none 0 0] 45 (0, 0)) (by (with_reducible repeat (first | refine blk_drewN ?_ _ | refine blk_drew ?_ | refine blk_alloc ?_ _)); exact BK500.out)) : gb507 ≠ gb500))
     clear HO503 BK499 BK500 HB; have HO503 := n0_; have BK499 := n1_; have BK500 := n2_; have HB := n3_; have BK507 := n4_; have GW507 := n5_; have GE507 := n6_; have NB499_507 := n7_; have NB507_499 := n8_; have NB500_507 := n9_; have NB507_500 := n10_; clear n0_ n1_ n2_ n3_ n4_ n5_ n6_ n7_ n8_ n9_ n10_ hb hbox hg
     refine hK.out _ _ ⟨(blk_cell BK499.out 0).trans rfl, (blk_cell BK499.out 1).trans rfl, (blk_cell BK499.out 2).trans rfl, (blk_cell BK499.out 3).trans rfl, (blk_cell BK499.out 4).trans rfl⟩ (fun hHeld => ?_)
     clear hK K
     refine norm_ (a' := ?_) ?_ ?_
     rotate_left
     ·show Act.put _ (some 3) _ = _
      simp only [Act.put, sA, sB, sC, i64_w, i32_w]; rfl
     refine one_ (i := 9) (N := some 14) #[true, true, true, true, true, true, true, true, true, true, false, true, false] rfl rfl (one_of HT_.out (by kernel_rfl)) (by decide) (fun K hK => ?_)
     refine Kd.R_append_rows_step Kd.string (w0 := w) w.heap.size (by rfl) (.tmp 11) (.tmp 13) 22 9 (.string ⟨#[]⟩) 16 rfl Tryz.underlying22 info9 rfl (by decide) (by omega) v502 y501 l0_3 _ _ _ (fun _ => True) (fun _ => False) rfl rfl ?aO ?aR (fun _ _ h => h) (fun _ h => h.elim) ?aF ?aB ?aS ?aL ?_
     (case aR => repeat (first | exact (Kd.C_below HR0_3.out HB.out) | (with_reducible refine Kd.C_alloc ?_ _) | (with_reducible refine Kd.C_drewN ?_ _) | (with_reducible refine Kd.C_drew ?_)))
     (case aB => exact (by repeat (first | (with_reducible first | exact HB.out | apply below_alloc | apply pw_below_drewN | apply below_drew1 | refine below_set ?_ GE499.out | refine below_set ?_ GE500.out | refine below_set ?_ GE507.out) | exact HB.out)))
     (case aF => exact (fun _ _ => trivial))
     (case aO => exact (by (with_reducible repeat (first | apply Kd.R_alloc | apply Kd.R_drewN | apply Kd.R_drew)); exact HO503.out))
     (case aS => exact (below_size (by repeat (first | (with_reducible first | exact HB.out | apply below_alloc | apply pw_below_drewN | apply below_drew1 | refine below_set ?_ GE499.out | refine below_set ?_ GE500.out | refine below_set ?_ GE507.out) | exact HB.out))))
     (case aL => have := LMc2.out; omega)
     intro v505 w9 ho hb hg hat
     rw [← Ny504.out] at ho
     have n0_ := aM (blk_grown (g := gb499) (o := .cells #[.int .i64 a0_0, .int .i64 a0_1, .string a0_2, .slice A0_3 l0_3.length c0_3, .slice A0_4 l0_4.length c0_4] 25 (0, 0)) (by (with_reducible repeat (first | refine blk_drewN ?_ _ | refine blk_drew ?_ | refine blk_alloc ?_ _)); exact BK499.out) hg (Kd.R_ne HO503.out BK499.out (by decide)))
     have n1_ := aM (blk_grown (g := gb500) (o := .cells #[.int .i64 0, .int .i64 0, .string (⟨#[]⟩ : ByteArray), .slice none 0 0, .slice none 0 0] 45 (0, 0)) (by (with_reducible repeat (first | refine blk_drewN ?_ _ | refine blk_drew ?_ | refine blk_alloc ?_ _)); exact BK500.out) hg (Kd.R_ne HO503.out BK500.out (by decide)))
     have n2_ := aM (blk_grown (g := gb507) (o := .cells #[.int .i64 0, .int .i64 0, .string (⟨#[]⟩ : ByteArray), .slice none 0 0, .slice none 0 0] 45 (0, 0)) (by (with_reducible repeat (first | refine blk_drewN ?_ _ | refine blk_drew ?_ | refine blk_alloc ?_ _)); exact BK507.out) hg (Kd.R_ne HO503.out BK507.out (by decide)))
     have n3_ := aM (hb)
     have n4_ := aM (ho)
     clear BK499 BK500 BK507 HB HO503; have BK499 := n0_; have BK500 := n1_; have BK507 := n2_; have HB := n3_; have HO506 := n4_; clear n0_ n1_ n2_ n3_ n4_ ho hb hg hat
     obtain ⟨Ao10, co10, eo10⟩ := Kd.R_slice HO506.out
     (first | subst eo10 | (injection eo10 with f1_ f2_ f3_; have f4_ := f1_.symm; have f5_ := f3_.symm; clear f1_ f2_ f3_; subst f4_; subst f5_))
     refine hK.out _ _ ⟨(blk_cell BK499.out 0).trans rfl, (blk_cell BK499.out 1).trans rfl, (blk_cell BK499.out 2).trans rfl, (blk_cell BK499.out 3).trans rfl, (blk_cell BK499.out 4).trans rfl⟩ (fun hHeld => ?_)
     clear hK K
     refine norm_ (a' := ?_) ?_ ?_
     rotate_left
     ·show Act.put _ (some 14) _ = _
      simp only [Act.put, sA, sB, sC, i64_w, i32_w]; rfl
     refine pure_ (i := 10) (N := some 15) (v := ?_) (a' := ?_) #[true, true, true, true, true, true, true, true, true, true, true, true, false] rfl rfl (any_of HT_.out (by kernel_rfl)) (fun _ _ _ h => h) (Or.inl ⟨by rfl, ?_⟩) ?_ ?_
     rotate_left
     ·intro w'; go_simp; with_reducible rfl
     rotate_left
     ·simp only [Act.put, sA, sB, sC, i64_w, i32_w]; rfl
     exact norm_ (by simp only [putAll, Act.put, sA, sB, sC]) (hCont (v502, .slice Ao10 y504.length co10, gb507) _ ⟨hHeld, (by (with_reducible repeat (first | apply Kd.R_alloc | apply Kd.R_drewN | apply Kd.R_drew)); exact HO506.out), (by (with_reducible repeat (first | refine blk_drewN ?_ _ | refine blk_drew ?_ | refine blk_alloc ?_ _)); exact BK499.out), (by (with_reducible repeat (first | refine blk_drewN ?_ _ | refine blk_drew ?_ | refine blk_alloc ?_ _)); exact BK500.out), (by (with_reducible repeat (first | refine blk_drewN ?_ _ | refine blk_drew ?_ | refine blk_alloc ?_ _)); exact BK507.out), GW507.out, GE507.out, NB499_507.out, NB507_499.out, NB500_507.out, NB507_500.out, (by repeat (first | (with_reducible first | exact HB.out | apply below_alloc | apply pw_below_drewN | apply below_drew1 | refine below_set ?_ GE499.out | refine below_set ?_ GE500.out | refine below_set ?_ GE507.out) | exact HB.out))⟩)
   ·skip
    refine box_step ?hg (N := 3) ?hd (cs := #[.int .i64 0, .int .i64 0, .string (⟨#[]⟩ : ByteArray), .slice none 0 0, .slice none 0 0]) (t := 45) ?hr ?_; (case hd => rfl); (case hg => rfl); (case hr => first | (go_simp; done) | (go_simp; rfl))
    intro gb507 hg w6 hbox hb
    have n0_ := aM (blk_below (g := gb499) (o := .cells #[.int .i64 a0_0, .int .i64 a0_1, .string a0_2, .slice A0_3 l0_3.length c0_3, .slice A0_4 l0_4.length c0_4] 25 (0, 0)) (by (with_reducible repeat (first | refine blk_drewN ?_ _ | refine blk_drew ?_ | refine blk_alloc ?_ _)); exact BK499.out) hb)
    have n1_ := aM (blk_below (g := gb500) (o := .cells #[.int .i64 0, .int .i64 0, .string (⟨#[]⟩ : ByteArray), .slice none 0 0, .slice none 0 0] 45 (0, 0)) (by (with_reducible repeat (first | refine blk_drewN ?_ _ | refine blk_drew ?_ | refine blk_alloc ?_ _)); exact BK500.out) hb)
    have n2_ := aM (below_step (by repeat (first | (with_reducible first | exact HB.out | apply below_alloc | apply pw_below_drewN | apply below_drew1 | refine below_set ?_ GE499.out | refine below_set ?_ GE500.out) | exact HB.out)) hb)
    have n3_ := aM (hbox)
    have n4_ := aM ((by rw [hg]; exact (below_size (by repeat (first | (with_reducible first | exact HB.out | apply below_alloc | apply pw_below_drewN | apply below_drew1 | refine below_set ?_ GE499.out | refine below_set ?_ GE500.out) | exact HB.out))) : w.heap.size ≤ gb507))
    have n5_ := aM ((by rw [hg]; exact (below_size (by repeat (first | (with_reducible first | exact HB.out | apply below_alloc | apply pw_below_drewN | apply below_drew1 | refine below_set ?_ GE499.out | refine below_set ?_ GE500.out) | exact HB.out))) : w.heap.size ≤ gb507))
    have n6_ := aM ((by rw [hg]; exact Nat.ne_of_lt (blk_lt (g := gb499) (o := .cells #[.int .i64 a0_0, .int .i64 a0_1, .string a0_2, .slice A0_3 l0_3.length c0_3, .slice A0_4 l0_4.length c0_4] 25 (0, 0)) (by (with_reducible repeat (first | refine blk_drewN ?_ _ | refine blk_drew ?_ | refine blk_alloc ?_ _)); exact BK499.out)) : gb499 ≠ gb507))
    have n7_ := aM ((by rw [hg]; exact Nat.ne_of_gt (blk_lt (g := gb499) (o := .cells #[.int .i64 a0_0, .int .i64 a0_1, .string a0_2, .slice A0_3 l0_3.length c0_3, .slice A0_4 l0_4.length c0_4] 25 (0, 0)) (by (with_reducible repeat (first | refine blk_drewN ?_ _ | refine blk_drew ?_ | refine blk_alloc ?_ _)); exact BK499.out)) : gb507 ≠ gb499))
    have n8_ := aM ((by rw [hg]; exact Nat.ne_of_lt (blk_lt (g := gb500) (o := .cells #[.int .i64 0, .int .i64 0, .string (⟨#[]⟩ : ByteArray), .slice none 0 0, .slice none 0 0] 45 (0, 0)) (by (with_reducible repeat (first | refine blk_drewN ?_ _ | refine blk_drew ?_ | refine blk_alloc ?_ _)); exact BK500.out)) : gb500 ≠ gb507))
    have n9_ := aM ((by rw [hg]; exact Nat.ne_of_gt (blk_lt (g := gb500) (o := .cells #[.int .i64 0, .int .i64 0, .string (⟨#[]⟩ : ByteArray), .slice none 0 0, .slice none 0 0] 45 (0, 0)) (by (with_reducible repeat (first | refine blk_drewN ?_ _ | refine blk_drew ?_ | refine blk_alloc ?_ _)); exact BK500.out)) : gb507 ≠ gb500))
    clear BK499 BK500 HB; have BK499 := n0_; have BK500 := n1_; have HB := n2_; have BK507 := n3_; have GW507 := n4_; have GE507 := n5_; have NB499_507 := n6_; have NB507_499 := n7_; have NB500_507 := n8_; have NB507_500 := n9_; clear n0_ n1_ n2_ n3_ n4_ n5_ n6_ n7_ n8_ n9_ hb hbox hg
    refine hK.out _ _ ⟨(blk_cell BK499.out 0).trans rfl, (blk_cell BK499.out 1).trans rfl, (blk_cell BK499.out 2).trans rfl, (blk_cell BK499.out 3).trans rfl, (blk_cell BK499.out 4).trans rfl⟩ (fun hHeld => ?_)
    clear hK K
    refine norm_ (a' := ?_) ?_ ?_
    rotate_left
    ·show Act.put _ (some 3) _ = _
     simp only [Act.put, sA, sB, sC, i64_w, i32_w]; rfl
    refine one_ (i := 6) (N := some 11) #[true, true, true, true, true, true, true, true, true, false, false, true, false] rfl rfl (one_of HT_.out (by kernel_rfl)) (by decide) (fun K hK => ?_)
    refine Kd.R_lit_step Kd.string _ 9 ?hg (N := 11) ?hd (xs := ([] : List ByteArray)) (inner := []) (ok := fun _ => True) (okp := fun _ => True) ?hr ?hp (fun _ hk => hk) trivial (Below.refl _ _) (Nat.le_refl _) (by simp) ?_; (case hd => rfl); (case hg => rfl); (case hr => first | (go_simp; done) | (go_simp; rfl)); (case hp => exact (Reps.none _ _))
    intro v502 w7 ho8 hb hg_ hnew_; clear hg_ hnew_
    (first | rw [← Ny501.out] at ho8 | (simp only [Int.reduceToNat] at ho8; rw [← Ny501.out] at ho8))
    have n0_ := aM (Kd.R_lower ho8 (below_size (by repeat (first | (with_reducible first | exact HB.out | apply below_alloc | apply pw_below_drewN | apply below_drew1 | refine below_set ?_ GE499.out | refine below_set ?_ GE500.out | refine below_set ?_ GE507.out) | exact HB.out))))
    have n1_ := aM (blk_below (g := gb499) (o := .cells #[.int .i64 a0_0, .int .i64 a0_1, .string a0_2, .slice A0_3 l0_3.length c0_3, .slice A0_4 l0_4.length c0_4] 25 (0, 0)) (by (with_reducible repeat (first | refine blk_drewN ?_ _ | refine blk_drew ?_ | refine blk_alloc ?_ _)); exact BK499.out) hb)
    have n2_ := aM (blk_below (g := gb500) (o := .cells #[.int .i64 0, .int .i64 0, .string (⟨#[]⟩ : ByteArray), .slice none 0 0, .slice none 0 0] 45 (0, 0)) (by (with_reducible repeat (first | refine blk_drewN ?_ _ | refine blk_drew ?_ | refine blk_alloc ?_ _)); exact BK500.out) hb)
    have n3_ := aM (blk_below (g := gb507) (o := .cells #[.int .i64 0, .int .i64 0, .string (⟨#[]⟩ : ByteArray), .slice none 0 0, .slice none 0 0] 45 (0, 0)) (by (with_reducible repeat (first | refine blk_drewN ?_ _ | refine blk_drew ?_ | refine blk_alloc ?_ _)); exact BK507.out) hb)
    have n4_ := aM (below_step (by repeat (first | (with_reducible first | exact HB.out | apply below_alloc | apply pw_below_drewN | apply below_drew1 | refine below_set ?_ GE499.out | refine below_set ?_ GE500.out | refine below_set ?_ GE507.out) | exact HB.out)) hb)
    clear BK499 BK500 BK507 HB; have HO503 := n0_; have BK499 := n1_; have BK500 := n2_; have BK507 := n3_; have HB := n4_; clear n0_ n1_ n2_ n3_ n4_ hb ho8
    refine hK.out _ _ ⟨(blk_cell BK499.out 0).trans rfl, (blk_cell BK499.out 1).trans rfl, (blk_cell BK499.out 2).trans rfl, (blk_cell BK499.out 3).trans rfl, (blk_cell BK499.out 4).trans rfl⟩ (fun hHeld => ?_)
    clear hK K
    refine norm_ (a' := ?_) ?_ ?_
    rotate_left
    ·show Act.put _ (some 11) _ = _
     simp only [Act.put, sA, sB, sC, i64_w, i32_w]; rfl
    refine one_ (i := 9) (N := some 14) #[true, true, true, true, true, true, true, true, true, true, false, true, false] rfl rfl (one_of HT_.out (by kernel_rfl)) (by decide) (fun K hK => ?_)
    refine Kd.R_append_rows_step Kd.string (w0 := w) w.heap.size (by rfl) (.tmp 11) (.tmp 13) 22 9 (.string ⟨#[]⟩) 16 rfl Tryz.underlying22 info9 rfl (by decide) (by omega) v502 y501 l0_3 _ _ _ (fun _ => True) (fun _ => False) rfl rfl ?aO ?aR (fun _ _ h => h) (fun _ h => h.elim) ?aF ?aB ?aS ?aL ?_
    (case aR => repeat (first | exact (Kd.C_below HR0_3.out HB.out) | (with_reducible refine Kd.C_alloc ?_ _) | (with_reducible refine Kd.C_drewN ?_ _) | (with_reducible refine Kd.C_drew ?_)))
    (case aB => exact (by repeat (first | (with_reducible first | exact HB.out | apply below_alloc | apply pw_below_drewN | apply below_drew1 | refine below_set ?_ GE499.out | refine below_set ?_ GE500.out | refine below_set ?_ GE507.out) | exact HB.out)))
    (case aF => exact (fun _ _ => trivial))
    (case aO => exact (by (with_reducible repeat (first | apply Kd.R_alloc | apply Kd.R_drewN | apply Kd.R_drew)); exact HO503.out))
    (case aS => exact (below_size (by repeat (first | (with_reducible first | exact HB.out | apply below_alloc | apply pw_below_drewN | apply below_drew1 | refine below_set ?_ GE499.out | refine below_set ?_ GE500.out | refine below_set ?_ GE507.out) | exact HB.out))))
    (case aL => have := LMc2.out; omega)
    intro v505 w9 ho hb hg hat
    rw [← Ny504.out] at ho
    have n0_ := aM (blk_grown (g := gb499) (o := .cells #[.int .i64 a0_0, .int .i64 a0_1, .string a0_2, .slice A0_3 l0_3.length c0_3, .slice A0_4 l0_4.length c0_4] 25 (0, 0)) (by (with_reducible repeat (first | refine blk_drewN ?_ _ | refine blk_drew ?_ | refine blk_alloc ?_ _)); exact BK499.out) hg (Kd.R_ne HO503.out BK499.out (by decide)))
    have n1_ := aM (blk_grown (g := gb500) (o := .cells #[.int .i64 0, .int .i64 0, .string (⟨#[]⟩ : ByteArray), .slice none 0 0, .slice none 0 0] 45 (0, 0)) (by (with_reducible repeat (first | refine blk_drewN ?_ _ | refine blk_drew ?_ | refine blk_alloc ?_ _)); exact BK500.out) hg (Kd.R_ne HO503.out BK500.out (by decide)))
    have n2_ := aM (blk_grown (g := gb507) (o := .cells #[.int .i64 0, .int .i64 0, .string (⟨#[]⟩ : ByteArray), .slice none 0 0, .slice none 0 0] 45 (0, 0)) (by (with_reducible repeat (first | refine blk_drewN ?_ _ | refine blk_drew ?_ | refine blk_alloc ?_ _)); exact BK507.out) hg (Kd.R_ne HO503.out BK507.out (by decide)))
    have n3_ := aM (hb)
    have n4_ := aM (ho)
    clear BK499 BK500 BK507 HB HO503; have BK499 := n0_; have BK500 := n1_; have BK507 := n2_; have HB := n3_; have HO506 := n4_; clear n0_ n1_ n2_ n3_ n4_ ho hb hg hat
    obtain ⟨Ao10, co10, eo10⟩ := Kd.R_slice HO506.out
    (first | subst eo10 | (injection eo10 with f1_ f2_ f3_; have f4_ := f1_.symm; have f5_ := f3_.symm; clear f1_ f2_ f3_; subst f4_; subst f5_))
    refine hK.out _ _ ⟨(blk_cell BK499.out 0).trans rfl, (blk_cell BK499.out 1).trans rfl, (blk_cell BK499.out 2).trans rfl, (blk_cell BK499.out 3).trans rfl, (blk_cell BK499.out 4).trans rfl⟩ (fun hHeld => ?_)
    clear hK K
    refine norm_ (a' := ?_) ?_ ?_
    rotate_left
    ·show Act.put _ (some 14) _ = _
     simp only [Act.put, sA, sB, sC, i64_w, i32_w]; rfl
    refine pure_ (i := 10) (N := some 15) (v := ?_) (a' := ?_) #[true, true, true, true, true, true, true, true, true, true, true, true, false] rfl rfl (any_of HT_.out (by kernel_rfl)) (fun _ _ _ h => h) (Or.inl ⟨by rfl, ?_⟩) ?_ ?_
    rotate_left
    ·intro w'; go_simp; with_reducible rfl
    rotate_left
    ·simp only [Act.put, sA, sB, sC, i64_w, i32_w]; rfl
    exact norm_ (by simp only [putAll, Act.put, sA, sB, sC]) (hCont (v502, .slice Ao10 y504.length co10, gb507) _ ⟨hHeld, (by (with_reducible repeat (first | apply Kd.R_alloc | apply Kd.R_drewN | apply Kd.R_drew)); exact HO506.out), (by (with_reducible repeat (first | refine blk_drewN ?_ _ | refine blk_drew ?_ | refine blk_alloc ?_ _)); exact BK499.out), (by (with_reducible repeat (first | refine blk_drewN ?_ _ | refine blk_drew ?_ | refine blk_alloc ?_ _)); exact BK500.out), (by (with_reducible repeat (first | refine blk_drewN ?_ _ | refine blk_drew ?_ | refine blk_alloc ?_ _)); exact BK507.out), GW507.out, GE507.out, NB499_507.out, NB507_499.out, NB500_507.out, NB507_500.out, (by repeat (first | (with_reducible first | exact HB.out | apply below_alloc | apply pw_below_drewN | apply below_drew1 | refine below_set ?_ GE499.out | refine below_set ?_ GE500.out | refine below_set ?_ GE507.out) | exact HB.out))⟩)
  rintro ⟨v502, v505, gb507⟩ w11 ⟨hS_, h0_, h1_, h2_, h3_, h4_, h5_, h6_, h7_, h8_, h9_, h10_⟩
  have n0_ : Aside0 (Kd.R Kd.string 9 w11 w.heap.size (fun _ => True) v505 y504) := ⟨h0_⟩
  have n1_ : Aside0 (w11.heap[gb499]? = some (.cells #[.int .i64 a0_0, .int .i64 a0_1, .string a0_2, .slice A0_3 l0_3.length c0_3, .slice A0_4 l0_4.length c0_4] 25 (0, 0))) := ⟨h1_⟩
  have n2_ : Aside0 (w11.heap[gb500]? = some (.cells #[.int .i64 0, .int .i64 0, .string (⟨#[]⟩ : ByteArray), .slice none 0 0, .slice none 0 0] 45 (0, 0))) := ⟨h2_⟩
  have n3_ : Aside0 (w11.heap[gb507]? = some (.cells #[.int .i64 0, .int .i64 0, .string (⟨#[]⟩ : ByteArray), .slice none 0 0, .slice none 0 0] 45 (0, 0))) := ⟨h3_⟩
  have n4_ : Aside0 (w.heap.size ≤ gb507) := ⟨h4_⟩
  have n5_ : Aside0 (w.heap.size ≤ gb507) := ⟨h5_⟩
  have n6_ : Aside0 (gb499 ≠ gb507) := ⟨h6_⟩
  have n7_ : Aside0 (gb507 ≠ gb499) := ⟨h7_⟩
  have n8_ : Aside0 (gb500 ≠ gb507) := ⟨h8_⟩
  have n9_ : Aside0 (gb507 ≠ gb500) := ⟨h9_⟩
  have n10_ : Aside0 (Below w.heap.size w w11) := ⟨h10_⟩
  clear BK499 BK500 HB h0_ h1_ h2_ h3_ h4_ h5_ h6_ h7_ h8_ h9_ h10_; have HO506 := n0_; have BK499 := n1_; have BK500 := n2_; have BK507 := n3_; have GW507 := n4_; have GE507 := n5_; have NB499_507 := n6_; have NB507_499 := n7_; have NB500_507 := n8_; have NB507_500 := n9_; have HB := n10_; clear n0_ n1_ n2_ n3_ n4_ n5_ n6_ n7_ n8_ n9_ n10_
  have hHeld : w11.cell? ⟨gb499, 0, none⟩ = some (.int .i64 a0_0) ∧ w11.cell? ⟨gb499, 1, none⟩ = some (.int .i64 a0_1) ∧ w11.cell? ⟨gb499, 2, none⟩ = some (.string a0_2) ∧ w11.cell? ⟨gb499, 3, none⟩ = some (.slice A0_3 l0_3.length c0_3) ∧ w11.cell? ⟨gb499, 4, none⟩ = some (.slice A0_4 l0_4.length c0_4) := hS_
  obtain ⟨Ao12, co12, eo12⟩ := Kd.R_slice HO506.out
  (first | subst eo12 | (injection eo12 with f1_ f2_ f3_; have f4_ := f1_.symm; have f5_ := f3_.symm; clear f1_ f2_ f3_; subst f4_; subst f5_))
  refine norm_ (a' := ?_) ?_ ?_
  rotate_left
  ·simp only [putAll, Act.put, sA, sB, sC]
   rfl
  refine one_ (i := 12) (N := none) #[true, true, true, true, true, true, true, true, true, true, true, true, true] rfl rfl (one_of HT_.out (by kernel_rfl)) (by decide) (fun K hK => ?_)
  have hs13 : w11.cell? ⟨gb507, 0, none⟩ = some (.int .i64 0) := (blk_cell BK507.out 0).trans rfl
  have hfs13 := blk_frozen BK507.out 0
  have hns13_0 := NB499_507.out
  have hns13_1 := NB500_507.out
  have hms13_0 := NB507_499.out
  have hms13_1 := NB507_500.out
  have hs14 : w11.cell? ⟨gb507, 1, none⟩ = some (.int .i64 0) := (blk_cell BK507.out 1).trans rfl
  have hfs14 := blk_frozen BK507.out 1
  have hns14_0 := NB499_507.out
  have hns14_1 := NB500_507.out
  have hms14_0 := NB507_499.out
  have hms14_1 := NB507_500.out
  have hs15 : w11.cell? ⟨gb507, 2, none⟩ = some (.string (⟨#[]⟩ : ByteArray)) := (blk_cell BK507.out 2).trans rfl
  have hfs15 := blk_frozen BK507.out 2
  have hns15_0 := NB499_507.out
  have hns15_1 := NB500_507.out
  have hms15_0 := NB507_499.out
  have hms15_1 := NB507_500.out
  have hs16 : w11.cell? ⟨gb507, 3, none⟩ = some (.slice none 0 0) := (blk_cell BK507.out 3).trans rfl
  have hfs16 := blk_frozen BK507.out 3
  have hns16_0 := NB499_507.out
  have hns16_1 := NB500_507.out
  have hms16_0 := NB507_499.out
  have hms16_1 := NB507_500.out
  have hs17 : w11.cell? ⟨gb507, 4, none⟩ = some (.slice none 0 0) := (blk_cell BK507.out 4).trans rfl
  have hfs17 := blk_frozen BK507.out 4
  have hns17_0 := NB499_507.out
  have hns17_1 := NB500_507.out
  have hms17_0 := NB507_499.out
  have hms17_1 := NB507_500.out
  refine skip_ (w1 := ?_) (by rfl) rfl ?_ ?_
  rotate_left
  ·go_simp; rfl
  refine hK.out _ _ ⟨((cell_far (p := ⟨gb507, _, none⟩) NB499_507.out _).trans (((cell_far (p := ⟨gb507, _, none⟩) NB499_507.out _).trans (((cell_far (p := ⟨gb507, _, none⟩) NB499_507.out _).trans (((cell_far (p := ⟨gb507, _, none⟩) NB499_507.out _).trans (((cell_far (p := ⟨gb507, _, none⟩) NB499_507.out _).trans (hHeld.1)))))))))), ((cell_far (p := ⟨gb507, _, none⟩) NB499_507.out _).trans (((cell_far (p := ⟨gb507, _, none⟩) NB499_507.out _).trans (((cell_far (p := ⟨gb507, _, none⟩) NB499_507.out _).trans (((cell_far (p := ⟨gb507, _, none⟩) NB499_507.out _).trans (((cell_far (p := ⟨gb507, _, none⟩) NB499_507.out _).trans (hHeld.2.1)))))))))), ((cell_far (p := ⟨gb507, _, none⟩) NB499_507.out _).trans (((cell_far (p := ⟨gb507, _, none⟩) NB499_507.out _).trans (((cell_far (p := ⟨gb507, _, none⟩) NB499_507.out _).trans (((cell_far (p := ⟨gb507, _, none⟩) NB499_507.out _).trans (((cell_far (p := ⟨gb507, _, none⟩) NB499_507.out _).trans (hHeld.2.2.1)))))))))), ((cell_far (p := ⟨gb507, _, none⟩) NB499_507.out _).trans (((cell_far (p := ⟨gb507, _, none⟩) NB499_507.out _).trans (((cell_far (p := ⟨gb507, _, none⟩) NB499_507.out _).trans (((cell_far (p := ⟨gb507, _, none⟩) NB499_507.out _).trans (((cell_far (p := ⟨gb507, _, none⟩) NB499_507.out _).trans (hHeld.2.2.2.1)))))))))), ((cell_far (p := ⟨gb507, _, none⟩) NB499_507.out _).trans (((cell_far (p := ⟨gb507, _, none⟩) NB499_507.out _).trans (((cell_far (p := ⟨gb507, _, none⟩) NB499_507.out _).trans (((cell_far (p := ⟨gb507, _, none⟩) NB499_507.out _).trans (((cell_far (p := ⟨gb507, _, none⟩) NB499_507.out _).trans (hHeld.2.2.2.2))))))))))⟩ (fun hHeld => ?_)
  clear hK K
  refine done_ (done_of HT_.out (by kernel_rfl)) ?_
  try go_wp2
  go_loopg [4] k (fun kq v4 w' => ∃ (x4_1 : Int) (x508004_1 : List (S45)) (u508004 : Value), v4 = .int .i64 x4_1 ∧ Aside0 (laws_to.l0 kq x4_1 a0_0 a0_1 a0_2 l0_3 l0_4 a0_0 a0_1 a0_2 y504 x508004_1 = some (r1, r2, r3, r4, r5)) ∧ Aside0 (kq ≤ k) ∧ Aside0 (Kd.R Kd.string 9 w' w.heap.size (fun _ => True) (.slice Ao12 y504.length co12) y504) ∧ Aside0 (Kd.R k45 45 w' w.heap.size (fun k_ => some k_ ≠ ((.slice Ao12 y504.length co12) : Value).ownBlock ∧ k_ ≠ gb500 ∧ k_ ≠ gb507) u508004 x508004_1) ∧ Aside0 (w'.heap[gb499]? = some (.cells #[.int .i64 a0_0, .int .i64 a0_1, .string a0_2, (.slice A0_3 l0_3.length c0_3), (.slice A0_4 l0_4.length c0_4)] 25 (0, 0))) ∧ Aside0 (w'.heap[gb500]? = some (.cells #[.int .i64 0, .int .i64 0, .string (⟨#[]⟩ : ByteArray), (.slice none 0 0), (.slice none 0 0)] 45 (0, 0))) ∧ Aside0 (w'.heap[gb507]? = some (.cells #[.int .i64 a0_0, .int .i64 a0_1, .string a0_2, (.slice Ao12 y504.length co12), u508004] 45 (0, 0))) ∧ Aside0 (Below w.heap.size w w'))
  case atStart => exact ⟨(0), (([] : List (S45))), (.slice none 0 0), (by first | rfl | (simp; done) | (simp [*]; done)), H', ⟨Nat.le_refl _⟩, ⟨by (with_reducible repeat (first | apply Kd.R_alloc | apply Kd.R_drewN | apply Kd.R_drew)); exact Kd.R_mono (Kd.R_far (p := ⟨gb507, 4, none⟩) (Kd.R_far (p := ⟨gb507, 3, none⟩) (Kd.R_far (p := ⟨gb507, 2, none⟩) (Kd.R_far (p := ⟨gb507, 1, none⟩) (Kd.R_far (p := ⟨gb507, 0, none⟩) (Kd.R_types HO506.out BK507.out (by decide)) (fun _ hk => hk.2) (.int .i64 a0_0)) (fun _ hk => hk.2) (.int .i64 a0_1)) (fun _ hk => hk.2) (.string a0_2)) (fun _ hk => hk.2) (.slice Ao12 y504.length co12)) (fun _ hk => hk.2) (.slice none 0 0)) (fun _ hk => trivial)⟩, ⟨by first | exact Kd.R_nil _ _ _ _ _ | exact Kd.N_nil _ _ _ _ _ | exact Kd.V_nil _ _ _ _ _ | exact Kd.Q_nil _ _ _ _ _ | exact Kd.S_nil _ _ _ _ _⟩, ⟨by (with_reducible repeat (first | refine blk_drewN ?_ _ | refine blk_drew ?_ | refine blk_alloc ?_ _)); refine blk_far ?_ NB499_507.out _; (with_reducible repeat (first | refine blk_drewN ?_ _ | refine blk_drew ?_ | refine blk_alloc ?_ _)); refine blk_far ?_ NB499_507.out _; (with_reducible repeat (first | refine blk_drewN ?_ _ | refine blk_drew ?_ | refine blk_alloc ?_ _)); refine blk_far ?_ NB499_507.out _; (with_reducible repeat (first | refine blk_drewN ?_ _ | refine blk_drew ?_ | refine blk_alloc ?_ _)); refine blk_far ?_ NB499_507.out _; (with_reducible repeat (first | refine blk_drewN ?_ _ | refine blk_drew ?_ | refine blk_alloc ?_ _)); refine blk_far ?_ NB499_507.out _; (with_reducible repeat (first | refine blk_drewN ?_ _ | refine blk_drew ?_ | refine blk_alloc ?_ _)); exact BK499.out⟩, ⟨by (with_reducible repeat (first | refine blk_drewN ?_ _ | refine blk_drew ?_ | refine blk_alloc ?_ _)); refine blk_far ?_ NB500_507.out _; (with_reducible repeat (first | refine blk_drewN ?_ _ | refine blk_drew ?_ | refine blk_alloc ?_ _)); refine blk_far ?_ NB500_507.out _; (with_reducible repeat (first | refine blk_drewN ?_ _ | refine blk_drew ?_ | refine blk_alloc ?_ _)); refine blk_far ?_ NB500_507.out _; (with_reducible repeat (first | refine blk_drewN ?_ _ | refine blk_drew ?_ | refine blk_alloc ?_ _)); refine blk_far ?_ NB500_507.out _; (with_reducible repeat (first | refine blk_drewN ?_ _ | refine blk_drew ?_ | refine blk_alloc ?_ _)); refine blk_far ?_ NB500_507.out _; (with_reducible repeat (first | refine blk_drewN ?_ _ | refine blk_drew ?_ | refine blk_alloc ?_ _)); exact BK500.out⟩, ⟨by (with_reducible repeat (first | refine blk_drewN ?_ _ | refine blk_drew ?_ | refine blk_alloc ?_ _)); refine blk_put (cs := #[.int .i64 a0_0, .int .i64 a0_1, .string a0_2, .slice Ao12 y504.length co12, .slice none 0 0]) ?_ 4 _ rfl; (with_reducible repeat (first | refine blk_drewN ?_ _ | refine blk_drew ?_ | refine blk_alloc ?_ _)); refine blk_put (cs := #[.int .i64 a0_0, .int .i64 a0_1, .string a0_2, .slice none 0 0, .slice none 0 0]) ?_ 3 _ rfl; (with_reducible repeat (first | refine blk_drewN ?_ _ | refine blk_drew ?_ | refine blk_alloc ?_ _)); refine blk_put (cs := #[.int .i64 a0_0, .int .i64 a0_1, .string (⟨#[]⟩ : ByteArray), .slice none 0 0, .slice none 0 0]) ?_ 2 _ rfl; (with_reducible repeat (first | refine blk_drewN ?_ _ | refine blk_drew ?_ | refine blk_alloc ?_ _)); refine blk_put (cs := #[.int .i64 a0_0, .int .i64 0, .string (⟨#[]⟩ : ByteArray), .slice none 0 0, .slice none 0 0]) ?_ 1 _ rfl; (with_reducible repeat (first | refine blk_drewN ?_ _ | refine blk_drew ?_ | refine blk_alloc ?_ _)); refine blk_put (cs := #[.int .i64 0, .int .i64 0, .string (⟨#[]⟩ : ByteArray), .slice none 0 0, .slice none 0 0]) ?_ 0 _ rfl; (with_reducible repeat (first | refine blk_drewN ?_ _ | refine blk_drew ?_ | refine blk_alloc ?_ _)); exact BK507.out⟩, ⟨by repeat (first | (with_reducible first | exact HB.out | apply below_alloc | apply pw_below_drewN | apply below_drew1 | refine below_set ?_ GE499.out | refine below_set ?_ GE500.out | refine below_set ?_ GE507.out) | exact HB.out)⟩⟩
  case round =>
   clear H'
   try clear c2
   try clear p2
   obtain ⟨x4_1, x508004_1, u508004, rfl, HA, HK1, HO_508003, HO_508004, BK499, BK500, BK507, HB⟩ := hrel
   cases gk with
   | zero => exact absurd HA.out (by simp [laws_to.l0])
   | succ k1 =>
    have H := HA.out
    clear HA
    simp only [laws_to.l0] at H
    by_cases c18 : x4_1 < (l0_4.length : Int)
    ·rw [if_pos c18] at H
     have c18b0 : decide (x4_1 < (l0_4.length : Int)) = true := decide_eq_true c18
     clear c18
     by_cases c19 : 0 ≤ x4_1
     ·rw [if_pos c19] at H
      have c19b0 : decide (0 ≤ x4_1) = true := decide_eq_true c19
      clear c19
      replace H := Option.bind_eq_some_iff.mp H
      obtain ⟨⟨t509, t510, t511, t512, t515⟩, A200, H⟩ := H
      replace H : (if x508004_1.length < 1759218604441 then (laws_to.l0 k1 (wrap64 (x4_1 + 1)) a0_0 a0_1 a0_2 l0_3 l0_4 a0_0 a0_1 a0_2 y504 (x508004_1 ++ [(⟨t509, t510, t511, t512, t515⟩ : S45)])) else (none)) = some (r1, r2, r3, r4, r5) := H
      have A20 := aM A200
      clear A200
      by_cases c21 : x508004_1.length < 1759218604441
      ·rw [if_pos c21] at H
       have LMc21 := aM c21
       clear c21
       obtain ⟨y518, hy518⟩ : ∃ y_ : List (S45), y_ = (x508004_1 ++ [(⟨t509, t510, t511, t512, t515⟩ : S45)]) := ⟨_, rfl⟩
       replace H : (laws_to.l0 k1 (wrap64 (x4_1 + 1)) a0_0 a0_1 a0_2 l0_3 l0_4 a0_0 a0_1 a0_2 y504 y518) = some (r1, r2, r3, r4, r5) := by first | (rw [hy518]; with_reducible exact H) | (have H2_ := (Option.bind_some _ _).symm.trans H; rw [hy518]; with_reducible exact H2_) | (have H2_ := (Option.bind_some _ _).symm.trans H; with_reducible exact H2_) | with_reducible exact H | (rw [hy518]; exact H) | exact H
       have Ny518 := aM hy518
       clear hy518
       have H' := aM H
       clear H
       have hnb22 := NB499_500.out
       have hnc22 := NB500_499.out
       have hnb23 := NB499_507.out
       have hnc23 := NB507_499.out
       have hcz24_0 : wr.cell? ⟨gb499, 0, none⟩ = some (.int .i64 a0_0) := (blk_cell BK499.out 0).trans rfl
       have hcz24_1 : wr.cell? ⟨gb499, 1, none⟩ = some (.int .i64 a0_1) := (blk_cell BK499.out 1).trans rfl
       have hcz24_2 : wr.cell? ⟨gb499, 2, none⟩ = some (.string a0_2) := (blk_cell BK499.out 2).trans rfl
       have hcz24_3 : wr.cell? ⟨gb499, 3, none⟩ = some (.slice A0_3 l0_3.length c0_3) := (blk_cell BK499.out 3).trans rfl
       have hcz24_4 : wr.cell? ⟨gb499, 4, none⟩ = some (.slice A0_4 l0_4.length c0_4) := (blk_cell BK499.out 4).trans rfl
       have hfz24_0 := blk_frozen BK499.out 0
       have hfz24_1 := blk_frozen BK499.out 1
       have hfz24_2 := blk_frozen BK499.out 2
       have hfz24_3 := blk_frozen BK499.out 3
       have hfz24_4 := blk_frozen BK499.out 4
       try go_wp2
       have n0_ := aM (Kd.R_drew HO_508003.out)
       have n1_ := aM (Kd.R_drew HO_508004.out)
       have n2_ := aM (blk_drew BK499.out)
       have n3_ := aM (blk_drew BK500.out)
       have n4_ := aM (blk_drew BK507.out)
       have n5_ := aM (below_drew1 HB.out)
       clear HO_508003 HO_508004 BK499 BK500 BK507 HB; have HO_508003 := n0_; have HO_508004 := n1_; have BK499 := n2_; have BK500 := n3_; have BK507 := n4_; have HB := n5_; clear n0_ n1_ n2_ n3_ n4_ n5_
       have p508 : 0 ≤ (x4_1 : Int) := of_decide_eq_true (by first | (with_reducible assumption) | assumption)
       have q508 : x4_1 < (l0_4.length : Int) := of_decide_eq_true (by first | (with_reducible assumption) | assumption)
       obtain ⟨ad508, A508_3, c508_3, A508_4, c508_4, e508, hx508_0, hx508_1, hx508_2, hx508_3, hx508_4, hl508_3, hi508_3, hl508_4, hi508_4⟩ := at_T25 HR0_4.out x4_1 p508 q508
       have hw508_4 := hx508_4
       have hw508_3 := hx508_3
       have hw508_2 := hx508_2
       have hw508_1 := hx508_1
       have hw508_0 := hx508_0
       cases e508
       replace hx508_0 := (HB.out.cell (World.block_lt_of_cell? w _ hx508_0)).trans hx508_0
       replace hx508_1 := (HB.out.cell (World.block_lt_of_cell? w _ hx508_1)).trans hx508_1
       replace hx508_2 := (HB.out.cell (World.block_lt_of_cell? w _ hx508_2)).trans hx508_2
       replace hx508_3 := (HB.out.cell (World.block_lt_of_cell? w _ hx508_3)).trans hx508_3
       replace hx508_4 := (HB.out.cell (World.block_lt_of_cell? w _ hx508_4)).trans hx508_4
       have HR508_3 := aM hi508_3
       have HC508_3 := aM hl508_3
       clear hi508_3 hl508_3
       have HR508_4 := aM hi508_4
       have HC508_4 := aM hl508_4
       clear hi508_4 hl508_4
       replace p508 := eq_true p508
       replace q508 := eq_true q508
       refine start_ (n := 12) (S := fun w' => w'.cell? ⟨gb507, 0, none⟩ = some (.int .i64 a0_0) ∧ w'.cell? ⟨gb507, 1, none⟩ = some (.int .i64 a0_1) ∧ w'.cell? ⟨gb507, 2, none⟩ = some (.string a0_2) ∧ w'.cell? ⟨gb507, 3, none⟩ = some (.slice Ao12 y504.length co12) ∧ w'.cell? ⟨gb507, 4, none⟩ = some (u508004) ∧ w'.cell? ⟨gb499, 0, none⟩ = some (.int .i64 a0_0) ∧ w'.cell? ⟨gb499, 1, none⟩ = some (.int .i64 a0_1) ∧ w'.cell? ⟨gb499, 2, none⟩ = some (.string a0_2) ∧ w'.cell? ⟨gb499, 3, none⟩ = some (.slice A0_3 l0_3.length c0_3) ∧ w'.cell? ⟨gb499, 4, none⟩ = some (.slice (some ad508) l0_4.length c0_4) ∧ w'.cell? (ad508.add ((x4_1).toNat * 5)) = some (.int .i64 ((rd_T25 l0_4 x4_1).f0)) ∧ w'.cell? ⟨(ad508.add ((x4_1).toNat * 5)).block, (ad508.add ((x4_1).toNat * 5)).off + 1, none⟩ = some (.int .i64 ((rd_T25 l0_4 x4_1).f1)) ∧ w'.cell? ⟨(ad508.add ((x4_1).toNat * 5)).block, (ad508.add ((x4_1).toNat * 5)).off + 2, none⟩ = some (.string ((rd_T25 l0_4 x4_1).f2)) ∧ w'.cell? ⟨(ad508.add ((x4_1).toNat * 5)).block, (ad508.add ((x4_1).toNat * 5)).off + 3, none⟩ = some (.slice A508_3 ((rd_T25 l0_4 x4_1).f3).length c508_3) ∧ w'.cell? ⟨(ad508.add ((x4_1).toNat * 5)).block, (ad508.add ((x4_1).toNat * 5)).off + 4, none⟩ = some (.slice A508_4 ((rd_T25 l0_4 x4_1).f4).length c508_4)) (ds := [11]) #[false, false, false, false, false, false, false, false, false, false, false, false] (by kernel_rfl) rfl rfl ⟨(blk_cell BK507.out 0).trans rfl, (blk_cell BK507.out 1).trans rfl, (blk_cell BK507.out 2).trans rfl, (blk_cell BK507.out 3).trans rfl, (blk_cell BK507.out 4).trans rfl, (blk_cell BK499.out 0).trans rfl, (blk_cell BK499.out 1).trans rfl, (blk_cell BK499.out 2).trans rfl, (blk_cell BK499.out 3).trans rfl, (blk_cell BK499.out 4).trans rfl, ((HB.out.cell (World.block_lt_of_cell? w _ hw508_0)).trans hw508_0), ((HB.out.cell (World.block_lt_of_cell? w _ hw508_1)).trans hw508_1), ((HB.out.cell (World.block_lt_of_cell? w _ hw508_2)).trans hw508_2), ((HB.out.cell (World.block_lt_of_cell? w _ hw508_3)).trans hw508_3), ((HB.out.cell (World.block_lt_of_cell? w _ hw508_4)).trans hw508_4)⟩ (fun hHeld => ?_); refine with_tabW laws_to.tab5 laws_to.bits5 (fun HT_ HW_ => ?_)
       generalize wr.drew = w25 at HO_508003 HO_508004 BK499 BK500 BK507 HB HR508_3 HR508_4 hx508_0 hx508_1 hx508_2 hx508_3 hx508_4 hHeld ⊢
       refine pure_ (i := 0) (N := some 23) (v := ?_) (a' := ?_) #[true, false, false, false, false, false, false, false, false, false, false, false] rfl rfl (any_of HT_.out (by kernel_rfl)) (fun _ _ _ h => h) (Or.inl ⟨by rfl, ?_⟩) ?_ ?_
       rotate_left
       ·intro w'; go_simp; with_reducible rfl
       rotate_left
       ·simp only [Act.put, sA, sB, sC, i64_w, i32_w]; rfl
       refine pure_ (i := 2) (N := some 25) (v := ?_) (a' := ?_) #[true, false, true, false, false, false, false, false, false, false, false, false] rfl rfl (any_of HT_.out (by kernel_rfl)) (fun _ _ _ h => h) (Or.inl ⟨by rfl, ?_⟩) ?_ ?_
       rotate_left
       ·intro w'; go_simp; with_reducible rfl
       rotate_left
       ·simp only [Act.put, sA, sB, sC, i64_w, i32_w]; rfl
       refine pure_ (i := 4) (N := some 27) (v := ?_) (a' := ?_) #[true, false, true, false, true, false, false, false, false, false, false, false] rfl rfl (any_of HT_.out (by kernel_rfl)) (fun _ _ _ h => h) (Or.inl ⟨by rfl, ?_⟩) ?_ ?_
       rotate_left
       ·intro w'; go_simp; with_reducible rfl
       rotate_left
       ·simp only [Act.put, sA, sB, sC, i64_w, i32_w]; rfl
       refine take_ (i := 1) (N := some 24) (v := ?_) (a' := ?_) #[true, true, true, false, true, false, false, false, false, false, false, false] rfl rfl (take_ofW HT_.out HW_.out (by kernel_rfl)) (fun _ _ _ h => h) (Or.inl ⟨by rfl, ?_⟩) hHeld ?_ ?_
       rotate_left
       ·rintro w' ⟨s0, s1, s2, s3, s4, s5, s6, s7, s8, s9, s10, s11, s12, s13, s14⟩
        go_simp; with_reducible rfl
       rotate_left
       ·simp only [Act.put, sA, sB, sC, i64_w, i32_w]; rfl
       refine take_ (i := 3) (N := some 26) (v := ?_) (a' := ?_) #[true, true, true, true, true, false, false, false, false, false, false, false] rfl rfl (take_ofW HT_.out HW_.out (by kernel_rfl)) (fun _ _ _ h => h) (Or.inl ⟨by rfl, ?_⟩) hHeld ?_ ?_
       rotate_left
       ·rintro w' ⟨s0, s1, s2, s3, s4, s5, s6, s7, s8, s9, s10, s11, s12, s13, s14⟩
        go_simp; with_reducible rfl
       rotate_left
       ·simp only [Act.put, sA, sB, sC, i64_w, i32_w]; rfl
       refine pure_ (i := 5) (N := some 28) (v := ?_) (a' := ?_) #[true, true, true, true, true, true, false, false, false, false, false, false] rfl rfl (any_of HT_.out (by kernel_rfl)) (fun _ _ _ h => h) (Or.inl ⟨by rfl, ?_⟩) ?_ ?_
       rotate_left
       ·intro w'; go_simp; with_reducible rfl
       rotate_left
       ·simp only [Act.put, sA, sB, sC, i64_w, i32_w]; rfl
       refine take_ (i := 6) (N := some 29) (v := ?_) (a' := ?_) #[true, true, true, true, true, true, true, false, false, false, false, false] rfl rfl (take_ofW HT_.out HW_.out (by kernel_rfl)) (fun _ _ _ h => h) (Or.inl ⟨by rfl, ?_⟩) hHeld ?_ ?_
       rotate_left
       ·rintro w' ⟨s0, s1, s2, s3, s4, s5, s6, s7, s8, s9, s10, s11, s12, s13, s14⟩
        go_simp; with_reducible rfl
       rotate_left
       ·simp only [Act.put, sA, sB, sC, i64_w, i32_w]; rfl
       refine one_ (i := 7) (N := some 30) #[true, true, true, true, true, true, true, true, false, false, false, false] rfl rfl (one_of HT_.out (by kernel_rfl)) (by decide) (fun K hK => ?_)
       refine goes_ Tryz.func21 (by kernel_rfl) rfl #[.agg #[.int .i64 ((rd_T25 l0_4 x4_1).f0), .int .i64 ((rd_T25 l0_4 x4_1).f1), .string ((rd_T25 l0_4 x4_1).f2), .slice A508_3 ((rd_T25 l0_4 x4_1).f3).length c508_3, .slice A508_4 ((rd_T25 l0_4 x4_1).f4).length c508_4]] (by rfl) rfl rfl (by (try simp only [List.map_toArray, List.map_cons, List.map_nil]); first | done | rfl | (simp only [List.length_drop, List.length_take]; rfl)) ?_
       with_reducible refine (ih k1 (by have := HK1.out; omega) ((rd_T25 l0_4 x4_1).f0) ((rd_T25 l0_4 x4_1).f1) ((rd_T25 l0_4 x4_1).f2) _ _ ((rd_T25 l0_4 x4_1).f3) _ _ ((rd_T25 l0_4 x4_1).f4) t509 t510 t511 t512 t515 _ ?side1 ?side2 ?side3 ?side4 A20.out).mono ?_
       (case side1 => repeat (first | exact (Kd.C_below HR508_3.out HB.out) | (with_reducible refine Kd.C_alloc ?_ _) | (with_reducible refine Kd.C_drewN ?_ _) | (with_reducible refine Kd.C_drew ?_)))
       (case side2 => exact HC508_3.out)
       (case side3 => repeat (first | exact (Kd.C_below HR508_4.out HB.out) | (with_reducible refine Kd.C_alloc ?_ _) | (with_reducible refine Kd.C_drewN ?_ _) | (with_reducible refine Kd.C_drew ?_)))
       (case side4 => exact HC508_4.out)
       rintro e w26 ⟨v513, v516, rfl, ho0, ho1, hb⟩
       refine ⟨_, rfl, ?_⟩
       have n0_ := aM (Kd.R_elder' (by (with_reducible repeat (first | apply Kd.R_alloc | apply Kd.R_drewN | apply Kd.R_drew)); exact HO_508003.out) (Kd.R_base ho0) hb)
       have n1_ := aM (Kd.R_mono (Kd.R_told (Kd.R_told (Kd.R_old (by (with_reducible repeat (first | apply Kd.R_alloc | apply Kd.R_drewN | apply Kd.R_drew)); exact HO_508004.out) hb) (Kd.R_base ho0)) (Kd.R_base ho1)) (fun _ h_ => h_.1))
       have n2_ := aM (Kd.R_lower (Kd.R_new' ho0 (Kd.R_lt (by (with_reducible repeat (first | apply Kd.R_alloc | apply Kd.R_drewN | apply Kd.R_drew)); exact HO_508003.out))) (below_size (by repeat (first | (with_reducible first | exact HB.out | apply below_alloc | apply pw_below_drewN | apply below_drew1 | refine below_set ?_ GE499.out | refine below_set ?_ GE500.out | refine below_set ?_ GE507.out) | exact HB.out))))
       have n3_ := aM (Kd.R_lower (Kd.R_newB (Kd.R_newB (Kd.R_new' (Kd.R_new' ho1 (Kd.R_lt (by (with_reducible repeat (first | apply Kd.R_alloc | apply Kd.R_drewN | apply Kd.R_drew)); exact HO_508003.out))) (Kd.R_lt (by (with_reducible repeat (first | apply Kd.R_alloc | apply Kd.R_drewN | apply Kd.R_drew)); exact HO_508004.out))) (g := gb500) (o := .cells #[.int .i64 0, .int .i64 0, .string (⟨#[]⟩ : ByteArray), .slice none 0 0, .slice none 0 0] 45 (0, 0)) (by (with_reducible repeat (first | refine blk_drewN ?_ _ | refine blk_drew ?_ | refine blk_alloc ?_ _)); exact BK500.out)) (g := gb507) (o := .cells #[.int .i64 a0_0, .int .i64 a0_1, .string a0_2, .slice Ao12 y504.length co12, u508004] 45 (0, 0)) (by (with_reducible repeat (first | refine blk_drewN ?_ _ | refine blk_drew ?_ | refine blk_alloc ?_ _)); exact BK507.out)) (below_size (by repeat (first | (with_reducible first | exact HB.out | apply below_alloc | apply pw_below_drewN | apply below_drew1 | refine below_set ?_ GE499.out | refine below_set ?_ GE500.out | refine below_set ?_ GE507.out) | exact HB.out))))
       have n4_ := aM (blk_below (g := gb499) (o := .cells #[.int .i64 a0_0, .int .i64 a0_1, .string a0_2, .slice A0_3 l0_3.length c0_3, .slice (some ad508) l0_4.length c0_4] 25 (0, 0)) (by (with_reducible repeat (first | refine blk_drewN ?_ _ | refine blk_drew ?_ | refine blk_alloc ?_ _)); exact BK499.out) hb)
       have n5_ := aM (blk_below (g := gb500) (o := .cells #[.int .i64 0, .int .i64 0, .string (⟨#[]⟩ : ByteArray), .slice none 0 0, .slice none 0 0] 45 (0, 0)) (by (with_reducible repeat (first | refine blk_drewN ?_ _ | refine blk_drew ?_ | refine blk_alloc ?_ _)); exact BK500.out) hb)
       have n6_ := aM (blk_below (g := gb507) (o := .cells #[.int .i64 a0_0, .int .i64 a0_1, .string a0_2, .slice Ao12 y504.length co12, u508004] 45 (0, 0)) (by (with_reducible repeat (first | refine blk_drewN ?_ _ | refine blk_drew ?_ | refine blk_alloc ?_ _)); exact BK507.out) hb)
       have n7_ := aM (below_step (by repeat (first | (with_reducible first | exact HB.out | apply below_alloc | apply pw_below_drewN | apply below_drew1 | refine below_set ?_ GE499.out | refine below_set ?_ GE500.out | refine below_set ?_ GE507.out) | exact HB.out)) hb)
       clear HO_508003 HO_508004 BK499 BK500 BK507 HB; have HO_508003 := n0_; have HO_508004 := n1_; have HO514 := n2_; have HO517 := n3_; have BK499 := n4_; have BK500 := n5_; have BK507 := n6_; have HB := n7_; clear n0_ n1_ n2_ n3_ n4_ n5_ n6_ n7_
       (try clear hb)
       (try clear hb2)
       (try clear hk)
       (try clear hi)
       (try clear ho0)
       (try clear ho1)
       obtain ⟨Ao28, co28, eo28⟩ := Kd.R_slice HO514.out
       (first | subst eo28 | (injection eo28 with f1_ f2_ f3_; have f4_ := f1_.symm; have f5_ := f3_.symm; clear f1_ f2_ f3_; subst f4_; subst f5_))
       obtain ⟨Ao29, co29, eo29⟩ := Kd.R_slice HO517.out
       (first | subst eo29 | (injection eo29 with f1_ f2_ f3_; have f4_ := f1_.symm; have f5_ := f3_.symm; clear f1_ f2_ f3_; subst f4_; subst f5_))
       refine hK.out _ _ ⟨(blk_cell BK507.out 0).trans rfl, (blk_cell BK507.out 1).trans rfl, (blk_cell BK507.out 2).trans rfl, (blk_cell BK507.out 3).trans rfl, (blk_cell BK507.out 4).trans rfl, (blk_cell BK499.out 0).trans rfl, (blk_cell BK499.out 1).trans rfl, (blk_cell BK499.out 2).trans rfl, (blk_cell BK499.out 3).trans rfl, (blk_cell BK499.out 4).trans rfl, ((HB.out.cell (World.block_lt_of_cell? w _ hw508_0)).trans hw508_0), ((HB.out.cell (World.block_lt_of_cell? w _ hw508_1)).trans hw508_1), ((HB.out.cell (World.block_lt_of_cell? w _ hw508_2)).trans hw508_2), ((HB.out.cell (World.block_lt_of_cell? w _ hw508_3)).trans hw508_3), ((HB.out.cell (World.block_lt_of_cell? w _ hw508_4)).trans hw508_4)⟩ (fun hHeld => ?_)
       clear hK K
       refine norm_ (a' := ?_) ?_ ?_
       rotate_left
       ·show Act.put _ (some 30) _ = _
        simp only [Act.put, sA, sB, sC, i64_w, i32_w]; rfl
       refine one_ (i := 8) (N := some 31) #[true, true, true, true, true, true, true, true, true, false, false, false] rfl rfl (one_of HT_.out (by kernel_rfl)) (by decide) (fun K hK => ?_)
       refine value_ (w1 := ?_) (v := ?_) (by rfl) rfl ?_ ?_
       rotate_left 2
       ·go_simp; constructor
        ·rfl
        ·rfl
       refine hK.out _ _ ⟨(blk_cell (blk_alloc BK507.out _) 0).trans rfl, (blk_cell (blk_alloc BK507.out _) 1).trans rfl, (blk_cell (blk_alloc BK507.out _) 2).trans rfl, (blk_cell (blk_alloc BK507.out _) 3).trans rfl, (blk_cell (blk_alloc BK507.out _) 4).trans rfl, (blk_cell (blk_alloc BK499.out _) 0).trans rfl, (blk_cell (blk_alloc BK499.out _) 1).trans rfl, (blk_cell (blk_alloc BK499.out _) 2).trans rfl, (blk_cell (blk_alloc BK499.out _) 3).trans rfl, (blk_cell (blk_alloc BK499.out _) 4).trans rfl, (World.cell?_alloc_lt _ _ _ (World.block_lt_of_cell? _ _ (((HB.out.cell (World.block_lt_of_cell? w _ hw508_0)).trans hw508_0)))).trans (((HB.out.cell (World.block_lt_of_cell? w _ hw508_0)).trans hw508_0)), (World.cell?_alloc_lt _ _ _ (World.block_lt_of_cell? _ _ (((HB.out.cell (World.block_lt_of_cell? w _ hw508_1)).trans hw508_1)))).trans (((HB.out.cell (World.block_lt_of_cell? w _ hw508_1)).trans hw508_1)), (World.cell?_alloc_lt _ _ _ (World.block_lt_of_cell? _ _ (((HB.out.cell (World.block_lt_of_cell? w _ hw508_2)).trans hw508_2)))).trans (((HB.out.cell (World.block_lt_of_cell? w _ hw508_2)).trans hw508_2)), (World.cell?_alloc_lt _ _ _ (World.block_lt_of_cell? _ _ (((HB.out.cell (World.block_lt_of_cell? w _ hw508_3)).trans hw508_3)))).trans (((HB.out.cell (World.block_lt_of_cell? w _ hw508_3)).trans hw508_3)), (World.cell?_alloc_lt _ _ _ (World.block_lt_of_cell? _ _ (((HB.out.cell (World.block_lt_of_cell? w _ hw508_4)).trans hw508_4)))).trans (((HB.out.cell (World.block_lt_of_cell? w _ hw508_4)).trans hw508_4))⟩ (fun hHeld => ?_)
       clear hK K
       refine norm_ (a' := ?_) ?_ ?_
       rotate_left
       ·show Act.put _ (some 31) _ = _
        simp only [Act.put, sA, sB, sC, i64_w, i32_w]; rfl
       refine one_ (i := 9) (N := some 32) #[true, true, true, true, true, true, true, true, true, true, false, false] rfl rfl (one_of HT_.out (by kernel_rfl)) (by decide) (fun K hK => ?_)
       refine Kd.R_append_step k45 (w0 := w) w.heap.size (by rfl) (.tmp 24) (.tmp 31) 43 45 (.agg #[(.int .i64 0), (.int .i64 0), (.string ⟨#[]⟩), (.slice none 0 0), (.slice none 0 0)]) 80 rfl Tryz.underlying43 info45 rfl (by decide) (by omega) u508004 x508004_1 (⟨t509, t510, t511, t512, t515⟩ : S45) [.int .i64 t509, .int .i64 t510, .string t511, .slice Ao28 t512.length co28, .slice Ao29 t515.length co29] (fun k_ => some k_ ≠ (.slice Ao12 y504.length co12 : Value).ownBlock ∧ k_ ≠ gb500 ∧ k_ ≠ gb507) (fun k_ => ((fun k_ => some k_ ≠ (.slice Ao12 y504.length co12 : Value).ownBlock ∧ k_ ≠ gb500 ∧ k_ ≠ gb507)) k_ ∧ some k_ ≠ (u508004 : Value).ownBlock) rfl rfl ?aP (fun _ hk => hk) ?aF ?aO ?aB ?aS ?aL ?_
       (case aP => exact k45_mkM _ _ _ (⟨t509, t510, t511, t512, t515⟩ : S45) (Kd.R_mono (Kd.R_types (Kd.R_types (Kd.R_apart' (HO514.out) (Kd.R_typed HO_508004.out) (by decide)) BK500.out (by decide)) BK507.out (by decide)) (fun k_ hk => ⟨⟨hk.1.1.1.2, ⟨hk.1.2, hk.2⟩⟩, hk.1.1.2⟩)) (Kd.R_mono (HO517.out) (fun k_ hk => ⟨⟨hk.1.1.1.2, ⟨hk.1.2, hk.2⟩⟩, hk.1.1.2⟩)))
       (case aB => exact (by repeat (first | (with_reducible first | exact HB.out | apply below_alloc | apply pw_below_drewN | apply below_drew1 | refine below_set ?_ GE499.out | refine below_set ?_ GE500.out | refine below_set ?_ GE507.out) | exact HB.out)))
       (case aF => exact (fun k_ hk => ⟨Kd.fresh' (Kd.R_lt (by (with_reducible repeat (first | apply Kd.R_alloc | apply Kd.R_drewN | apply Kd.R_drew)); exact HO_508003.out)) k_ hk, Kd.freshB (g := gb500) (o := .cells #[.int .i64 0, .int .i64 0, .string (⟨#[]⟩ : ByteArray), .slice none 0 0, .slice none 0 0] 45 (0, 0)) (by (with_reducible repeat (first | refine blk_drewN ?_ _ | refine blk_drew ?_ | refine blk_alloc ?_ _)); exact BK500.out) k_ hk, Kd.freshB (g := gb507) (o := .cells #[.int .i64 a0_0, .int .i64 a0_1, .string a0_2, .slice Ao12 y504.length co12, u508004] 45 (0, 0)) (by (with_reducible repeat (first | refine blk_drewN ?_ _ | refine blk_drew ?_ | refine blk_alloc ?_ _)); exact BK507.out) k_ hk⟩))
       (case aO => exact (by (with_reducible repeat (first | apply Kd.R_alloc | apply Kd.R_drewN | apply Kd.R_drew)); exact Kd.R_mono HO_508004.out (fun _ hk => ⟨hk.1.1.1, ⟨hk.1.1.2.1, hk.1.1.2.2⟩⟩)))
       (case aS => exact (below_size (by repeat (first | (with_reducible first | exact HB.out | apply below_alloc | apply pw_below_drewN | apply below_drew1 | refine below_set ?_ GE499.out | refine below_set ?_ GE500.out | refine below_set ?_ GE507.out) | exact HB.out))))
       (case aL => have := LMc21.out; omega)
       intro v519 w27 ho hb hg hat
       rw [← Ny518.out] at ho
       have n0_ := aM (Kd.R_over' (by (with_reducible repeat (first | apply Kd.R_alloc | apply Kd.R_drewN | apply Kd.R_drew)); exact HO_508003.out) (Kd.R_typed (by (with_reducible repeat (first | apply Kd.R_alloc | apply Kd.R_drewN | apply Kd.R_drew)); exact HO_508004.out)) (by decide) hg)
       have n1_ := aM (blk_grown (g := gb499) (o := .cells #[.int .i64 a0_0, .int .i64 a0_1, .string a0_2, .slice A0_3 l0_3.length c0_3, .slice (some ad508) l0_4.length c0_4] 25 (0, 0)) (by (with_reducible repeat (first | refine blk_drewN ?_ _ | refine blk_drew ?_ | refine blk_alloc ?_ _)); exact BK499.out) hg (Kd.R_ne HO_508004.out BK499.out (by decide)))
       have n2_ := aM (blk_grown (g := gb500) (o := .cells #[.int .i64 0, .int .i64 0, .string (⟨#[]⟩ : ByteArray), .slice none 0 0, .slice none 0 0] 45 (0, 0)) (by (with_reducible repeat (first | refine blk_drewN ?_ _ | refine blk_drew ?_ | refine blk_alloc ?_ _)); exact BK500.out) hg (Kd.R_away HO_508004.out (fun _ hk => hk.1.1.2.1)))
       have n3_ := aM (blk_grown (g := gb507) (o := .cells #[.int .i64 a0_0, .int .i64 a0_1, .string a0_2, .slice Ao12 y504.length co12, u508004] 45 (0, 0)) (by (with_reducible repeat (first | refine blk_drewN ?_ _ | refine blk_drew ?_ | refine blk_alloc ?_ _)); exact BK507.out) hg (Kd.R_away HO_508004.out (fun _ hk => hk.1.1.2.2)))
       have n4_ := aM (hb)
       have n5_ := aM (ho)
       clear HO_508003 BK499 BK500 BK507 HB HO_508004 HO514 HO517; have HO_508003 := n0_; have BK499 := n1_; have BK500 := n2_; have BK507 := n3_; have HB := n4_; have HO520 := n5_; clear n0_ n1_ n2_ n3_ n4_ n5_ ho hb hg hat
       obtain ⟨Ao30, co30, eo30⟩ := Kd.R_slice HO520.out
       (first | subst eo30 | (injection eo30 with f1_ f2_ f3_; have f4_ := f1_.symm; have f5_ := f3_.symm; clear f1_ f2_ f3_; subst f4_; subst f5_))
       refine hK.out _ _ ⟨(blk_cell BK507.out 0).trans rfl, (blk_cell BK507.out 1).trans rfl, (blk_cell BK507.out 2).trans rfl, (blk_cell BK507.out 3).trans rfl, (blk_cell BK507.out 4).trans rfl, (blk_cell BK499.out 0).trans rfl, (blk_cell BK499.out 1).trans rfl, (blk_cell BK499.out 2).trans rfl, (blk_cell BK499.out 3).trans rfl, (blk_cell BK499.out 4).trans rfl, ((HB.out.cell (World.block_lt_of_cell? w _ hw508_0)).trans hw508_0), ((HB.out.cell (World.block_lt_of_cell? w _ hw508_1)).trans hw508_1), ((HB.out.cell (World.block_lt_of_cell? w _ hw508_2)).trans hw508_2), ((HB.out.cell (World.block_lt_of_cell? w _ hw508_3)).trans hw508_3), ((HB.out.cell (World.block_lt_of_cell? w _ hw508_4)).trans hw508_4)⟩ (fun hHeld => ?_)
       clear hK K
       refine norm_ (a' := ?_) ?_ ?_
       rotate_left
       ·show Act.put _ (some 32) _ = _
        simp only [Act.put, sA, sB, sC, i64_w, i32_w]; rfl
       refine pure_ (i := 10) (N := some 33) (v := ?_) (a' := ?_) #[true, true, true, true, true, true, true, true, true, true, true, false] rfl rfl (any_of HT_.out (by kernel_rfl)) (fun _ _ _ h => h) (Or.inl ⟨by rfl, ?_⟩) ?_ ?_
       rotate_left
       ·intro w'; go_simp; with_reducible rfl
       rotate_left
       ·simp only [Act.put, sA, sB, sC, i64_w, i32_w]; rfl
       refine last_ (i := 11) (N := none) #[true, true, true, true, true, true, true, true, true, true, true, true] rfl rfl (one_of HT_.out (by kernel_rfl)) (by decide) (fun K hK => ?_)
       have hs31 : w27.cell? ⟨gb507, 4, none⟩ = some (u508004) := (blk_cell BK507.out 4).trans rfl
       have hfs31 := blk_frozen BK507.out 4
       have hns31_0 := NB499_507.out
       have hns31_1 := NB500_507.out
       have hms31_0 := NB507_499.out
       have hms31_1 := NB507_500.out
       refine skip_ (w1 := ?_) (by rfl) rfl ?_ ?_
       rotate_left
       ·go_simp; rfl
       refine hK.out _ _ ?_
       clear hK K
       refine done_ (done_of HT_.out (by kernel_rfl)) ?_
       try go_wp2
       go_roundg k1
       case measure => have := HK1.out; omega
       case rel => exact ⟨(wrap64 (x4_1 + 1)), (y518), (.slice Ao30 y518.length co30), (by first | rfl | (simp; done) | (simp [*]; done)), H', ⟨by have := HK1.out; omega⟩, ⟨by (with_reducible repeat (first | apply Kd.R_alloc | apply Kd.R_drewN | apply Kd.R_drew)); exact Kd.R_mono (Kd.R_far (p := ⟨gb507, 4, none⟩) (Kd.R_types HO_508003.out BK507.out (by decide)) (fun _ hk => hk.2) (.slice Ao30 y518.length co30)) (fun _ hk => trivial)⟩, ⟨by (with_reducible repeat (first | apply Kd.R_alloc | apply Kd.R_drewN | apply Kd.R_drew)); exact Kd.R_mono (Kd.R_far (p := ⟨gb507, 4, none⟩) (Kd.R_mono HO520.out (fun k_ hk => (⟨hk, hk.2.2⟩ : _ ∧ k_ ≠ gb507))) (fun _ hk => hk.2) (.slice Ao30 y518.length co30)) (fun _ hk => ⟨hk.1.1, ⟨hk.1.2.1, hk.1.2.2⟩⟩)⟩, ⟨by (with_reducible repeat (first | refine blk_drewN ?_ _ | refine blk_drew ?_ | refine blk_alloc ?_ _)); refine blk_far ?_ NB499_507.out _; (with_reducible repeat (first | refine blk_drewN ?_ _ | refine blk_drew ?_ | refine blk_alloc ?_ _)); exact BK499.out⟩, ⟨by (with_reducible repeat (first | refine blk_drewN ?_ _ | refine blk_drew ?_ | refine blk_alloc ?_ _)); refine blk_far ?_ NB500_507.out _; (with_reducible repeat (first | refine blk_drewN ?_ _ | refine blk_drew ?_ | refine blk_alloc ?_ _)); exact BK500.out⟩, ⟨by (with_reducible repeat (first | refine blk_drewN ?_ _ | refine blk_drew ?_ | refine blk_alloc ?_ _)); refine blk_put (cs := #[.int .i64 a0_0, .int .i64 a0_1, .string a0_2, .slice Ao12 y504.length co12, u508004]) ?_ 4 _ rfl; (with_reducible repeat (first | refine blk_drewN ?_ _ | refine blk_drew ?_ | refine blk_alloc ?_ _)); exact BK507.out⟩, ⟨by repeat (first | (with_reducible first | exact HB.out | apply below_alloc | apply pw_below_drewN | apply below_drew1 | refine below_set ?_ GE499.out | refine below_set ?_ GE500.out | refine below_set ?_ GE507.out) | exact HB.out)⟩⟩
      ·rw [if_neg c21] at H
       exact absurd H (by simp)
     ·rw [if_neg c19] at H
      exact absurd H (by simp)
    ·rw [if_neg c18] at H
     have c18b0 : decide (x4_1 < (l0_4.length : Int)) = false := decide_eq_false c18
     clear c18
     simp only [Option.some.injEq, Prod.mk.injEq] at H
     obtain ⟨rfl, rfl, rfl, rfl, rfl⟩ := H
     have hnb32 := NB499_500.out
     have hnc32 := NB500_499.out
     have hnb33 := NB499_507.out
     have hnc33 := NB507_499.out
     have hcz34_0 : wr.cell? ⟨gb499, 0, none⟩ = some (.int .i64 a0_0) := (blk_cell BK499.out 0).trans rfl
     have hcz34_1 : wr.cell? ⟨gb499, 1, none⟩ = some (.int .i64 a0_1) := (blk_cell BK499.out 1).trans rfl
     have hcz34_2 : wr.cell? ⟨gb499, 2, none⟩ = some (.string a0_2) := (blk_cell BK499.out 2).trans rfl
     have hcz34_3 : wr.cell? ⟨gb499, 3, none⟩ = some (.slice A0_3 l0_3.length c0_3) := (blk_cell BK499.out 3).trans rfl
     have hcz34_4 : wr.cell? ⟨gb499, 4, none⟩ = some (.slice A0_4 l0_4.length c0_4) := (blk_cell BK499.out 4).trans rfl
     have hfz34_0 := blk_frozen BK499.out 0
     have hfz34_1 := blk_frozen BK499.out 1
     have hfz34_2 := blk_frozen BK499.out 2
     have hfz34_3 := blk_frozen BK499.out 3
     have hfz34_4 := blk_frozen BK499.out 4
     have hnb35 := NB507_500.out
     have hnc35 := NB500_507.out
     have hcz36_0 : wr.cell? ⟨gb507, 0, none⟩ = some (.int .i64 a0_0) := (blk_cell BK507.out 0).trans rfl
     have hcz36_1 : wr.cell? ⟨gb507, 1, none⟩ = some (.int .i64 a0_1) := (blk_cell BK507.out 1).trans rfl
     have hcz36_2 : wr.cell? ⟨gb507, 2, none⟩ = some (.string a0_2) := (blk_cell BK507.out 2).trans rfl
     have hcz36_3 : wr.cell? ⟨gb507, 3, none⟩ = some (.slice Ao12 y504.length co12) := (blk_cell BK507.out 3).trans rfl
     have hcz36_4 : wr.cell? ⟨gb507, 4, none⟩ = some (u508004) := (blk_cell BK507.out 4).trans rfl
     have hfz36_0 := blk_frozen BK507.out 0
     have hfz36_1 := blk_frozen BK507.out 1
     have hfz36_2 := blk_frozen BK507.out 2
     have hfz36_3 := blk_frozen BK507.out 3
     have hfz36_4 := blk_frozen BK507.out 4
     have hcz37_0 : wr.cell? ⟨gb500, 0, none⟩ = some (.int .i64 0) := (blk_cell BK500.out 0).trans rfl
     have hcz37_1 : wr.cell? ⟨gb500, 1, none⟩ = some (.int .i64 0) := (blk_cell BK500.out 1).trans rfl
     have hcz37_2 : wr.cell? ⟨gb500, 2, none⟩ = some (.string (⟨#[]⟩ : ByteArray)) := (blk_cell BK500.out 2).trans rfl
     have hcz37_3 : wr.cell? ⟨gb500, 3, none⟩ = some (.slice none 0 0) := (blk_cell BK500.out 3).trans rfl
     have hcz37_4 : wr.cell? ⟨gb500, 4, none⟩ = some (.slice none 0 0) := (blk_cell BK500.out 4).trans rfl
     have hfz37_0 := blk_frozen BK500.out 0
     have hfz37_1 := blk_frozen BK500.out 1
     have hfz37_2 := blk_frozen BK500.out 2
     have hfz37_3 := blk_frozen BK500.out 3
     have hfz37_4 := blk_frozen BK500.out 4
     obtain ⟨Ao38, co38, eo38⟩ := Kd.R_slice HO_508004.out
     subst eo38
     go_wp2
     refine bodyPost_ret (results_cell_row rfl _ _ gb500 45 #[.int .i64 a0_0, .int .i64 a0_1, .string a0_2, .slice Ao12 y504.length co12, .slice Ao38 x508004_1.length co38] (0, 0) _ rfl (by (with_reducible repeat (first | refine blk_drewN ?_ _ | refine blk_drew ?_ | refine blk_alloc ?_ _)); refine blk_put (cs := #[.int .i64 a0_0, .int .i64 a0_1, .string a0_2, .slice Ao12 y504.length co12, .slice none 0 0]) ?_ 4 _ rfl; (with_reducible repeat (first | refine blk_drewN ?_ _ | refine blk_drew ?_ | refine blk_alloc ?_ _)); refine blk_put (cs := #[.int .i64 a0_0, .int .i64 a0_1, .string a0_2, .slice none 0 0, .slice none 0 0]) ?_ 3 _ rfl; (with_reducible repeat (first | refine blk_drewN ?_ _ | refine blk_drew ?_ | refine blk_alloc ?_ _)); refine blk_put (cs := #[.int .i64 a0_0, .int .i64 a0_1, .string (⟨#[]⟩ : ByteArray), .slice none 0 0, .slice none 0 0]) ?_ 2 _ rfl; (with_reducible repeat (first | refine blk_drewN ?_ _ | refine blk_drew ?_ | refine blk_alloc ?_ _)); refine blk_put (cs := #[.int .i64 a0_0, .int .i64 0, .string (⟨#[]⟩ : ByteArray), .slice none 0 0, .slice none 0 0]) ?_ 1 _ rfl; (with_reducible repeat (first | refine blk_drewN ?_ _ | refine blk_drew ?_ | refine blk_alloc ?_ _)); refine blk_put (cs := #[.int .i64 0, .int .i64 0, .string (⟨#[]⟩ : ByteArray), .slice none 0 0, .slice none 0 0]) ?_ 0 _ rfl; (with_reducible repeat (first | refine blk_drewN ?_ _ | refine blk_drew ?_ | refine blk_alloc ?_ _)); exact BK500.out) Tryz.underlying45 rfl (by kernel_rfl)) rfl ?_
     exact ⟨_, _, by first | rfl | (simp [errW_none, errW_some] <;> rfl) | (simp [*, errW_none, errW_some] <;> rfl), by (with_reducible repeat (first | apply Kd.R_alloc | apply Kd.R_drewN | apply Kd.R_drew)); exact Kd.R_mono (Kd.R_far (p := ⟨gb500, 4, none⟩) (Kd.R_far (p := ⟨gb500, 3, none⟩) (Kd.R_far (p := ⟨gb500, 2, none⟩) (Kd.R_far (p := ⟨gb500, 1, none⟩) (Kd.R_far (p := ⟨gb500, 0, none⟩) (Kd.R_types HO_508003.out BK500.out (by decide)) (fun _ hk => hk.2) (.int .i64 a0_0)) (fun _ hk => hk.2) (.int .i64 a0_1)) (fun _ hk => hk.2) (.string a0_2)) (fun _ hk => hk.2) (.slice Ao12 y504.length co12)) (fun _ hk => hk.2) (.slice Ao38 x508004_1.length co38)) (fun _ hk => trivial), by (with_reducible repeat (first | apply Kd.R_alloc | apply Kd.R_drewN | apply Kd.R_drew)); exact Kd.R_mono (Kd.R_far (p := ⟨gb500, 4, none⟩) (Kd.R_far (p := ⟨gb500, 3, none⟩) (Kd.R_far (p := ⟨gb500, 2, none⟩) (Kd.R_far (p := ⟨gb500, 1, none⟩) (Kd.R_far (p := ⟨gb500, 0, none⟩) (Kd.R_mono HO_508004.out (fun k_ hk => (⟨hk, hk.2.1⟩ : _ ∧ k_ ≠ gb500))) (fun _ hk => hk.2) (.int .i64 a0_0)) (fun _ hk => hk.2) (.int .i64 a0_1)) (fun _ hk => hk.2) (.string a0_2)) (fun _ hk => hk.2) (.slice Ao12 y504.length co12)) (fun _ hk => hk.2) (.slice Ao38 x508004_1.length co38)) (fun _ hk => hk.1.1), by repeat (first | (with_reducible first | exact HB.out | apply below_alloc | apply pw_below_drewN | apply below_drew1 | refine below_set ?_ GE499.out | refine below_set ?_ GE500.out | refine below_set ?_ GE507.out) | exact HB.out)⟩
 ·rw [if_neg c2] at H
  exact absurd H (by simp)
end Go.Proofs.YtaembebbaejfiaaGreatDoor.PS
namespace Go.Proofs.YtaembebbaejfiaaGreatDoor.MapV
open Go.RowKit Go.Proofs.YtaembebbaejfiaaGreatDoorW.PrintWords Go.Proofs.YtaembebbaejfiaaGreatDoorW.PrintLast Go.Proofs.YtaembebbaejfiaaGreatDoor.Str
set_option linter.unusedVariables false
set_option linter.unusedSimpArgs false
section
variable {P : Program} {k e t : TypeId} {α : Type} {enc : α → Value} {w : World} {b : Nat} {f : List (Bs × α)}
variable {ops : Array Oper} {o : Oper} {a : Act} {Q : Exit → Act → World → Prop} {Kc : Act → World → Prop}
theorem store_mapE_step (hk : P.underlying k = some .string) (ht : P.underlying t = some (.map k e)) (hw : Region.wanted o (yielded ops a.tmps) = true) (hN : o.dst = none) (m x v : Operand) (hop : o.op = Op.mapUpdate t m x v)
  (hm : a.eval m = .map (some b)) (h : MapE P k enc w b f) (hn : f.length < maxLen) {s : ByteArray} {y : α} (hx : a.eval x = .string s) (hs : s.size ≤ maxLen) (hv : a.eval v = enc y)
  (hK : ∀ w', MapE P k enc w' b (mput f (lb s) y) → w.grownBy w' (some b) → Kc a w') : if Region.wanted o (yielded ops a.tmps) = true then Oper.wp P o a w Kc Q else Kc (a.put none undef) w := by
 obtain ⟨w', hrun, r1, r2⟩ := World.ownsMap.update h (Go.Maps.string_keyed hk) ht hn (keyOf_s hk hs) (val := enc y) (d := .held (enc y)) (ps := []) rfl
 refine skip_ (w1 := w') hw hN ?_ (hK w' (MapE.of (by rw [ent_put] at r1; exact r1)) r2)
 simp [execOp, hop, hm, hx, hv, hrun, Result.andThen]
end
theorem run_makeHint {P : Program} {t k e : TypeId} (hu : P.underlying t = some (.map k e)) (i : IntKind) (n : Int) (w : World) : (Instr.makeMap t (some (.int i n))).run P w = .ok (.map (some w.heap.size)) (w.alloc (.map #[] 0)) := by
 simp [Instr.makeMap, run_underlying hu, asInt, asIntOf, Result.andThen]
end Go.Proofs.YtaembebbaejfiaaGreatDoor.MapV
namespace Go.Proofs.YtaembebbaejfiaaGreatDoor.MapV
open Go.RowKit Go.Proofs.YtaembebbaejfiaaGreatDoorW.PrintWords Go.Proofs.YtaembebbaejfiaaGreatDoor.Str
set_option linter.unusedVariables false
set_option linter.unusedSimpArgs false
section
variable {α : Type} {key : Bs} {v : α}
theorem lt_asymm {a b : Bs} (h : a < b) : ¬ b < a := fun k => lt_irrefl a (lt_trans h k)
theorem mdel_id {f : List (Bs × α)} (h : ∀ p ∈ f, p.1 ≠ key) : mdel f key = f := List.filter_eq_self.2 (fun p hp => by simpa using h p hp)
theorem mput_lt {y : Bs × α} {r : List (Bs × α)} (h : y.1 < key) : mput (y :: r) key v = y :: mput r key v := by
 have hy : (y.1 == key) = false := by simpa using lt_ne h
 unfold mput
 have : mdel (y :: r) key = y :: mdel r key := by
  unfold mdel
  rw [List.filter_cons, hy]
  rfl
 rw [this, mins, if_neg (lt_asymm h)]
theorem mput_eq {y : Bs × α} {r : List (Bs × α)} (h : y.1 = key) (hr : ∀ p ∈ r, key < p.1) : mput (y :: r) key v = (key, v) :: r := by
 have hy : (y.1 == key) = true := by simpa using h
 unfold mput
 have : mdel (y :: r) key = r := by
  unfold mdel
  rw [List.filter_cons, hy]
  exact mdel_id (fun p hp => (lt_ne (hr p hp)).symm)
 rw [this]
 cases r with
 | nil => rfl
 | cons z t => rw [mins, if_pos (hr z (by simp))]
theorem mput_gt {f : List (Bs × α)} (hr : ∀ p ∈ f, key < p.1) : mput f key v = (key, v) :: f := by
 unfold mput
 rw [mdel_id (fun p hp => (lt_ne (hr p hp)).symm)]
 cases f with
 | nil => rfl
 | cons z t => rw [mins, if_pos (hr z (by simp))]
theorem mput_ins : ∀ (k : Nat) {f : List (Bs × α)}, Rises f → (∀ (j : Nat) (h : j < f.length), j < k → f[j].1 < key) → k ≤ f.length → (∀ (h : k < f.length), key < f[k].1) → mput f key v = f.take k ++ (key, v) :: f.drop k
 | 0, f, hf, _, _, hg => by
  rw [mput_gt]
  ·rfl
  ·cases f with
   | nil => simp
   | cons y r =>
    have hy : key < y.1 := hg (by simp)
    obtain ⟨h1, _⟩ := List.pairwise_cons.1 hf
    intro p hp
    rcases List.mem_cons.1 hp with rfl | hp
    ·exact hy
    ·exact lt_trans hy (h1 p hp)
 | k + 1, [], _, _, h, _ => by simp at h
 | k + 1, y :: r, hf, hl, h, hg => by
  obtain ⟨_, h2⟩ := List.pairwise_cons.1 hf
  have hy : y.1 < key := hl 0 (by simp) (by omega)
  rw [mput_lt hy, mput_ins k h2 (fun j hj hk => by have := hl (j + 1) (by simp; omega) (by omega); simpa using this) (by simpa using h) (fun hk => by have := hg (by simpa using hk); simpa using this)]
  rfl
def fitM (l : List (Bs × α)) : List (Bs × α) := l.foldl (fun f p => mput f p.1 p.2) []
theorem fitM_snoc (l : List (Bs × α)) (p : Bs × α) : fitM (l ++ [p]) = mput (fitM l) p.1 p.2 := by simp [fitM]
theorem fold_rises (l : List (Bs × α)) : ∀ {f : List (Bs × α)}, Rises f → Rises (l.foldl (fun f p => mput f p.1 p.2) f) := by
 induction l with
 | nil => intro f h; exact h
 | cons p r ih => intro f h; exact ih (mput_rises h _ _)
theorem fitM_rises (l : List (Bs × α)) : Rises (fitM l) := fold_rises l List.Pairwise.nil
theorem fold_length (l : List (Bs × α)) : ∀ (f : List (Bs × α)), (l.foldl (fun f p => mput f p.1 p.2) f).length ≤ f.length + l.length := by
 induction l with
 | nil => intro f; simp
 | cons p r ih =>
  intro f
  have h1 := ih (mput f p.1 p.2)
  have h2 := mput_length f p.1 p.2
  simp only [List.foldl_cons, List.length_cons]
  omega
theorem fitM_length (l : List (Bs × α)) : (fitM l).length ≤ l.length := by
 have := fold_length l []
 simpa [fitM] using this
end
end Go.Proofs.YtaembebbaejfiaaGreatDoor.MapV
namespace Go.Proofs.YtaembebbaejfiaaGreatDoor.Tr
open Go.RowKit Go.Proofs.YtaembebbaejfiaaGreatDoorW.PrintWords Go.Proofs.YtaembebbaejfiaaGreatDoorW.PrintLast Go.Proofs.YtaembebbaejfiaaGreatDoor.Str Go.Proofs.YtaembebbaejfiaaGreatDoor.Kit Go.Proofs.YtaembebbaejfiaaGreatDoor.MapV Go.Proofs.YtaembebbaejfiaaGreatDoor.Frame Go.Proofs.YtaembebbaejfiaaGreatDoor.PS
set_option linter.unusedVariables false
set_option linter.unusedSimpArgs false
inductive Y where
 | null : Y
 | bool (b : Bool) : Y
 | int (n : Int) : Y
 | text (s : BA) : Y
 | list (l : List Y) : Y
 | map (m : List (Bs × Y)) : Y
def PA (x : Value) (cs : List Value) : Prop := cs = [x] ∧ x.oneCell' = true
theorem PA5 {x : Value} {cs : List Value} (h : PA x cs) : cs.length = 1 := by rw [h.1]; rfl
theorem PA1 {x : Value} {cs : List Value} (h : PA x cs) : ∀ u ∈ cs, u.oneCell' = true := by
 intro u hu
 rw [h.1] at hu
 simp at hu
 rw [hu]
 exact h.2
abbrev kAny : Kd Value := held 1 PA PA5 PA1
theorem kAny_put {e : Nat} {W : World} {base : Nat} {ok : Nat → Prop} {g n cap : Nat} {xs : List Value} (h : kAny.R e W base ok (.slice (some ⟨g, 0, none⟩) n cap) xs) (i : Nat) (hi : i < n) (x : Value) (hx : x.oneCell' = true) :
  (W.cell? ⟨g, i, none⟩).isSome = true ∧ W.frozen? ⟨g, i, none⟩ = false ∧ kAny.R e (W.setCell ⟨g, i, none⟩ x) base ok (.slice (some ⟨g, 0, none⟩) n cap) (xs.set i x) := by
 have h1 := held_put (h5 := PA5) (h1 := PA1) h i hi x (cs := [x]) ⟨rfl, hx⟩
 have e : W.setCells g (i * 1) [x] = W.setCell ⟨g, i, none⟩ x := by simp [World.setCells]
 rw [e] at h1
 have h2 := h1.1 0 (by simp)
 rw [Nat.mul_one, Nat.add_zero] at h2
 exact ⟨h2.1, h2.2, h1.2.1⟩
theorem akey_u : Tryz.prog.underlying 9 = some .string := Tryz.underlying9
theorem amap_u : Tryz.prog.underlying 64 = some (.map 9 20) := Tryz.underlying64
abbrev MapA (w : World) (b : Nat) (f : List (Bs × Value)) : Prop := MapE Tryz.prog 9 id w b f
abbrev En := Value × Y × (Nat → Prop)
def En.far (a b : En) : Prop := ∀ k, a.2.2 k → ¬ b.2.2 k
inductive AR (w : World) : Value → Y → (Nat → Prop) → Prop
 | null (F) : AR w .nilIface .null F
 | bool (b F) : AR w (.iface 4 (.bool b)) (.bool b) F
 | int (n F) : AR w (.iface 3 (.int .i64 n)) (.int n) F
 | text (s F) : AR w (.iface 9 (.string s)) (.text s) F
 | list (v : Value) (zs : List En) (ys : List Y) (F : Nat → Prop) (hy : ys = zs.map (fun z => z.2.1)) (hr : kAny.R 20 w 0 (fun _ => True) v (zs.map (fun z => z.1))) (hz : ∀ z, z ∈ zs → AR w z.1 z.2.1 z.2.2)
   (hd : zs.Pairwise En.far) (hb : ∀ b, v.ownBlock = some b → F b ∧ ∀ z, z ∈ zs → ¬ z.2.2 b) (hF : ∀ z, z ∈ zs → ∀ k, z.2.2 k → F k) : AR w (.iface 58 v) (.list ys) F
 | map (b : Nat) (zs : List (Bs × En)) (ys : List (Bs × Y)) (F : Nat → Prop) (hy : ys = zs.map (fun z => (z.1, z.2.2.1))) (hm : MapA w b (zs.map (fun z => (z.1, z.2.1)))) (hz : ∀ z, z ∈ zs → AR w z.2.1 z.2.2.1 z.2.2.2)
   (hd : zs.Pairwise (fun a b => En.far a.2 b.2)) (hb : F b ∧ ∀ z, z ∈ zs → ¬ z.2.2.2 b) (hF : ∀ z, z ∈ zs → ∀ k, z.2.2.2 k → F k) : AR w (.iface 64 (.map (some b))) (.map ys) F
theorem AR.mono {w : World} {v : Value} {y : Y} {F G : Nat → Prop} (h : AR w v y F) (hFG : ∀ k, F k → G k) : AR w v y G := by
 cases h with
 | null => exact .null _
 | bool => exact .bool _ _
 | int => exact .int _ _
 | text => exact .text _ _
 | list v zs ys _ hy hr hz hd hb hF => exact .list v zs ys G hy hr hz hd (fun b h => ⟨hFG _ (hb b h).1, (hb b h).2⟩) (fun z h k hk => hFG _ (hF z h k hk))
 | map b zs ys _ hy hm hz hd hb hF => exact .map b zs ys G hy hm hz hd ⟨hFG _ hb.1, hb.2⟩ (fun z h k hk => hFG _ (hF z h k hk))
theorem kAny_move {e : Nat} {w w1 : World} {base : Nat} {ok : Nat → Prop} {v : Value} {xs : List Value} (h : kAny.R e w base ok v xs) (hm : ∀ k, v.ownBlock = some k → w1.heap[k]? = w.heap[k]?) : kAny.R e w1 base ok v xs := by
 obtain ⟨h0, inner, ho, hr⟩ := h
 exact ⟨h0, inner, own_move ho hm, hr⟩
theorem AR.move {w w1 : World} {v : Value} {y : Y} {F : Nat → Prop} (h : AR w v y F) (hm : ∀ k, F k → w1.heap[k]? = w.heap[k]?) : AR w1 v y F := by
 induction h with
 | null => exact .null _
 | bool => exact .bool _ _
 | int => exact .int _ _
 | text => exact .text _ _
 | list v zs ys F hy hr hz hd hb hF ih =>
  exact .list v zs ys F hy (kAny_move hr (fun k hk => hm k (hb k hk).1)) (fun z h => ih z h (fun k hk => hm k (hF z h k hk))) hd hb hF
 | map b zs ys F hy hmm hz hd hb hF ih =>
  exact .map b zs ys F hy (hmm.move (hm b hb.1)) (fun z h => ih z h (fun k hk => hm k (hF z h k hk))) hd hb hF
theorem AR.tight {w : World} {v : Value} {y : Y} {F : Nat → Prop} (h : AR w v y F) : AR w v y (fun k => F k ∧ k < w.heap.size) := by
 induction h with
 | null => exact .null _
 | bool => exact .bool _ _
 | int => exact .int _ _
 | text => exact .text _ _
 | list v zs ys F hy hr hz hd hb hF ih =>
  let g : En → En := fun z => (z.1, z.2.1, fun k => z.2.2 k ∧ k < w.heap.size)
  refine .list v (zs.map g) ys _ (by rw [hy, List.map_map]; rfl) (by rw [List.map_map]; exact hr) (fun z h => ?_) (hd.map g (fun a b hab k hk hk2 => hab k hk.1 hk2.1)) (fun b hbb => ⟨⟨(hb b hbb).1, (Kd.R_bound hr).1 b hbb |>.2.2.1⟩, fun z h => ?_⟩) (fun z h k hk => ?_)
  ·obtain ⟨z0, h0, rfl⟩ := List.mem_map.1 h
   exact ih z0 h0
  ·obtain ⟨z0, h0, rfl⟩ := List.mem_map.1 h
   exact fun hk => (hb b hbb).2 z0 h0 hk.1
  ·obtain ⟨z0, h0, rfl⟩ := List.mem_map.1 h
   exact ⟨hF z0 h0 k hk.1, hk.2⟩
 | map b zs ys F hy hmm hz hd hb hF ih =>
  let g : Bs × En → Bs × En := fun z => (z.1, z.2.1, z.2.2.1, fun k => z.2.2.2 k ∧ k < w.heap.size)
  refine .map b (zs.map g) ys _ (by rw [hy, List.map_map]; rfl) (by rw [List.map_map]; exact hmm) (fun z h => ?_) (hd.map g (fun a b hab k hk hk2 => hab k hk.1 hk2.1)) ⟨⟨hb.1, hmm.lt⟩, fun z h => ?_⟩ (fun z h k hk => ?_)
  ·obtain ⟨z0, h0, rfl⟩ := List.mem_map.1 h
   exact ih z0 h0
  ·obtain ⟨z0, h0, rfl⟩ := List.mem_map.1 h
   exact fun hk => hb.2 z0 h0 hk.1
  ·obtain ⟨z0, h0, rfl⟩ := List.mem_map.1 h
   exact ⟨hF z0 h0 k hk.1, hk.2⟩
theorem AR.keep {w w1 : World} {v : Value} {y : Y} {F : Nat → Prop} (h : AR w v y F) (hb : Below w.heap.size w w1) : AR w1 v y (fun k => F k ∧ k < w.heap.size) := h.tight.move (fun k hk => hb.block k hk.2)
theorem AR.one {w : World} {v : Value} {y : Y} {F : Nat → Prop} (h : AR w v y F) : v.oneCell' = true := by cases h <;> rfl
section
variable {α β : Type}
theorem mput_mem {f : List (Bs × α)} {k : Bs} {v : α} {p : Bs × α} (h : p ∈ mput f k v) : p = (k, v) ∨ p ∈ f := by
 unfold mput at h
 rcases mins_mem.1 h with h | h
 ·exact .inl h
 ·exact .inr (List.mem_filter.1 h).1
theorem mins_pair {R : Bs × α → Bs × α → Prop} (hs : ∀ a b, R a b → R b a) {x : Bs × α} : ∀ {f : List (Bs × α)}, f.Pairwise R → (∀ p ∈ f, R x p) → (mins x f).Pairwise R
 | [], _, _ => by simp [mins]
 | y :: r, h, hx => by
  obtain ⟨h1, h2⟩ := List.pairwise_cons.1 h
  rw [mins]
  split
  ·exact List.pairwise_cons.2 ⟨hx, h⟩
  ·refine List.pairwise_cons.2 ⟨fun p hp => ?_, mins_pair hs h2 (fun p hp => hx p (by simp [hp]))⟩
   rcases mins_mem.1 hp with rfl | hp
   ·exact hs _ _ (hx y (by simp))
   ·exact h1 p hp
theorem mput_pair {R : Bs × α → Bs × α → Prop} (hs : ∀ a b, R a b → R b a) {f : List (Bs × α)} {k : Bs} {v : α} (h : f.Pairwise R) (hx : ∀ p ∈ f, R (k, v) p) : (mput f k v).Pairwise R :=
 mins_pair hs (h.sublist List.filter_sublist) (fun p hp => hx p (List.mem_filter.1 hp).1)
theorem mins_map (g : α → β) (x : Bs × α) : ∀ f : List (Bs × α), (mins x f).map (fun p => (p.1, g p.2)) = mins (x.1, g x.2) (f.map (fun p => (p.1, g p.2)))
 | [] => rfl
 | y :: r => by
  rw [mins, List.map_cons, mins]
  by_cases h : x.1 < y.1
  ·rw [if_pos h, if_pos h]; rfl
  ·rw [if_neg h, if_neg h, List.map_cons, mins_map g x r]
theorem mput_map (g : α → β) (f : List (Bs × α)) (k : Bs) (v : α) : (mput f k v).map (fun p => (p.1, g p.2)) = mput (f.map (fun p => (p.1, g p.2))) k (g v) := by
 unfold mput
 rw [mins_map]
 congr 1
 unfold mdel
 rw [List.filter_map]
 rfl
end
mutual
def anyOf : VI → Y
 | ⟨k, n, t, ks, vs⟩ => if k = 1 then .bool (n != 0) else if k = 2 then .int n else if k = 3 then .text t else if k = 4 then .list (anyL vs) else if k = 5 then .map (fitM ((ks.map lb).zip (anyL vs))) else .null
def anyL : List VI → List Y
 | [] => []
 | v :: r => anyOf v :: anyL r
end
theorem anyL_map : ∀ vs, anyL vs = vs.map anyOf
 | [] => by simp [anyL]
 | v :: r => by simp [anyL, anyL_map r]
inductive Small : VI → Prop
 | mk (x : VI) (hk : ∀ s, s ∈ x.f3 → s.size ≤ maxLen) (hkl : x.f3.length ≤ 8796093022000) (hvl : x.f4.length ≤ 1759218604400) (hv : ∀ v, v ∈ x.f4 → Small v) : Small x
def pairsOf (ks : List BA) (vs : List VI) : List (Bs × Y) := (ks.map lb).zip (anyL vs)
def mapOf (x : VI) : List (Bs × Y) := fitM (pairsOf x.f3 x.f4)
theorem anyL_length (vs : List VI) : (anyL vs).length = vs.length := by rw [anyL_map, List.length_map]
theorem pairsOf_length (ks : List BA) (vs : List VI) : (pairsOf ks vs).length = min ks.length vs.length := by
 unfold pairsOf
 rw [List.length_zip, List.length_map, anyL_length]
theorem pairsOf_get {ks : List BA} {vs : List VI} {i : Nat} (hk : i < ks.length) (hv : i < vs.length) : (pairsOf ks vs).take (i + 1) = (pairsOf ks vs).take i ++ [(lb ks[i], anyOf vs[i])] := by
 have hl : i < ((ks.map lb).zip (anyL vs)).length := by rw [List.length_zip, List.length_map, anyL_length]; omega
 show ((ks.map lb).zip (anyL vs)).take (i + 1) = ((ks.map lb).zip (anyL vs)).take i ++ [(lb ks[i], anyOf vs[i])]
 rw [List.take_succ_eq_append_getElem hl, List.getElem_zip]
 simp [anyL_map]
def Made (w : World) (y : Y) (e : Ending) (w' : World) : Prop := ∃ v, e = .returned v ∧ AR w' v y (fun k => w.heap.size ≤ k ∧ k < w'.heap.size) ∧ Below w.heap.size w w'
structure MapAt (wr : World) (b : Nat) (zs : List (Bs × En)) (m : List (Bs × Y)) : Prop where
 hm : MapA wr b (zs.map (fun z => (z.1, z.2.1)))
 hz : ∀ z, z ∈ zs → AR wr z.2.1 z.2.2.1 z.2.2.2
 hd : zs.Pairwise (fun a b => En.far a.2 b.2)
 hF : ∀ z, z ∈ zs → ∀ k, z.2.2.2 k → b < k ∧ k < wr.heap.size
 hy : zs.map (fun z => (z.1, z.2.2.1)) = m
theorem MapAt.made (w : World) : MapAt (w.alloc (.map #[] 0)) w.heap.size [] [] := ⟨MapE.made Tryz.prog 9 (id : Value → Value) w, fun z h => by simp at h, List.Pairwise.nil, fun z h => by simp at h, rfl⟩
theorem MapAt.lt {wr : World} {b : Nat} {zs : List (Bs × En)} {m : List (Bs × Y)} (h : MapAt wr b zs m) : b < wr.heap.size := h.hm.lt
theorem MapAt.move {wr w1 : World} {b : Nat} {zs : List (Bs × En)} {m : List (Bs × Y)} (h : MapAt wr b zs m) (hb : Below wr.heap.size wr w1) : MapAt w1 b zs m :=
 ⟨h.hm.below hb, fun z hz => (h.hz z hz).move (fun k hk => hb.block k (h.hF z hz k hk).2), h.hd, fun z hz k hk => ⟨(h.hF z hz k hk).1, Nat.lt_of_lt_of_le (h.hF z hz k hk).2 hb.size⟩, h.hy⟩
theorem MapAt.drew {wr : World} {b : Nat} {zs : List (Bs × En)} {m : List (Bs × Y)} (h : MapAt wr b zs m) : MapAt wr.drew b zs m := h.move (below_drew (Below.refl _ _))
theorem MapAt.put {W w3 w4 : World} {b : Nat} {zs : List (Bs × En)} {m : List (Bs × Y)} (h : MapAt W b zs m) (hb3 : Below W.heap.size W w3) {v : Value} {y : Y} (hA : AR w3 v y (fun k => W.heap.size ≤ k ∧ k < w3.heap.size)) (key : Bs)
  (hm4 : MapA w4 b (mput (zs.map (fun z => (z.1, z.2.1))) key v)) (hg : w3.grownBy w4 (some b)) : MapAt w4 b (mput zs key (v, y, fun k => W.heap.size ≤ k ∧ k < w3.heap.size)) (mput m key y) := by
 have hlt := h.lt
 have mv : ∀ {v y F}, AR w3 v y F → (∀ k, F k → b < k ∧ k < w3.heap.size) → AR w4 v y F := fun hA hF => hA.move (fun k hk => hg.block k (hF k hk).2 (fun e => by injection e with e; have := (hF k hk).1; omega))
 have h3 := h.move hb3
 refine ⟨?_, fun z hz => ?_, ?_, fun z hz k hk => ?_, ?_⟩
 ·rw [mput_map (fun e : En => e.1)]
  exact hm4
 ·rcases mput_mem hz with rfl | hz
  ·exact mv hA (fun k hk => ⟨by omega, hk.2⟩)
  ·exact mv (h3.hz z hz) (h3.hF z hz)
 ·refine mput_pair (fun a b hab k hk hk2 => hab k hk2 hk) h.hd (fun p hp k hk hk2 => ?_)
  have h1 := (h.hF p hp k hk2).2
  have h2 : W.heap.size ≤ k := hk.1
  omega
 ·rcases mput_mem hz with rfl | hz
  ·have h2 : W.heap.size ≤ k := hk.1
   have h3 : k < w3.heap.size := hk.2
   have := hg.size
   exact ⟨by omega, by omega⟩
  ·have h5 := h3.hF z hz k hk
   have := hg.size
   exact ⟨h5.1, by omega⟩
 ·rw [mput_map (fun e : En => e.2.1), ← h.hy]
theorem MapAt.done {wr : World} {b : Nat} {zs : List (Bs × En)} {m : List (Bs × Y)} (h : MapAt wr b zs m) : AR wr (.iface 64 (.map (some b))) (.map m) (fun k => b ≤ k ∧ k < wr.heap.size) :=
 .map b zs m _ h.hy.symm h.hm h.hz h.hd ⟨⟨Nat.le_refl _, h.lt⟩, fun z hz hk => by have := (h.hF z hz b hk).1; omega⟩ (fun z hz k hk => ⟨Nat.le_of_lt (h.hF z hz k hk).1, (h.hF z hz k hk).2⟩)
theorem MapAt.length {wr : World} {b : Nat} {zs : List (Bs × En)} {m : List (Bs × Y)} (h : MapAt wr b zs m) : (zs.map (fun z => (z.1, z.2.1))).length = m.length := by rw [← h.hy, List.length_map, List.length_map]
end Go.Proofs.YtaembebbaejfiaaGreatDoor.Tr
namespace Go.Proofs.YtaembebbaejfiaaGreatDoor.Tr
open Go.RowKit Go.Proofs.YtaembebbaejfiaaGreatDoorW.PrintWords Go.Proofs.YtaembebbaejfiaaGreatDoorW.PrintLast Go.Proofs.YtaembebbaejfiaaGreatDoor.Str Go.Proofs.YtaembebbaejfiaaGreatDoor.Kit Go.Proofs.YtaembebbaejfiaaGreatDoor.MapV Go.Proofs.YtaembebbaejfiaaGreatDoor.Frame Go.Proofs.YtaembebbaejfiaaGreatDoor.PS
set_option linter.unusedVariables false
set_option linter.unusedSimpArgs false
def ToAnyAt (x : VI) : Prop := ∀ (A3 A4 : Option Addr) (c3 c4 : Nat) (w : World), x.f3.length ≤ c3 → Kd.string.C w A3 x.f3.length x.f3 → x.f4.length ≤ c4 → kI.C w A4 x.f4.length x.f4 →
  Calls Tryz.prog 26 #[.agg #[.int .i64 x.f0, .int .i64 x.f1, .string x.f2, .slice A3 x.f3.length c3, .slice A4 x.f4.length c4]] w (Made w (anyOf x))
set_option maxHeartbeats 6400000 in
set_option maxRecDepth 100000 in
theorem toMap_of (kd nm : Int) (t : BA) (ks : List BA) (vs : List VI) (hks : ∀ s, s ∈ ks → s.size ≤ maxLen) (hkl : ks.length ≤ 8796093022000) (hvl : vs.length ≤ 1759218604400) (hch : ∀ v, v ∈ vs → ToAnyAt v) (A3 A4 : Option Addr) (c3 c4 : Nat) (w : World) (hk : Kd.string.C w A3 ks.length ks) (hv : kI.C w A4 vs.length vs) :
  Calls Tryz.prog 48 #[.agg #[.int .i64 kd, .int .i64 nm, .string t, .slice A3 ks.length c3, .slice A4 vs.length c4]] w fun e w' => ∃ b, e = .returned (.map (some b)) ∧ AR w' (.iface 64 (.map (some b))) (.map (fitM (pairsOf ks vs))) (fun k => w.heap.size ≤ k ∧ k < w'.heap.size) ∧ Below w.heap.size w w' := by
 have HC := aM hch
 have HK := aM hk
 have HV := aM hv
 have HKS := aM hks
 have hmm := fun (n : Int) (w : World) => run_makeHint (P := Tryz.prog) amap_u .i64 n w
 have hbx := below_alloc (Below.refl w.heap.size w) (.cells #[.int .i64 kd, .int .i64 nm, .string t, .slice A3 ks.length c3, .slice A4 vs.length c4] 45)
 have HB0 := aM (below_alloc hbx (.map #[] 0))
 have HX0 := aM (show ((w.alloc (.cells #[.int .i64 kd, .int .i64 nm, .string t, .slice A3 ks.length c3, .slice A4 vs.length c4] 45)).alloc (.map #[] 0)).heap[w.heap.size]? = some (.cells #[.int .i64 kd, .int .i64 nm, .string t, .slice A3 ks.length c3, .slice A4 vs.length c4] 45 (0, 0)) from blk_alloc (cb_new _ _) _)
 have hm0 := MapAt.made (w.alloc (.cells #[.int .i64 kd, .int .i64 nm, .string t, .slice A3 ks.length c3, .slice A4 vs.length c4] 45))
 rw [World.size_alloc] at hm0
 have HM0 := aM hm0
 have HT0 := aM (show fitM ((pairsOf ks vs).take 0) = [] from rfl)
 clear hch hk hv hks hbx hm0
 go_enter Tryz.func48, Tryz.ntmps48
 go_wp2
 go_loopw [4] (fun v4 wr => ∃ i : Nat, v4 = .int .i64 i ∧ i ≤ ks.length ∧ i ≤ vs.length ∧ Aside0 (∃ zs, MapAt wr (w.heap.size + 1) zs (fitM ((pairsOf ks vs).take i))) ∧ Aside0 (Below w.heap.size w wr) ∧ Aside0 (wr.heap[w.heap.size]? = some (.cells #[.int .i64 kd, .int .i64 nm, .string t, .slice A3 ks.length c3, .slice A4 vs.length c4] 45 (0, 0)))) (fun v4 _ => ks.length - (intOf v4).toNat)
 case atStart => exact ⟨0, rfl, by omega, by omega, ⟨[], HM0.out⟩, HB0, HX0⟩
 case round =>
  clear HM0 HB0 HX0 HT0
  obtain ⟨i, rfl, hik, hiv, HM, HB, HX⟩ := hrel
  have x3 := cb_cell (i := 3) HX.out rfl
  have x4 := cb_cell (i := 4) HX.out rfl
  have q0 : (0 : Int) ≤ (i : Int) := by omega
  by_cases hlk : i < ks.length
  ·by_cases hlv : i < vs.length
   ·have q1 : (i : Int) < (ks.length : Int) := by omega
    have q2 : (i : Int) < (vs.length : Int) := by omega
    have d1 : decide ((i : Int) < (ks.length : Int)) = true := decide_eq_true q1
    have d2 : decide ((i : Int) < (vs.length : Int)) = true := decide_eq_true q2
    obtain ⟨kb, ko, rfl, hkb, hkc⟩ := strs_open HK.out (by omega)
    obtain ⟨vb, vo, rfl, hvb, hvc⟩ := kI_at HV.out (by omega)
    have k0 := hkc i hlk
    obtain ⟨B3, d3, B4, d4, e0, e1, e2, e3, e4, l3, g3, l4, g4⟩ := hvc i hlv
    have HCH := aM (HC.out vs[i] (List.getElem_mem hlv))
    have HKZ := aM (HKS.out ks[i] (List.getElem_mem hlk))
    have HTK := aM (pairsOf_get hlk hlv)
    have HG := aM (And.intro l3 (And.intro g3 (And.intro l4 g4)))
    have n0 : wr.drew.cell? ⟨kb, ko + i, none⟩ = some (.string ks[i]) := pw_cell_below HB.out k0
    have y0 : wr.drew.cell? ⟨vb, vo + i * 5, none⟩ = some (.int .i64 vs[i].f0) := pw_cell_below HB.out e0
    have y1 : wr.drew.cell? ⟨vb, vo + i * 5 + 1, none⟩ = some (.int .i64 vs[i].f1) := pw_cell_below HB.out e1
    have y2 : wr.drew.cell? ⟨vb, vo + i * 5 + 2, none⟩ = some (.string vs[i].f2) := pw_cell_below HB.out e2
    have y3 : wr.drew.cell? ⟨vb, vo + i * 5 + 3, none⟩ = some (.slice B3 vs[i].f3.length d3) := pw_cell_below HB.out e3
    have y4 : wr.drew.cell? ⟨vb, vo + i * 5 + 4, none⟩ = some (.slice B4 vs[i].f4.length d4) := pw_cell_below HB.out e4
    have z3 : wr.drew.cell? ⟨w.heap.size, 3, none⟩ = some (.slice (some ⟨kb, ko, none⟩) ks.length c3) := x3
    have z4 : wr.drew.cell? ⟨w.heap.size, 4, none⟩ = some (.slice (some ⟨vb, vo, none⟩) vs.length c4) := x4
    have CA := aM (fun (W : World) (hb : Below w.heap.size w W) => HCH.out B3 B4 d3 d4 W HG.out.1 (Kd.C_below HG.out.2.1 hb) HG.out.2.2.1 (Kd.C_below HG.out.2.2.2 hb))
    clear hkc hvc k0 e0 e1 e2 e3 e4 l3 g3 l4 g4 HCH HG
    generalize ks[i] = key at n0 HTK HKZ
    generalize vs[i] = v at y0 y1 y2 y3 y4 HTK CA
    obtain ⟨x0, x1, x2, x3_, x4_⟩ := v
    obtain ⟨f, hf⟩ : ∃ f, fitM ((pairsOf ks vs).take i) = f := ⟨_, rfl⟩
    have HF := aM (show fitM ((pairsOf ks vs).take (i + 1)) = mput f (lb key) (anyOf ⟨x0, x1, x2, x3_, x4_⟩) by rw [HTK.out, fitM_snoc, hf])
    have hfl : f.length ≤ i := by
     rw [← hf]
     exact Nat.le_trans (fitM_length _) (List.length_take_le _ _)
    rw [hf] at HM
    clear hf HTK
    generalize anyOf ⟨x0, x1, x2, x3_, x4_⟩ = yv at CA HF
    go_wp2_with fail
    refine start_ (n := 13) (S := fun w' => w'.cell? ⟨w.heap.size, 3, none⟩ = some (.slice (some ⟨kb, ko, none⟩) ks.length c3) ∧ w'.cell? ⟨w.heap.size, 4, none⟩ = some (.slice (some ⟨vb, vo, none⟩) vs.length c4) ∧ w'.cell? ⟨kb, ko + i, none⟩ = some (.string key) ∧ w'.cell? ⟨vb, vo + i * 5, none⟩ = some (.int .i64 x0) ∧ w'.cell? ⟨vb, vo + i * 5 + 1, none⟩ = some (.int .i64 x1) ∧ w'.cell? ⟨vb, vo + i * 5 + 2, none⟩ = some (.string x2) ∧ w'.cell? ⟨vb, vo + i * 5 + 3, none⟩ = some (.slice B3 x3_.length d3) ∧ w'.cell? ⟨vb, vo + i * 5 + 4, none⟩ = some (.slice B4 x4_.length d4)) (ds := [12]) #[false, false, false, false, false, false, false, false, false, false, false, false, false] (by kernel_rfl) rfl rfl ⟨z3, z4, n0, y0, y1, y2, y3, y4⟩ (fun hHeld => ?_)
    refine pure_ (i := 0) (N := some 23) (v := ?_) (a' := ?_) #[true, false, false, false, false, false, false, false, false, false, false, false, false] rfl rfl (by kernel_rfl) (fun _ _ _ h => h) (Or.inl ⟨by rfl, ?_⟩) ?_ ?_
    rotate_left
    ·intro w'; go_simp; with_reducible rfl
    rotate_left
    ·simp only [Act.put, sA, sB, sC, i64_w, i32_w]; rfl
    refine pure_ (i := 1) (N := some 24) (v := ?_) (a' := ?_) #[true, true, false, false, false, false, false, false, false, false, false, false, false] rfl rfl (by kernel_rfl) (fun _ _ _ h => h) (Or.inl ⟨by rfl, ?_⟩) ?_ ?_
    rotate_left
    ·intro w'; go_simp; with_reducible rfl
    rotate_left
    ·simp only [Act.put, sA, sB, sC, i64_w, i32_w]; rfl
    refine pure_ (i := 3) (N := some 26) (v := ?_) (a' := ?_) #[true, true, false, true, false, false, false, false, false, false, false, false, false] rfl rfl (by kernel_rfl) (fun _ _ _ h => h) (Or.inl ⟨by rfl, ?_⟩) ?_ ?_
    rotate_left
    ·intro w'; go_simp; with_reducible rfl
    rotate_left
    ·simp only [Act.put, sA, sB, sC, i64_w, i32_w]; rfl
    refine pure_ (i := 6) (N := some 29) (v := ?_) (a' := ?_) #[true, true, false, true, false, false, true, false, false, false, false, false, false] rfl rfl (by kernel_rfl) (fun _ _ _ h => h) (Or.inl ⟨by rfl, ?_⟩) ?_ ?_
    rotate_left
    ·intro w'; go_simp; with_reducible rfl
    rotate_left
    ·simp only [Act.put, sA, sB, sC, i64_w, i32_w]; rfl
    refine pure_ (i := 8) (N := some 31) (v := ?_) (a' := ?_) #[true, true, false, true, false, false, true, false, true, false, false, false, false] rfl rfl (by kernel_rfl) (fun _ _ _ h => h) (Or.inl ⟨by rfl, ?_⟩) ?_ ?_
    rotate_left
    ·intro w'; go_simp; with_reducible rfl
    rotate_left
    ·simp only [Act.put, sA, sB, sC, i64_w, i32_w]; rfl
    refine take_ (i := 2) (N := some 25) (v := ?_) (a' := ?_) #[true, true, true, true, false, false, true, false, true, false, false, false, false] rfl rfl (by kernel_rfl) (fun _ _ _ h => h) (Or.inl ⟨by rfl, ?_⟩) hHeld ?_ ?_
    rotate_left
    ·rintro w' ⟨s0, s1, s2, s3, s4, s5, s6, s7⟩
     go_simp; with_reducible rfl
    rotate_left
    ·simp only [Act.put, sA, sB, sC, i64_w, i32_w]; rfl
    refine pure_ (i := 4) (N := some 27) (v := ?_) (a' := ?_) #[true, true, true, true, true, false, true, false, true, false, false, false, false] rfl rfl (by kernel_rfl) (fun _ _ _ h => h) (Or.inl ⟨by rfl, ?_⟩) ?_ ?_
    rotate_left
    ·intro w'; go_simp; with_reducible rfl
    rotate_left
    ·simp only [Act.put, sA, sB, sC, i64_w, i32_w]; rfl
    refine take_ (i := 5) (N := some 28) (v := ?_) (a' := ?_) #[true, true, true, true, true, true, true, false, true, false, false, false, false] rfl rfl (by kernel_rfl) (fun _ _ _ h => h) (Or.inl ⟨by rfl, ?_⟩) hHeld ?_ ?_
    rotate_left
    ·rintro w' ⟨s0, s1, s2, s3, s4, s5, s6, s7⟩
     go_simp; with_reducible rfl
    rotate_left
    ·simp only [Act.put, sA, sB, sC, i64_w, i32_w]; rfl
    refine take_ (i := 7) (N := some 30) (v := ?_) (a' := ?_) #[true, true, true, true, true, true, true, true, true, false, false, false, false] rfl rfl (by kernel_rfl) (fun _ _ _ h => h) (Or.inl ⟨by rfl, ?_⟩) hHeld ?_ ?_
    rotate_left
    ·rintro w' ⟨s0, s1, s2, s3, s4, s5, s6, s7⟩
     go_simp; with_reducible rfl
    rotate_left
    ·simp only [Act.put, sA, sB, sC, i64_w, i32_w]; rfl
    refine pure_ (i := 9) (N := some 32) (v := ?_) (a' := ?_) #[true, true, true, true, true, true, true, true, true, true, false, false, false] rfl rfl (by kernel_rfl) (fun _ _ _ h => h) (Or.inl ⟨by rfl, ?_⟩) ?_ ?_
    rotate_left
    ·intro w'; go_simp; with_reducible rfl
    rotate_left
    ·simp only [Act.put, sA, sB, sC, i64_w, i32_w]; rfl
    refine take_ (i := 10) (N := some 33) (v := ?_) (a' := ?_) #[true, true, true, true, true, true, true, true, true, true, true, false, false] rfl rfl (by kernel_rfl) (fun _ _ _ h => h) (Or.inl ⟨by rfl, ?_⟩) hHeld ?_ ?_
    rotate_left
    ·rintro w' ⟨s0, s1, s2, s3, s4, s5, s6, s7⟩
     go_simp; with_reducible rfl
    rotate_left
    ·simp only [Act.put, sA, sB, sC, i64_w, i32_w]; rfl
    refine one_ (i := 11) (N := some 34) #[true, true, true, true, true, true, true, true, true, true, true, true, false] rfl rfl (by kernel_rfl) (by decide) (fun K hK => ?_)
    refine goes_ Tryz.func26 (by kernel_rfl) rfl #[.agg #[.int .i64 x0, .int .i64 x1, .string x2, .slice B3 x3_.length d3, .slice B4 x4_.length d4]] (by rfl) rfl rfl (by simp only [List.map_toArray, List.map_cons, List.map_nil]; rfl) ?_
    with_reducible refine (CA.out wr.drew (below_drew HB.out)).mono ?_
    rintro e w3 ⟨v3, rfl, ha3, hb3⟩
    refine ⟨_, rfl, ?_⟩
    have HB3 := aM hb3
    have HA3 := aM ha3
    have HX3 := aM ((hb3.block _ (cb_lt (show wr.drew.heap[w.heap.size]? = _ from HX.out))).trans (show wr.drew.heap[w.heap.size]? = _ from HX.out))
    clear ha3
    refine hK.out _ _ ⟨pw_cell_below hb3 hHeld.1, pw_cell_below hb3 hHeld.2.1, pw_cell_below hb3 hHeld.2.2.1, pw_cell_below hb3 hHeld.2.2.2.1, pw_cell_below hb3 hHeld.2.2.2.2.1, pw_cell_below hb3 hHeld.2.2.2.2.2.1, pw_cell_below hb3 hHeld.2.2.2.2.2.2.1, pw_cell_below hb3 hHeld.2.2.2.2.2.2.2⟩ (fun hHeld => ?_)
    clear hK K
    refine norm_ (a' := ?_) ?_ ?_
    rotate_left
    ·show Act.put _ (some 34) _ = _
     simp only [Act.put, sA, sB, sC, i64_w, i32_w]; rfl
    refine last_ (i := 12) (N := none) #[true, true, true, true, true, true, true, true, true, true, true, true, true] rfl rfl (by kernel_rfl) (by decide) (fun K hK => ?_)
    obtain ⟨zs, hzs⟩ := HM.out
    have hlen := hzs.length
    refine store_mapE_step (enc := (id : Value → Value)) (y := v3) akey_u amap_u rfl rfl _ _ _ rfl rfl ((hzs.drew.move HB3.out).hm) (by rw [hlen]; unfold maxLen; omega) rfl HKZ.out rfl ?_
    intro w4 hm4 hg4
    have HM4 := aM (hzs.drew.put HB3.out HA3.out (lb key) hm4 hg4)
    have HG4 := aM hg4
    clear hm4 hg4 hzs hlen
    refine hK.out _ _ ?_
    clear hK K
    refine done_ (by kernel_rfl) ?_
    go_wp2
    go_roundw
    case rel =>
     refine ⟨i + 1, by go_num, by omega, by omega, ⟨⟨_, by rw [HF.out]; exact HM4.out⟩⟩, ⟨?_⟩, ⟨?_⟩⟩
     ·exact pw_below_grown (hb_then (below_drew HB.out) HB3.out) _ (hb_then (below_drew HB.out) HB3.out).size HG4.out (fun k hk => by injection hk with hk; omega)
     ·exact (HG4.out.block _ (cb_lt HX3.out) (fun e => by injection e with e; omega)).trans HX3.out
    case measure => simp [intOf]; omega
   ·have d1 : decide ((i : Int) < (ks.length : Int)) = true := decide_eq_true (by omega)
    have d2 : decide ((i : Int) < (vs.length : Int)) = false := decide_eq_false (by omega)
    have HTK := aM (show (pairsOf ks vs).take i = pairsOf ks vs from List.take_of_length_le (by rw [pairsOf_length]; omega))
    go_wp2
    go_ret
    obtain ⟨zs, hzs⟩ := HM.out
    rw [HTK.out] at hzs
    exact ⟨_, rfl, hzs.done.mono (fun k hk => ⟨by have := hk.1; omega, hk.2⟩), HB.out⟩
  ·have d1 : decide ((i : Int) < (ks.length : Int)) = false := decide_eq_false (by omega)
   have HTK := aM (show (pairsOf ks vs).take i = pairsOf ks vs from List.take_of_length_le (by rw [pairsOf_length]; omega))
   go_wp2
   go_ret
   obtain ⟨zs, hzs⟩ := HM.out
   rw [HTK.out] at hzs
   exact ⟨_, rfl, hzs.done.mono (fun k hk => ⟨by have := hk.1; omega, hk.2⟩), HB.out⟩
end Go.Proofs.YtaembebbaejfiaaGreatDoor.Tr
namespace Go.Proofs.YtaembebbaejfiaaGreatDoor.Tr
open Go.RowKit Go.Proofs.YtaembebbaejfiaaGreatDoorW.PrintWords Go.Proofs.YtaembebbaejfiaaGreatDoorW.PrintLast Go.Proofs.YtaembebbaejfiaaGreatDoor.Str Go.Proofs.YtaembebbaejfiaaGreatDoor.Kit Go.Proofs.YtaembebbaejfiaaGreatDoor.MapV Go.Proofs.YtaembebbaejfiaaGreatDoor.Frame Go.Proofs.YtaembebbaejfiaaGreatDoor.PS
set_option linter.unusedVariables false
set_option linter.unusedSimpArgs false
theorem info_any : (Tryz.prog.info? 20).map (fun i => (i.zero, i.size, i.bytes)) = some (some .nilIface, 1, 16) := by kernel_rfl
def noEn : En := (.nilIface, .null, fun _ => False)
structure ListAt (wr : World) (b n : Nat) (zs : List En) : Prop where
 hr : kAny.R 20 wr 0 (fun _ => True) (.slice (some ⟨b, 0, none⟩) n n) (zs.map (fun z => z.1))
 hz : ∀ z, z ∈ zs → AR wr z.1 z.2.1 z.2.2
 hd : zs.Pairwise En.far
 hF : ∀ z, z ∈ zs → ∀ k, z.2.2 k → b < k ∧ k < wr.heap.size
theorem ListAt.length {wr : World} {b n : Nat} {zs : List En} (h : ListAt wr b n zs) : zs.length = n := by
 have := (Kd.R_reads' h.hr).1
 rw [List.length_map] at this
 exact this.symm
theorem ListAt.lt {wr : World} {b n : Nat} {zs : List En} (h : ListAt wr b n zs) : b < wr.heap.size := ((Kd.R_bound h.hr).1 b (by simp [Value.ownBlock])).2.2.1
theorem ListAt.move {wr w1 : World} {b n : Nat} {zs : List En} (h : ListAt wr b n zs) (hb : Below wr.heap.size wr w1) : ListAt w1 b n zs :=
 ⟨Kd.R_below h.hr hb, fun z hz => (h.hz z hz).move (fun k hk => hb.block k (h.hF z hz k hk).2), h.hd, fun z hz k hk => ⟨(h.hF z hz k hk).1, Nat.lt_of_lt_of_le (h.hF z hz k hk).2 hb.size⟩⟩
theorem set_pair {R : En → En → Prop} (hs : ∀ a b, R a b → R b a) {x : En} : ∀ {zs : List En} (i : Nat), zs.Pairwise R → (∀ z ∈ zs, R x z) → (zs.set i x).Pairwise R
 | [], _, h, _ => h
 | y :: r, 0, h, hx => List.pairwise_cons.2 ⟨fun z hz => hx z (by simp [hz]), (List.pairwise_cons.1 h).2⟩
 | y :: r, i + 1, h, hx => by
  obtain ⟨h1, h2⟩ := List.pairwise_cons.1 h
  rw [List.set_cons_succ]
  refine List.pairwise_cons.2 ⟨fun z hz => ?_, set_pair hs i h2 (fun z hz => hx z (by simp [hz]))⟩
  rcases List.mem_or_eq_of_mem_set hz with hz | rfl
  ·exact h1 z hz
  ·exact hs _ _ (hx y (by simp))
theorem ListAt.put {W w3 : World} {b n : Nat} {zs : List En} (h : ListAt W b n zs) (hb3 : Below W.heap.size W w3) {v : Value} {y : Y} (hA : AR w3 v y (fun k => W.heap.size ≤ k ∧ k < w3.heap.size)) (i : Nat) (hi : i < n) :
  ListAt (w3.setCell ⟨b, i, none⟩ v) b n (zs.set i (v, y, fun k => W.heap.size ≤ k ∧ k < w3.heap.size)) := by
 have hlt := h.lt
 have h3 := h.move hb3
 have hsz : (w3.setCell ⟨b, i, none⟩ v).heap.size = w3.heap.size := by simp
 have hg : w3.grownBy (w3.setCell ⟨b, i, none⟩ v) (some b) := grown_setCell w3 b i v
 have mv : ∀ {v' y F}, AR w3 v' y F → (∀ k, F k → b < k ∧ k < w3.heap.size) → AR (w3.setCell ⟨b, i, none⟩ v) v' y F := fun hA hF => hA.move (fun k hk => hg.block k (hF k hk).2 (fun e => by injection e with e; have := (hF k hk).1; omega))
 refine ⟨?_, fun z hz => ?_, ?_, fun z hz k hk => ?_⟩
 ·rw [List.map_set]
  exact (kAny_put h3.hr i hi v hA.one).2.2
 ·rcases List.mem_or_eq_of_mem_set hz with hz | rfl
  ·exact mv (h3.hz z hz) (h3.hF z hz)
  ·exact mv hA (fun k hk => ⟨by omega, hk.2⟩)
 ·refine set_pair (fun a b hab k hk hk2 => hab k hk2 hk) i h.hd (fun z hz k hk hk2 => ?_)
  have h1 := (h.hF z hz k hk2).2
  have h2 : W.heap.size ≤ k := hk.1
  omega
 ·rw [hsz]
  rcases List.mem_or_eq_of_mem_set hz with hz | rfl
  ·exact h3.hF z hz k hk
  ·have h2 : W.heap.size ≤ k := hk.1
   exact ⟨by omega, hk.2⟩
theorem ListAt.done {wr : World} {b n : Nat} {zs : List En} {l : List Y} (h : ListAt wr b n zs) (hl : zs.map (fun z => z.2.1) = l) : AR wr (.iface 58 (.slice (some ⟨b, 0, none⟩) n n)) (.list l) (fun k => b ≤ k ∧ k < wr.heap.size) :=
 .list _ zs l _ hl.symm h.hr h.hz h.hd (fun b' hb' => by
  have : b = b' := by simpa [Value.ownBlock] using hb'
  subst this
  exact ⟨⟨Nat.le_refl _, h.lt⟩, fun z hz hk => by have := (h.hF z hz b hk).1; omega⟩) (fun z hz k hk => ⟨Nat.le_of_lt (h.hF z hz k hk).1, (h.hF z hz k hk).2⟩)
theorem ListAt.made (w : World) (n : Nat) (hn : n ≤ 1759218604400) : ListAt (w.alloc (.cells (madeCells #[.nilIface] n) 20)) w.heap.size n (List.replicate n noEn) := by
 refine ⟨?_, fun z hz => ?_, ?_, fun z hz k hk => ?_⟩
 ·have e : (List.replicate n noEn).map (fun z => z.1) = List.replicate n Value.nilIface := by rw [List.map_replicate]; rfl
  rw [e]
  refine ⟨fun _ _ => trivial, List.replicate n Value.nilIface, ⟨by simp [held], .inr ⟨w.heap.size, n, madeCells #[.nilIface] n, by simp, Nat.zero_le _, cb_new _ _, by simp, by unfold maxLen; omega, by simp [held, size_madeCells], ?_⟩⟩, by simp [held], fun j p hp => ?_⟩
  ·show (madeCells #[.nilIface] n).toList.take ((List.replicate n Value.nilIface).length * 1) = List.replicate n Value.nilIface
   rw [List.length_replicate, Nat.mul_one]
   apply List.ext_getElem?
   intro j
   by_cases hj : j < n
   ·rw [List.getElem?_take_of_lt hj, Array.getElem?_toList]
    simp [madeCells, hj, Nat.mod_one]
   ·rw [List.getElem?_take_eq_none (by omega), List.getElem?_eq_none (by simp; omega)]
  ·obtain ⟨hj, rfl⟩ := List.getElem?_eq_some_iff.1 hp
   have hj' : j < n := by simpa using hj
   show ((List.replicate n Value.nilIface).drop (j * 1)).take 1 = [(List.replicate n Value.nilIface)[j]] ∧ _
   rw [List.getElem_replicate, Nat.mul_one, List.drop_replicate, List.take_replicate, show min 1 (n - j) = 1 by omega]
   exact ⟨rfl, rfl⟩
 ·rw [List.eq_of_mem_replicate hz]
  exact .null _
 ·exact List.pairwise_replicate.2 (.inr (fun k hk => hk.elim))
 ·rw [List.eq_of_mem_replicate hz] at hk
  exact hk.elim
def saidTo (l : List Y) (i n : Nat) : List Y := l.take i ++ List.replicate (n - i) .null
theorem saidTo_set (l : List Y) (i n : Nat) (hi : i < n) (hl : l.length = n) : (saidTo l i n).set i (l[i]'(by omega)) = saidTo l (i + 1) n := by
 unfold saidTo
 have h1 : (l.take i).length = i := by rw [List.length_take]; omega
 rw [List.set_append_right _ _ (by omega), h1, Nat.sub_self]
 obtain ⟨m, hm⟩ : ∃ m, n - i = m + 1 := ⟨n - i - 1, by omega⟩
 rw [hm, List.replicate_succ, List.set_cons_zero, List.take_succ_eq_append_getElem (by omega), show n - (i + 1) = m by omega, List.append_assoc]
 rfl
set_option maxHeartbeats 6400000 in
set_option maxRecDepth 100000 in
theorem toAny_list (nm : Int) (t : BA) (ks : List BA) (vs : List VI) (hvl : vs.length ≤ 1759218604400) (hch : ∀ v, v ∈ vs → ToAnyAt v) (A3 A4 : Option Addr) (c3 c4 : Nat) (w : World) (hv : kI.C w A4 vs.length vs) :
  Calls Tryz.prog 26 #[.agg #[.int .i64 4, .int .i64 nm, .string t, .slice A3 ks.length c3, .slice A4 vs.length c4]] w (Made w (.list (anyL vs))) := by
 have HC := aM hch
 have HV := aM hv
 have hmk := fun W => run_make_row' (P := Tryz.prog) 58 20 .nilIface 16 Tryz.underlying58 info_any rfl .i64 .i64 vs.length (by omega) (by omega) W
 have hbx := below_alloc (Below.refl w.heap.size w) (.cells #[.int .i64 4, .int .i64 nm, .string t, .slice A3 ks.length c3, .slice A4 vs.length c4] 45)
 have HB0 := aM (below_alloc hbx (.cells (madeCells #[.nilIface] vs.length) 20))
 have HX0 := aM (show ((w.alloc (.cells #[.int .i64 4, .int .i64 nm, .string t, .slice A3 ks.length c3, .slice A4 vs.length c4] 45)).alloc (.cells (madeCells #[.nilIface] vs.length) 20)).heap[w.heap.size]? = some (.cells #[.int .i64 4, .int .i64 nm, .string t, .slice A3 ks.length c3, .slice A4 vs.length c4] 45 (0, 0)) from blk_alloc (cb_new _ _) _)
 have hm0 := ListAt.made (w.alloc (.cells #[.int .i64 4, .int .i64 nm, .string t, .slice A3 ks.length c3, .slice A4 vs.length c4] 45)) vs.length hvl
 rw [World.size_alloc] at hm0
 have HM0 := aM hm0
 have HT0 := aM (show (List.replicate vs.length noEn).map (fun z => z.2.1) = saidTo (anyL vs) 0 vs.length from by rw [List.map_replicate]; rfl)
 have hc : ∀ W : World, W = W := fun _ => rfl
 clear hch hv hbx hm0 hc
 go_enter Tryz.func26, Tryz.ntmps26
 go_wp2
 go_loopw [32, 4] (fun v32 v4 wr => ∃ i : Nat, v32 = .int .i64 i ∧ i ≤ vs.length ∧ Aside0 (∃ zs, ListAt wr (w.heap.size + 1) vs.length zs ∧ zs.map (fun z => z.2.1) = saidTo (anyL vs) i vs.length) ∧ Aside0 (Below w.heap.size w wr) ∧ Aside0 (wr.heap[w.heap.size]? = some (.cells #[.int .i64 4, .int .i64 nm, .string t, .slice A3 ks.length c3, .slice A4 vs.length c4] 45 (0, 0)))) (fun v32 _ _ => vs.length - (intOf v32).toNat)
 case atStart => exact ⟨0, rfl, by omega, ⟨_, HM0.out, HT0.out⟩, HB0, HX0⟩
 case round =>
  clear HM0 HB0 HX0 HT0
  obtain ⟨i, rfl, hiv, HM, HB, HX⟩ := hrel
  have x4 := cb_cell (i := 4) HX.out rfl
  have q0 : (0 : Int) ≤ (i : Int) := by omega
  by_cases hlv : i < vs.length
  ·have q2 : (i : Int) < (vs.length : Int) := by omega
   obtain ⟨vb, vo, rfl, hvb, hvc⟩ := kI_at HV.out (by omega)
   obtain ⟨B3, d3, B4, d4, e0, e1, e2, e3, e4, l3, g3, l4, g4⟩ := hvc i hlv
   have HCH := aM (HC.out vs[i] (List.getElem_mem hlv))
   have HG := aM (And.intro l3 (And.intro g3 (And.intro l4 g4)))
   have y0 := pw_cell_below HB.out e0
   have y1 := pw_cell_below HB.out e1
   have y2 := pw_cell_below HB.out e2
   have y3 := pw_cell_below HB.out e3
   have y4 := pw_cell_below HB.out e4
   have CA := aM (fun (W : World) (hb : Below w.heap.size w W) => HCH.out B3 B4 d3 d4 W HG.out.1 (Kd.C_below HG.out.2.1 hb) HG.out.2.2.1 (Kd.C_below HG.out.2.2.2 hb))
   have HST := aM (saidTo_set (anyL vs) i vs.length hlv (anyL_length vs))
   have HGE := aM (show (anyL vs)[i]'(by rw [anyL_length]; exact hlv) = anyOf vs[i] by simp [anyL_map])
   clear hvc e0 e1 e2 e3 e4 l3 g3 l4 g4 HCH HG
   generalize vs[i] = v at y0 y1 y2 y3 y4 HGE CA
   obtain ⟨x0, x1, x2, x3_, x4_⟩ := v
   generalize anyOf ⟨x0, x1, x2, x3_, x4_⟩ = yv at CA HGE
   go_wp2_with fail
   refine (CA.out wr HB.out).mono ?_
   rintro e w3 ⟨v3, rfl, ha3, hb3⟩
   have HB3 := aM hb3
   have HA3 := aM ha3
   have HX3 := aM ((hb3.block _ (cb_lt HX.out)).trans HX.out)
   obtain ⟨zs, hzs, hsaid⟩ := HM.out
   have HZS := aM hzs
   have HSD := aM hsaid
   have hzt := kAny_put (hzs.move hb3).hr i hlv v3 ha3.one
   have hst : (storeCells ⟨w.heap.size + 1, i, none⟩ [v3]).run Tryz.prog w3 = .ok () (w3.setCell ⟨w.heap.size + 1, i, none⟩ v3) := by
    have := run_storeCells_cells (P := Tryz.prog) (w.heap.size + 1) i [v3] 0 w3 (fun j hj => by
     have : j = 0 := by simpa using hj
     subst this
     exact hzt.1) (fun j hj => by
     have : j = 0 := by simpa using hj
     subst this
     exact hzt.2.1) (fun u hu => by
     have : u = v3 := by simpa using hu
     rw [this]
     exact ha3.one)
    simpa [World.setCells] using this
   clear hb3 ha3 hzs hsaid hzt
   go_wp2
   rw [hst]
   go_wp2
   go_roundw
   case rel =>
    have hp := HZS.out.put HB3.out HA3.out i hlv
    refine ⟨i + 1, by go_num, by omega, ⟨⟨_, hp, ?_⟩⟩, ⟨?_⟩, ⟨?_⟩⟩
    ·rw [List.map_set, HSD.out, ← HST.out, HGE.out]
    ·exact (hb_then HB.out HB3.out).setCell (by show w.heap.size ≤ w.heap.size + 1; omega) _
    ·exact (Below.heap_setCell w3 ⟨w.heap.size + 1, i, none⟩ v3 _ (by show w.heap.size ≠ w.heap.size + 1; omega)).trans HX3.out
   case measure => simp [intOf]; omega
  ·have HTK := aM (show saidTo (anyL vs) i vs.length = anyL vs by
    unfold saidTo
    rw [List.take_of_length_le (by rw [anyL_length]; omega), show vs.length - i = 0 by omega]
    simp)
   go_wp2
   go_ret
   obtain ⟨zs, hzs, hsaid⟩ := HM.out
   rw [HTK.out] at hsaid
   exact ⟨_, rfl, (hzs.done hsaid).mono (fun k hk => ⟨by have := hk.1; omega, hk.2⟩), HB.out⟩
set_option maxHeartbeats 800000 in
theorem toAny_bool (nm : Int) (t : BA) (ks : List BA) (vs : List VI) (A3 A4 : Option Addr) (c3 c4 : Nat) (w : World) :
  Calls Tryz.prog 26 #[.agg #[.int .i64 1, .int .i64 nm, .string t, .slice A3 ks.length c3, .slice A4 vs.length c4]] w (Made w (.bool (nm != 0))) := by
 have HB := aM (below_alloc (Below.refl w.heap.size w) (.cells #[.int .i64 1, .int .i64 nm, .string t, .slice A3 ks.length c3, .slice A4 vs.length c4] 45))
 go_enter Tryz.func26, Tryz.ntmps26
 go_wp2
 go_ret
 exact ⟨_, rfl, .bool _ _, HB.out⟩
set_option maxHeartbeats 800000 in
theorem toAny_int (nm : Int) (t : BA) (ks : List BA) (vs : List VI) (A3 A4 : Option Addr) (c3 c4 : Nat) (w : World) :
  Calls Tryz.prog 26 #[.agg #[.int .i64 2, .int .i64 nm, .string t, .slice A3 ks.length c3, .slice A4 vs.length c4]] w (Made w (.int nm)) := by
 have HB := aM (below_alloc (Below.refl w.heap.size w) (.cells #[.int .i64 2, .int .i64 nm, .string t, .slice A3 ks.length c3, .slice A4 vs.length c4] 45))
 go_enter Tryz.func26, Tryz.ntmps26
 go_wp2
 go_ret
 exact ⟨_, rfl, .int _ _, HB.out⟩
set_option maxHeartbeats 800000 in
theorem toAny_text (nm : Int) (t : BA) (ks : List BA) (vs : List VI) (A3 A4 : Option Addr) (c3 c4 : Nat) (w : World) :
  Calls Tryz.prog 26 #[.agg #[.int .i64 3, .int .i64 nm, .string t, .slice A3 ks.length c3, .slice A4 vs.length c4]] w (Made w (.text t)) := by
 have HB := aM (below_alloc (Below.refl w.heap.size w) (.cells #[.int .i64 3, .int .i64 nm, .string t, .slice A3 ks.length c3, .slice A4 vs.length c4] 45))
 go_enter Tryz.func26, Tryz.ntmps26
 go_wp2
 go_ret
 exact ⟨_, rfl, .text _ _, HB.out⟩
set_option maxHeartbeats 800000 in
theorem toAny_other (kd nm : Int) (t : BA) (ks : List BA) (vs : List VI) (A3 A4 : Option Addr) (c3 c4 : Nat) (w : World) (h1 : (kd == 1) = false) (h2 : (kd == 2) = false) (h3 : (kd == 3) = false) (h4 : (kd == 4) = false) (h5 : (kd == 5) = false) :
  Calls Tryz.prog 26 #[.agg #[.int .i64 kd, .int .i64 nm, .string t, .slice A3 ks.length c3, .slice A4 vs.length c4]] w (Made w .null) := by
 have HB := aM (below_alloc (Below.refl w.heap.size w) (.cells #[.int .i64 kd, .int .i64 nm, .string t, .slice A3 ks.length c3, .slice A4 vs.length c4] 45))
 go_enter Tryz.func26, Tryz.ntmps26
 go_wp2
 go_ret
 exact ⟨_, rfl, .null _, HB.out⟩
set_option maxHeartbeats 1600000 in
theorem toAny_map (nm : Int) (t : BA) (ks : List BA) (vs : List VI) (hks : ∀ s, s ∈ ks → s.size ≤ maxLen) (hkl : ks.length ≤ 8796093022000) (hvl : vs.length ≤ 1759218604400) (hch : ∀ v, v ∈ vs → ToAnyAt v) (A3 A4 : Option Addr) (c3 c4 : Nat) (w : World) (hk : Kd.string.C w A3 ks.length ks) (hv : kI.C w A4 vs.length vs) :
  Calls Tryz.prog 26 #[.agg #[.int .i64 5, .int .i64 nm, .string t, .slice A3 ks.length c3, .slice A4 vs.length c4]] w (Made w (.map (fitM (pairsOf ks vs)))) := by
 have hb := below_alloc (Below.refl w.heap.size w) (.cells #[.int .i64 5, .int .i64 nm, .string t, .slice A3 ks.length c3, .slice A4 vs.length c4] 45)
 have HB := aM hb
 have CM := aM (toMap_of 5 nm t ks vs hks hkl hvl hch A3 A4 c3 c4 (w.alloc (.cells #[.int .i64 5, .int .i64 nm, .string t, .slice A3 ks.length c3, .slice A4 vs.length c4] 45)) (Kd.C_below hk hb) (Kd.C_below hv hb))
 clear hb hks hch hk hv
 go_enter Tryz.func26, Tryz.ntmps26
 go_wp2_with fail
 refine CM.out.mono ?_
 rintro e w1 ⟨b, rfl, ha, hb⟩
 have HA := aM ha
 have HB1 := aM (hb_then HB.out hb)
 clear ha hb CM
 go_wp2
 go_ret
 exact ⟨_, rfl, HA.out.mono (fun k hk => ⟨by have h1 := hk.1; rw [World.size_alloc] at h1; omega, hk.2⟩), HB1.out⟩
theorem anyOf_list (n : Int) (t : BA) (ks : List BA) (vs : List VI) : anyOf ⟨4, n, t, ks, vs⟩ = .list (anyL vs) := by simp [anyOf]
theorem anyOf_map (n : Int) (t : BA) (ks : List BA) (vs : List VI) : anyOf ⟨5, n, t, ks, vs⟩ = .map (fitM (pairsOf ks vs)) := by simp [anyOf, pairsOf]
theorem toAny : ∀ x : VI, Small x → ToAnyAt x := by
 intro x hx
 induction hx with
 | mk x hks hkl hvl hv ih =>
  obtain ⟨kd, nm, t, ks, vs⟩ := x
  intro A3 A4 c3 c4 w h3 hk h4 hv
  by_cases h1 : kd = 1
  ·subst h1
   have e : anyOf ⟨1, nm, t, ks, vs⟩ = .bool (nm != 0) := by simp [anyOf]
   rw [e]
   exact toAny_bool nm t ks vs A3 A4 c3 c4 w
  by_cases h2 : kd = 2
  ·subst h2
   have e : anyOf ⟨2, nm, t, ks, vs⟩ = .int nm := by simp [anyOf]
   rw [e]
   exact toAny_int nm t ks vs A3 A4 c3 c4 w
  by_cases h3 : kd = 3
  ·subst h3
   have e : anyOf ⟨3, nm, t, ks, vs⟩ = .text t := by simp [anyOf]
   rw [e]
   exact toAny_text nm t ks vs A3 A4 c3 c4 w
  by_cases h4 : kd = 4
  ·subst h4
   rw [anyOf_list]
   exact toAny_list nm t ks vs hvl ih A3 A4 c3 c4 w hv
  by_cases h5 : kd = 5
  ·subst h5
   rw [anyOf_map]
   exact toAny_map nm t ks vs hks hkl hvl ih A3 A4 c3 c4 w hk hv
  ·have e : anyOf ⟨kd, nm, t, ks, vs⟩ = .null := by simp [anyOf, h1, h2, h3, h4, h5]
   rw [e]
   exact toAny_other kd nm t ks vs A3 A4 c3 c4 w (by simpa using h1) (by simpa using h2) (by simpa using h3) (by simpa using h4) (by simpa using h5)
theorem Small.of {x v : VI} (h : Small x) (hv : v ∈ x.f4) : Small v := by
 cases h with
 | mk _ _ _ _ h => exact h v hv
end Go.Proofs.YtaembebbaejfiaaGreatDoor.Tr
namespace Go.Proofs.YtaembebbaejfiaaGreatDoor.Tr
open Go.RowKit Go.Proofs.YtaembebbaejfiaaGreatDoorW.PrintWords Go.Proofs.YtaembebbaejfiaaGreatDoorW.PrintLast Go.Proofs.YtaembebbaejfiaaGreatDoor.Str Go.Proofs.YtaembebbaejfiaaGreatDoor.Kit Go.Proofs.YtaembebbaejfiaaGreatDoor.MapV Go.Proofs.YtaembebbaejfiaaGreatDoor.Frame Go.Proofs.YtaembebbaejfiaaGreatDoor.PS
open Go.Proofs.YtaembebbaejfiaaGreatDoor.Val (place placeI placeB placeI_hit placeI_end)
set_option linter.unusedVariables false
set_option linter.unusedSimpArgs false
inductive SmallS : VS → Prop
 | mk (x : VS) (ht : x.f2.size ≤ 140737488355328) (hk : ∀ s, s ∈ x.f3 → s.size ≤ maxLen) (hkl : x.f3.length ≤ 8796093022000) (hvl : x.f4.length ≤ 1759218604400) (hv : ∀ v, v ∈ x.f4 → SmallS v) : SmallS x
def tup (x : VS) : Int × Int × BA × List BA × List VS := (x.f0, x.f1, x.f2, x.f3, x.f4)
theorem etaS (x : VS) : (⟨x.f0, x.f1, x.f2, x.f3, x.f4⟩ : VS) = x := by cases x; rfl
def leaf (k n : Int) (t : BA) : VS := ⟨k, n, t, [], []⟩
def fitW : List BA → List VS → List BA → List VS → List BA × List VS
 | k :: ks, v :: vs, K, V => fitW ks vs (withK K k) (withV K V k v)
 | _, _, K, V => (K, V)
theorem fitW_nil (ks : List BA) (K : List BA) (V : List VS) : fitW ks [] K V = (K, V) := by cases ks <;> rfl
mutual
def fitV : VS → VS
 | ⟨k, n, t, ks, vs⟩ => if k = 1 then (if n = 0 then leaf 1 0 ⟨#[]⟩ else leaf 1 1 ⟨#[]⟩) else if k = 2 then leaf 2 n ⟨#[]⟩ else if k = 3 then leaf 3 0 t else if k = 4 then ⟨4, 0, ⟨#[]⟩, [], fitL vs⟩ else if k = 5 then ⟨5, 0, ⟨#[]⟩, (fitW ks (fitL vs) [] []).1, (fitW ks (fitL vs) [] []).2⟩ else leaf 0 0 ⟨#[]⟩
def fitL : List VS → List VS
 | [] => []
 | v :: r => fitV v :: fitL r
end
theorem fitL_map : ∀ vs, fitL vs = vs.map fitV
 | [] => by simp [fitL]
 | v :: r => by simp [fitL, fitL_map r]
theorem fitL_length (vs : List VS) : (fitL vs).length = vs.length := by rw [fitL_map, List.length_map]
theorem fitL_drop {vs : List VS} {i : Nat} (h : i < vs.length) : (fitL vs).drop i = fitV vs[i] :: (fitL vs).drop (i + 1) := by
 rw [List.drop_eq_getElem_cons (by rw [fitL_length]; exact h)]
 simp only [fitL_map, List.getElem_map]
def FitEv (x : VS) : Prop := Ev (fun k => spec_Fit.f k x.f0 x.f1 x.f2 x.f3 x.f4) (tup (fitV x))
theorem ev_Fit_l0 (a b : Int) (c : BA) (ks : List BA) (vs : List VS) (p q : Int) (r : BA) (hvl : vs.length ≤ 1759218604400) (hch : ∀ v, v ∈ vs → FitEv v) : ∀ (d i : Nat) (acc : List VS), i + d = vs.length → acc.length = i →
  Ev (fun k => spec_Fit.l0 k (i : Int) a b c ks vs p q r acc) (p, q, r, [], acc ++ (fitL vs).drop i) := by
 intro d
 induction d with
 | zero =>
  intro i acc hi ha
  refine ev_step (fun k => ?_) (Ev.now _)
  simp only [spec_Fit.l0]
  rw [if_neg (by omega), List.drop_eq_nil_of_le (by rw [fitL_length]; omega), List.append_nil]
 | succ d ih =>
  intro i acc hi ha
  have hlt : i < vs.length := by omega
  refine ev_step (f := fun k => (spec_Fit.f k vs[i].f0 vs[i].f1 vs[i].f2 vs[i].f3 vs[i].f4).bind fun bt => spec_Fit.l0 k ((i + 1 : Nat) : Int) a b c ks vs p q r (acc ++ [(⟨bt.1, bt.2.1, bt.2.2.1, bt.2.2.2.1, bt.2.2.2.2⟩ : VS)])) (fun k => ?_) ?_
  ·simp only [spec_Fit.l0]
   rw [if_pos (by omega), if_pos (by omega), rdS hlt]
   refine congrArg _ (funext fun bt => ?_)
   rw [if_pos (by omega), wrapS i (by omega)]
  ·refine ev_bind (hch vs[i] (List.getElem_mem hlt)) ?_
   have := ih (i + 1) (acc ++ [fitV vs[i]]) (by omega) (by simp [ha])
   rw [List.append_assoc, List.singleton_append, ← fitL_drop hlt] at this
   simp only [tup, etaS]
   exact this
theorem ev_Fit_l1 (a b : Int) (c : BA) (ks : List BA) (vs : List VS) (hkl : ks.length ≤ 8796093022000) (hvl : vs.length ≤ 1759218604400) (hch : ∀ v, v ∈ vs → FitEv v) : ∀ (d i : Nat) (K : List BA) (V : List VS), i + d = ks.length → K.length = V.length → V.length ≤ i → V.length ≤ vs.length →
  Ev (fun k => spec_Fit.l1 k (i : Int) a b c ks vs 5 0 ⟨#[]⟩ K V) (5, 0, ⟨#[]⟩, (fitW (ks.drop i) ((fitL vs).drop i) K V).1, (fitW (ks.drop i) ((fitL vs).drop i) K V).2) := by
 intro d
 induction d with
 | zero =>
  intro i K V hi hKV hVi hVv
  rw [List.drop_eq_nil_of_le (by omega : ks.length ≤ i)]
  refine ev_step (fun k => ?_) (f := fun k => spec_Fit.j2 k (i : Int) false a b c ks vs 5 0 ⟨#[]⟩ K V) (ev_step (fun k => ?_) (Ev.now _))
  ·simp only [spec_Fit.l1]
   rw [if_neg (by omega)]
  ·simp only [spec_Fit.j2]
   rw [if_neg (by decide)]
   rfl
 | succ d ih =>
  intro i K V hi hKV hVi hVv
  have hlt : i < ks.length := by omega
  have hd : ks.drop i = ks[i] :: ks.drop (i + 1) := List.drop_eq_getElem_cons hlt
  by_cases hv : i < vs.length
  ·refine ev_step (fun k => ?_) (f := fun k => spec_Fit.j2 k (i : Int) true a b c ks vs 5 0 ⟨#[]⟩ K V) (ev_step (f := fun k => (spec_Fit.f k vs[i].f0 vs[i].f1 vs[i].f2 vs[i].f3 vs[i].f4).bind fun bt => (spec_With.f k 5 0 ⟨#[]⟩ K V ks[i] bt.1 bt.2.1 bt.2.2.1 bt.2.2.2.1 bt.2.2.2.2).bind fun bu => spec_Fit.l1 k ((i + 1 : Nat) : Int) a b c ks vs bu.1 bu.2.1 bu.2.2.1 bu.2.2.2.1 bu.2.2.2.2) (fun k => ?_) ?_)
   ·simp only [spec_Fit.l1]
    rw [if_pos (by omega), decide_eq_true (show (i : Int) < (vs.length : Int) by omega)]
   ·simp only [spec_Fit.j2]
    rw [if_pos trivial, if_pos (by omega), if_pos (by omega), if_pos (by omega), rdS hv, rdB hlt, wrapS i (by omega)]
   ·refine ev_bind (hch vs[i] (List.getElem_mem hv)) (ev_bind (a := (5, 0, ⟨#[]⟩, withK K ks[i], withV K V ks[i] (fitV vs[i]))) (ev_now (fun k => ?_)) ?_)
    ·show spec_With.f k 5 0 ⟨#[]⟩ K V ks[i] (fitV vs[i]).f0 (fitV vs[i]).f1 (fitV vs[i]).f2 (fitV vs[i]).f3 (fitV vs[i]).f4 = _
     unfold spec_With.f
     rw [if_pos ⟨hKV, by omega⟩, etaS]
    ·have hl1 := withV_length (key := ks[i]) (x := fitV vs[i]) hKV
     have hl2 := withK_length (ks := K) (key := ks[i])
     have := ih (i + 1) (withK K ks[i]) (withV K V ks[i] (fitV vs[i])) (by omega) hl1.symm (by omega) (by omega)
     rw [hd, fitL_drop hv]
     exact this
  ·rw [List.drop_eq_nil_of_le (show (fitL vs).length ≤ i by rw [fitL_length]; omega), fitW_nil]
   refine ev_step (fun k => ?_) (f := fun k => spec_Fit.j2 k (i : Int) false a b c ks vs 5 0 ⟨#[]⟩ K V) (ev_step (fun k => ?_) (Ev.now _))
   ·simp only [spec_Fit.l1]
    rw [if_pos (by omega), decide_eq_false (show ¬ (i : Int) < (vs.length : Int) by omega)]
   ·simp only [spec_Fit.j2]
    rw [if_neg (by decide)]
theorem ev_Fit : ∀ x : VS, SmallS x → FitEv x := by
 intro x hx
 induction hx with
 | mk x ht hk hkl hvl hv ih =>
  obtain ⟨k, n, t, ks, vs⟩ := x
  unfold FitEv
  by_cases h1 : k = 1
  ·subst h1
   refine ev_step (f := fun _ => some (tup (fitV ⟨1, n, t, ks, vs⟩))) (fun j => ?_) (Ev.now _)
   by_cases hn : n = 0
   ·subst hn
    simp [spec_Fit.f, spec_B.f, fitV, tup, leaf]
   ·simp [spec_Fit.f, spec_B.f, fitV, tup, leaf, hn]
  by_cases h2 : k = 2
  ·subst h2
   exact ev_step (f := fun _ => some (tup (fitV ⟨2, n, t, ks, vs⟩))) (fun j => by simp [spec_Fit.f, spec_N.f, fitV, tup, leaf]) (Ev.now _)
  by_cases h3 : k = 3
  ·subst h3
   exact ev_step (f := fun _ => some (tup (fitV ⟨3, n, t, ks, vs⟩))) (fun j => by simp [spec_Fit.f, spec_T.f, fitV, tup, leaf]) (Ev.now _)
  by_cases h4 : k = 4
  ·subst h4
   have h := ev_Fit_l0 4 n t ks vs 4 0 ⟨#[]⟩ hvl ih vs.length 0 [] (by omega) rfl
   rw [List.drop_zero, List.nil_append] at h
   have e : tup (fitV ⟨4, n, t, ks, vs⟩) = (4, 0, ⟨#[]⟩, [], fitL vs) := by simp [fitV, tup]
   rw [e]
   exact ev_step (fun j => by simp [spec_Fit.f]) h
  by_cases h5 : k = 5
  ·subst h5
   have h := ev_Fit_l1 5 n t ks vs hkl hvl ih ks.length 0 [] [] (by omega) rfl (by simp) (by simp)
   rw [List.drop_zero, List.drop_zero] at h
   have e : tup (fitV ⟨5, n, t, ks, vs⟩) = (5, 0, ⟨#[]⟩, (fitW ks (fitL vs) [] []).1, (fitW ks (fitL vs) [] []).2) := by simp [fitV, tup]
   rw [e]
   exact ev_step (fun j => by simp [spec_Fit.f, spec_Empty.f]) h
  ·exact ev_step (f := fun _ => some (tup (fitV ⟨k, n, t, ks, vs⟩))) (fun j => by simp [spec_Fit.f, fitV, tup, leaf, h1, h2, h3, h4, h5]) (Ev.now _)
end Go.Proofs.YtaembebbaejfiaaGreatDoor.Tr
namespace Go.Proofs.YtaembebbaejfiaaGreatDoor.Tr
open Go.RowKit Go.Proofs.YtaembebbaejfiaaGreatDoorW.PrintWords Go.Proofs.YtaembebbaejfiaaGreatDoorW.PrintLast Go.Proofs.YtaembebbaejfiaaGreatDoor.Str Go.Proofs.YtaembebbaejfiaaGreatDoor.Kit Go.Proofs.YtaembebbaejfiaaGreatDoor.MapV Go.Proofs.YtaembebbaejfiaaGreatDoor.Frame Go.Proofs.YtaembebbaejfiaaGreatDoor.PS
open Go.Proofs.YtaembebbaejfiaaGreatDoor.Val (place placeI placeB placeI_hit placeI_end)
set_option linter.unusedVariables false
set_option linter.unusedSimpArgs false
mutual
def toI : VS → VI
 | ⟨k, n, t, ks, vs⟩ => ⟨k, n, t, ks, toL vs⟩
def toL : List VS → List VI
 | [] => []
 | v :: r => toI v :: toL r
end
theorem toL_map : ∀ vs, toL vs = vs.map toI
 | [] => by simp [toL]
 | v :: r => by simp [toL, toL_map r]
theorem toL_length (vs : List VS) : (toL vs).length = vs.length := by rw [toL_map, List.length_map]
theorem etaI (x : VI) : (⟨x.f0, x.f1, x.f2, x.f3, x.f4⟩ : VI) = x := by cases x; rfl
theorem toI_eq (x : VS) : toI x = ⟨x.f0, x.f1, x.f2, x.f3, toL x.f4⟩ := by cases x; simp [toI]
theorem toL_drop {vs : List VS} {i : Nat} (h : i < vs.length) : (toL vs).drop i = toI vs[i] :: (toL vs).drop (i + 1) := by
 rw [List.drop_eq_getElem_cons (by rw [toL_length]; exact h)]
 simp only [toL_map, List.getElem_map]
def tupI (x : VI) : Int × Int × BA × List BA × List VI := (x.f0, x.f1, x.f2, x.f3, x.f4)
def ToEv (x : VS) : Prop := Ev (fun k => laws_to.f k x.f0 x.f1 x.f2 x.f3 x.f4) (tupI (toI x))
theorem ev_to_l0 (a b : Int) (c : BA) (ks : List BA) (vs : List VS) (p q : Int) (r : BA) (rk : List BA) (hvl : vs.length ≤ 1759218604400) (hch : ∀ v, v ∈ vs → ToEv v) : ∀ (d i : Nat) (acc : List VI), i + d = vs.length → acc.length = i →
  Ev (fun k => laws_to.l0 k (i : Int) a b c ks vs p q r rk acc) (p, q, r, rk, acc ++ (toL vs).drop i) := by
 intro d
 induction d with
 | zero =>
  intro i acc hi ha
  refine ev_step (fun k => ?_) (Ev.now _)
  simp only [laws_to.l0]
  rw [if_neg (by omega), List.drop_eq_nil_of_le (by rw [toL_length]; omega), List.append_nil]
 | succ d ih =>
  intro i acc hi ha
  have hlt : i < vs.length := by omega
  refine ev_step (f := fun k => (laws_to.f k vs[i].f0 vs[i].f1 vs[i].f2 vs[i].f3 vs[i].f4).bind fun bt => laws_to.l0 k ((i + 1 : Nat) : Int) a b c ks vs p q r rk (acc ++ [(⟨bt.1, bt.2.1, bt.2.2.1, bt.2.2.2.1, bt.2.2.2.2⟩ : VI)])) (fun k => ?_) ?_
  ·simp only [laws_to.l0]
   rw [if_pos (by omega), if_pos (by omega), rdS hlt]
   refine congrArg _ (funext fun bt => ?_)
   rw [if_pos (by omega), wrapS i (by omega)]
  ·refine ev_bind (hch vs[i] (List.getElem_mem hlt)) ?_
   have := ih (i + 1) (acc ++ [toI vs[i]]) (by omega) (by simp [ha])
   rw [List.append_assoc, List.singleton_append, ← toL_drop hlt] at this
   simp only [tupI, etaI]
   exact this
theorem ev_to : ∀ x : VS, SmallS x → ToEv x := by
 intro x hx
 induction hx with
 | mk x ht hk hkl hvl hv ih =>
  obtain ⟨k, n, t, ks, vs⟩ := x
  have hkl' : ks.length ≤ 8796093022000 := hkl
  have h := ev_to_l0 k n t ks vs k n t ks hvl ih vs.length 0 [] (by omega) rfl
  rw [List.drop_zero, List.nil_append] at h
  unfold ToEv
  rw [toI_eq]
  refine ev_step (fun j => ?_) h
  simp only [laws_to.f, Option.bind_some, List.nil_append, List.length_nil, Nat.zero_add]
  rw [if_pos (by omega)]
  rfl
theorem small_to : ∀ x : VS, SmallS x → Small (toI x) := by
 intro x hx
 induction hx with
 | mk x ht hk hkl hvl hv ih =>
  rw [toI_eq]
  refine Small.mk _ hk hkl (by show (toL x.f4).length ≤ _; rw [toL_length]; exact hvl) (fun v hv' => ?_)
  have hv2 : v ∈ x.f4.map toI := by rw [← toL_map]; exact hv'
  obtain ⟨u, hu, rfl⟩ := List.mem_map.1 hv2
  exact ih u hu
theorem withK_mem {ks : List BA} {key s : BA} (h : s ∈ withK ks key) : s ∈ ks ∨ s = key := by
 unfold withK at h
 split at h
 ·exact .inl h
 ·rcases List.mem_append.1 h with h | h
  ·exact .inl (List.mem_of_mem_take h)
  ·rcases List.mem_append.1 h with h | h
   ·exact .inr (by simpa using h)
   ·exact .inl (List.mem_of_mem_drop h)
theorem withV_mem {α : Type} {ks : List BA} {vs : List α} {key : BA} {x v : α} (h : v ∈ withV ks vs key x) : v ∈ vs ∨ v = x := by
 unfold withV at h
 split at h
 ·exact List.mem_or_eq_of_mem_set h
 ·rcases List.mem_append.1 h with h | h
  ·exact .inl (List.mem_of_mem_take h)
  ·rcases List.mem_append.1 h with h | h
   ·exact .inr (by simpa using h)
   ·exact .inl (List.mem_of_mem_drop h)
def RiseK (ks : List BA) : Prop := ks.Pairwise (fun a b => lb a < lb b)
theorem place_cons_lt {x key : BA} {r : List BA} (h : lb x < lb key) : placeI (x :: r) key = placeI r key + 1 ∧ placeB (x :: r) key = placeB r key := by
 have h1 : placeI (x :: r) key = placeI r key + 1 := by
  unfold placeI
  rw [List.takeWhile_cons_of_pos (by simpa using h), List.length_cons]
 refine ⟨h1, ?_⟩
 unfold placeB
 rw [h1, List.getElem?_cons_succ]
theorem place_cons_ge {x key : BA} {r : List BA} (h : ¬ lb x < lb key) : placeI (x :: r) key = 0 ∧ placeB (x :: r) key = (x.toList == key.toList) := by
 have h1 : placeI (x :: r) key = 0 := by
  unfold placeI
  rw [List.takeWhile_cons_of_neg (by simpa using h)]
  rfl
 refine ⟨h1, ?_⟩
 unfold placeB
 rw [h1, List.getElem?_cons_zero]
theorem withK_rises : ∀ {ks : List BA} {key : BA}, RiseK ks → RiseK (withK ks key)
 | [], key, _ => by
  have : withK [] key = [key] := rfl
  rw [this]
  simp [RiseK]
 | x :: r, key, h => by
  obtain ⟨h1, h2⟩ := List.pairwise_cons.1 h
  by_cases hl : lb x < lb key
  ·obtain ⟨e1, e2⟩ := place_cons_lt (r := r) hl
   have e : withK (x :: r) key = x :: withK r key := by
    unfold withK
    rw [e1, e2]
    split
    ·rfl
    ·rfl
   rw [e]
   refine List.pairwise_cons.2 ⟨fun s hs => ?_, withK_rises h2⟩
   rcases withK_mem hs with hs | rfl
   ·exact h1 s hs
   ·exact hl
  ·obtain ⟨e1, e2⟩ := place_cons_ge (r := r) hl
   by_cases he : x.toList = key.toList
   ·have e : withK (x :: r) key = x :: r := by
     unfold withK
     rw [e2, if_pos (by simpa using he)]
    rw [e]
    exact h
   ·have hne : lb x ≠ lb key := fun e => he (by rw [toList_lb, toList_lb, e])
    have hgt : lb key < lb x := by
     rcases lt_total (lb x) (lb key) with e | e | e
     ·exact absurd e hl
     ·exact absurd e hne
     ·exact e
    have e : withK (x :: r) key = key :: x :: r := by
     unfold withK
     rw [e1, e2, if_neg (by simpa using he)]
     rfl
    rw [e]
    refine List.pairwise_cons.2 ⟨fun s hs => ?_, h⟩
    rcases List.mem_cons.1 hs with rfl | hs
    ·exact hgt
    ·exact lt_trans hgt (h1 s hs)
theorem fitW_facts : ∀ (ks : List BA) (vs : List VS) (K : List BA) (V : List VS), K.length = V.length → RiseK K →
  (fitW ks vs K V).1.length = (fitW ks vs K V).2.length ∧ RiseK (fitW ks vs K V).1 ∧ (fitW ks vs K V).1.length ≤ K.length + ks.length ∧ (fitW ks vs K V).2.length ≤ V.length + vs.length ∧ (∀ s, s ∈ (fitW ks vs K V).1 → s ∈ K ∨ s ∈ ks) ∧ (∀ v, v ∈ (fitW ks vs K V).2 → v ∈ V ∨ v ∈ vs)
 | [], vs, K, V, hl, hr => ⟨hl, hr, by simp [fitW], by simp [fitW], fun s h => .inl h, fun v h => .inl h⟩
 | k :: ks, [], K, V, hl, hr => ⟨hl, hr, by simp [fitW], by simp [fitW], fun s h => .inl h, fun v h => .inl h⟩
 | k :: ks, v :: vs, K, V, hl, hr => by
  have hlv := withV_length (key := k) (x := v) hl
  have hlk := withK_length (ks := K) (key := k)
  obtain ⟨a, b, c, d, e, f⟩ := fitW_facts ks vs (withK K k) (withV K V k v) hlv.symm (withK_rises hr)
  refine ⟨a, b, ?_, ?_, fun s hs => ?_, fun u hu => ?_⟩
  ·show (fitW ks vs (withK K k) (withV K V k v)).1.length ≤ _
   rw [List.length_cons]
   omega
  ·show (fitW ks vs (withK K k) (withV K V k v)).2.length ≤ _
   rw [List.length_cons]
   omega
  ·rcases e s hs with h | h
   ·rcases withK_mem h with h | rfl
    ·exact .inl h
    ·exact .inr (by simp)
   ·exact .inr (by simp [h])
  ·rcases f u hu with h | h
   ·rcases withV_mem h with h | rfl
    ·exact .inl h
    ·exact .inr (by simp)
   ·exact .inr (by simp [h])
inductive Fitted : VS → Prop
 | mk (x : VS) (hl : x.f3.length = x.f4.length ∨ x.f3 = []) (hr : RiseK x.f3) (h5 : x.f0 ≠ 5 → x.f3 = []) (hm : x.f0 = 5 → x.f3.length = x.f4.length) (hv : ∀ v, v ∈ x.f4 → Fitted v) : Fitted x
theorem leaf_fitted (k n : Int) (t : BA) : Fitted (leaf k n t) := .mk _ (.inr rfl) List.Pairwise.nil (fun _ => rfl) (fun _ => rfl) (fun v h => by cases h)
theorem leaf_small (k n : Int) (t : BA) (ht : t.size ≤ 140737488355328) : SmallS (leaf k n t) := .mk _ ht (fun s h => by cases h) (Nat.zero_le _) (Nat.zero_le _) (fun v h => by cases h)
theorem fit_facts : ∀ x : VS, SmallS x → SmallS (fitV x) ∧ Fitted (fitV x) := by
 intro x hx
 induction hx with
 | mk x ht hk hkl hvl hv ih =>
  obtain ⟨k, n, t, ks, vs⟩ := x
  have hch : ∀ v, v ∈ fitL vs → SmallS v ∧ Fitted v := by
   intro v hv'
   rw [fitL_map] at hv'
   obtain ⟨u, hu, rfl⟩ := List.mem_map.1 hv'
   exact ih u hu
  unfold fitV
  split
  ·split
   ·exact ⟨leaf_small _ _ _ (by first | exact ht | exact Nat.zero_le _), leaf_fitted _ _ _⟩
   ·exact ⟨leaf_small _ _ _ (by first | exact ht | exact Nat.zero_le _), leaf_fitted _ _ _⟩
  split
  ·exact ⟨leaf_small _ _ _ (by first | exact ht | exact Nat.zero_le _), leaf_fitted _ _ _⟩
  split
  ·exact ⟨leaf_small _ _ _ (by first | exact ht | exact Nat.zero_le _), leaf_fitted _ _ _⟩
  split
  ·refine ⟨.mk _ (Nat.zero_le _) (fun s h => by cases h) (Nat.zero_le _) (by show (fitL vs).length ≤ _; rw [fitL_length]; exact hvl) (fun v h => (hch v h).1), .mk _ (.inr rfl) List.Pairwise.nil (fun _ => rfl) (fun h => by cases h) (fun v h => (hch v h).2)⟩
  split
  ·obtain ⟨a, b, c, d, e, f⟩ := fitW_facts ks (fitL vs) [] [] rfl List.Pairwise.nil
   have hkl' : ks.length ≤ 8796093022000 := hkl
   have hvl' : vs.length ≤ 1759218604400 := hvl
   rw [fitL_length] at d
   simp only [List.length_nil, Nat.zero_add] at c d
   have f' : ∀ v, v ∈ (fitW ks (fitL vs) [] []).2 → SmallS v ∧ Fitted v := fun v h => by
    rcases f v h with h | h
    ·cases h
    ·exact hch v h
   refine ⟨.mk _ (Nat.zero_le _) (fun s h => ?_) (by show (fitW ks (fitL vs) [] []).1.length ≤ _; omega) (by show (fitW ks (fitL vs) [] []).2.length ≤ _; omega) (fun v h => (f' v h).1), .mk _ (.inl a) b (fun h => absurd rfl h) (fun _ => a) (fun v h => (f' v h).2)⟩
   rcases e s h with h | h
   ·cases h
   ·exact hk s h
  ·exact ⟨leaf_small _ _ _ (by first | exact ht | exact Nat.zero_le _), leaf_fitted _ _ _⟩
theorem Fitted.inStep {x : VS} (h : Fitted x) (hs : SmallS x) : InStep x := by
 cases h with
 | mk _ hl hr h5 hm hv =>
  cases hs with
  | mk _ _ hk hkl hvl _ =>
   refine ⟨?_, by omega⟩
   rcases hl with h | h
   ·omega
   ·rw [h]; exact Nat.zero_le _
theorem fitM_id {α : Type} : ∀ {l : List (Bs × α)}, Rises l → fitM l = l := by
 intro l
 have go : ∀ (r f : List (Bs × α)), Rises (f ++ r) → r.foldl (fun f p => mput f p.1 p.2) f = f ++ r := by
  intro r
  induction r with
  | nil => intro f _; simp
  | cons p r ih =>
   intro f h
   have hp : mput f p.1 p.2 = f ++ [p] := by
    have h1 := mput_ins (key := p.1) (v := p.2) f.length (f := f) ((List.pairwise_append.1 h).1) (fun j hj _ => (List.pairwise_append.1 h).2.2 _ (List.getElem_mem hj) p (by simp)) (Nat.le_refl _) (fun h => absurd h (Nat.lt_irrefl _))
    rw [h1, List.take_length, List.drop_length]
   rw [List.foldl_cons, hp, ih (f ++ [p]) (by simpa using h)]
   simp
 intro h
 have := go l [] (by simpa using h)
 simpa [fitM] using this
theorem pairs_rise {α : Type} {ks : List BA} : ∀ {ys : List α}, RiseK ks → Rises ((ks.map lb).zip ys) := by
 induction ks with
 | nil => intro ys _; exact List.Pairwise.nil
 | cons x r ih =>
  intro ys h
  cases ys with
  | nil => exact List.Pairwise.nil
  | cons y ys =>
   obtain ⟨h1, h2⟩ := List.pairwise_cons.1 h
   rw [List.map_cons, List.zip_cons_cons]
   refine List.pairwise_cons.2 ⟨fun p hp => ?_, ih h2⟩
   obtain ⟨a, b⟩ := p
   obtain ⟨s, hs, rfl⟩ := List.mem_map.1 (List.of_mem_zip hp).1
   exact h1 s hs
end Go.Proofs.YtaembebbaejfiaaGreatDoor.Tr
namespace Go.Proofs.YtaembebbaejfiaaGreatDoor.PS
open Go.RowKit Go.Proofs.YtaembebbaejfiaaGreatDoorW.PrintWords Go.Proofs.YtaembebbaejfiaaGreatDoorW.PrintLast Go.Proofs.YtaembebbaejfiaaGreatDoorW.PrintMore
attribute [local go_sem] max2_int min2_int max_two min_two max_three min_three max_four min_four 
set_option linter.unusedVariables false
set_option linter.unusedSimpArgs false
mutual
def laws_from.l0 : Nat → Int → Int → Int → ByteArray → List ByteArray → List (S45) → Int → Int → ByteArray → List ByteArray → List (S25) → Option (Int × Int × ByteArray × List ByteArray × (List (S25)))
 | 0, _, _, _, _, _, _, _, _, _, _, _ => none
 | k + 1, x4, x529000, x529001, x529002, x529003, x529004, x537000, x537001, x537002, x537003, x537004 => if x4 < (x529004.length : Int) then (if 0 ≤ x4 then ((laws_from.f k ((rd_T45 x529004 x4).f0) ((rd_T45 x529004 x4).f1) ((rd_T45 x529004 x4).f2) ((rd_T45 x529004 x4).f3) ((rd_T45 x529004 x4).f4)).bind fun bt538 => (if x537004.length < 1759218604441 then (laws_from.l0 k (wrap64 (x4 + 1)) x529000 x529001 x529002 x529003 x529004 x537000 x537001 x537002 x537003 (x537004 ++ [(⟨bt538.1, bt538.2.1, bt538.2.2.1, bt538.2.2.2.1, bt538.2.2.2.2⟩ : S25)])) else (none))) else (none)) else (some (x537000, x537001, x537002, x537003, x537004))
def laws_from.f : Nat → Int → Int → ByteArray → List ByteArray → List (S45) → Option (Int × Int × ByteArray × List ByteArray × (List (S25)))
 | 0, _, _, _, _, _ => none
 | k + 1, a0_0, a0_1, a0_2, l0_3, l0_4 => (some (([] : List ByteArray) : List ByteArray)).bind fun y530 => (if y530.length + l0_3.length < 8796093022208 then (laws_from.l0 k 0 a0_0 a0_1 a0_2 l0_3 l0_4 a0_0 a0_1 a0_2 (y530 ++ l0_3) ([] : List (S25))) else (none))
end
def laws_from.T1 : Bool × List (List Nat × List Nat) := (true, [([], []), ([0], [0]), ([], []), ([2], [2]), ([], []), ([4], [4]), ([], []), ([], []), ([7], [7]), ([6, 8], [6, 8]), ([1, 3, 5, 9], [1, 3, 5, 9]), ([], []), ([11, 10, 9, 0, 1, 2, 3, 4, 5, 6, 7, 8, 9, 10, 11], [10, 11])])
def laws_from.B1 : List Nat := [0, 1, 0, 4, 0, 16, 0, 0, 128, 448, 1023, 0, 4095]
theorem laws_from.tab1 : rtab .any (opsOf Tryz.f23 1) = laws_from.T1 := by kernel_rfl
theorem laws_from.bits1 : waitsOk laws_from.T1.2 laws_from.B1 = true := by kernel_rfl
def laws_from.T5 : Bool × List (List Nat × List Nat) := (true, [([], []), ([0], [0]), ([], []), ([2], [2]), ([], []), ([3, 4], [3, 4]), ([5], [5]), ([6], [6]), ([7], [7]), ([1, 8, 7], [1, 8]), ([0, 1, 2, 3, 4, 5, 6, 7, 8, 9], []), ([10, 9, 9, 0, 1, 2, 3, 4, 5, 6, 7, 8, 9], [9, 10])])
def laws_from.B5 : List Nat := [0, 1, 0, 4, 0, 28, 60, 124, 252, 511, 1023, 2047]
theorem laws_from.tab5 : rtab .any (opsOf Tryz.f23 5) = laws_from.T5 := by kernel_rfl
theorem laws_from.bits5 : waitsOk laws_from.T5.2 laws_from.B5 = true := by kernel_rfl
set_option maxHeartbeats 8000000 in
set_option maxRecDepth 100000 in
theorem laws_from.calls (k : Nat) : ∀ (a0_0 : Int) (a0_1 : Int) (a0_2 : ByteArray) (A0_3 : Option Addr) (c0_3 : Nat) (l0_3 : List ByteArray) (A0_4 : Option Addr) (c0_4 : Nat) (l0_4 : List (S45)) (r1 : Int) (r2 : Int) (r3 : ByteArray) (r4 : List ByteArray) (r5 : List (S25)) (w : World) (hr0_3 : Kd.C Kd.string w A0_3 l0_3.length l0_3) (hc0_3 : l0_3.length ≤ c0_3) (hr0_4 : Kd.C k45 w A0_4 l0_4.length l0_4) (hc0_4 : l0_4.length ≤ c0_4) (h : laws_from.f k a0_0 a0_1 a0_2 l0_3 l0_4 = some (r1, r2, r3, r4, r5)),
  Calls Tryz.prog 23 #[.agg #[.int .i64 a0_0, .int .i64 a0_1, .string a0_2, .slice A0_3 l0_3.length c0_3, .slice A0_4 l0_4.length c0_4]] w fun e w' => ∃ v3_ v4_ : Value, e = .returned (.agg #[.int .i64 r1, .int .i64 r2, .string r3, v3_, v4_]) ∧ Kd.R Kd.string 9 w' w.heap.size (fun _ => True) v3_ r4 ∧ Kd.R k25 25 w' w.heap.size (fun k_ => some k_ ≠ (v3_ : Value).ownBlock) v4_ r5 ∧ Below w.heap.size w w' := by
 induction k using Nat.strongRecOn with
 | _ k ih =>
 intro a0_0 a0_1 a0_2 A0_3 c0_3 l0_3 A0_4 c0_4 l0_4 r1 r2 r3 r4 r5 w hr0_3 hc0_3 hr0_4 hc0_4 h
 cases k with
 | zero => exact absurd h (by simp [laws_from.f])
 | succ k =>
 simp only [laws_from.f] at h
 have hu45 := Tryz.underlying45
 have hu25 := Tryz.underlying25
 have HR0_3 := aM hr0_3
 have HC0_3 := aM hc0_3
 clear hr0_3 hc0_3
 have HR0_4 := aM hr0_4
 have HC0_4 := aM hc0_4
 clear hr0_4 hc0_4
 have HB := aM (Below.refl w.heap.size w)
 have H : ((some (([] : List ByteArray) : List ByteArray)).bind fun y530 => (if y530.length + l0_3.length < 8796093022208 then (laws_from.l0 k 0 a0_0 a0_1 a0_2 l0_3 l0_4 a0_0 a0_1 a0_2 (y530 ++ l0_3) ([] : List (S25))) else (none))) = some (r1, r2, r3, r4, r5) := h
 clear h
 obtain ⟨y530, hy530⟩ : ∃ y_ : List ByteArray, y_ = (([] : List ByteArray)) := ⟨_, rfl⟩
 replace H : (if y530.length + l0_3.length < 8796093022208 then (laws_from.l0 k 0 a0_0 a0_1 a0_2 l0_3 l0_4 a0_0 a0_1 a0_2 (y530 ++ l0_3) ([] : List (S25))) else (none)) = some (r1, r2, r3, r4, r5) := by first | (rw [hy530]; with_reducible exact H) | (have H2_ := (Option.bind_some _ _).symm.trans H; rw [hy530]; with_reducible exact H2_) | (have H2_ := (Option.bind_some _ _).symm.trans H; with_reducible exact H2_) | with_reducible exact H | (rw [hy530]; exact H) | exact H
 have Ny530 := aM hy530
 clear hy530
 by_cases c2 : y530.length + l0_3.length < 8796093022208
 ·rw [if_pos c2] at H
  have LMc2 := aM c2
  clear c2
  obtain ⟨y533, hy533⟩ : ∃ y_ : List ByteArray, y_ = (y530 ++ l0_3) := ⟨_, rfl⟩
  replace H : (laws_from.l0 k 0 a0_0 a0_1 a0_2 l0_3 l0_4 a0_0 a0_1 a0_2 y533 ([] : List (S25))) = some (r1, r2, r3, r4, r5) := by first | (rw [hy533]; with_reducible exact H) | (have H2_ := (Option.bind_some _ _).symm.trans H; rw [hy533]; with_reducible exact H2_) | (have H2_ := (Option.bind_some _ _).symm.trans H; with_reducible exact H2_) | with_reducible exact H | (rw [hy533]; exact H) | exact H
  have Ny533 := aM hy533
  clear hy533
  have H' := aM H
  clear H
  go_enter Tryz.func23, Tryz.ntmps23
  try go_wp2_with (first | ((with_reducible refine gate_dst (N := 1) rfl ?_); refine box_event ?hg (N := 1) ?hd (cs := #[.int .i64 a0_0, .int .i64 a0_1, .string a0_2, .slice A0_3 l0_3.length c0_3, .slice A0_4 l0_4.length c0_4]) (t := 45) ?hr ?_; (case hd => rfl); (case hg => rfl); (case hr => first | (go_simp; done) | (go_simp; rfl)); intro gb528 hg w3 hbox hb; have n0_ := aM (below_step (by repeat (first | (with_reducible first | exact HB.out | apply below_alloc | apply pw_below_drewN | apply below_drew1) | exact HB.out)) hb); have n1_ := aM (hbox); have n2_ := aM ((by rw [hg]; exact (below_size (by repeat (first | (with_reducible first | exact HB.out | apply below_alloc | apply pw_below_drewN | apply below_drew1) | exact HB.out))) : w.heap.size ≤ gb528)); have n3_ := aM ((by rw [hg]; exact (below_size (by repeat (first | (with_reducible first | exact HB.out | apply below_alloc | apply pw_below_drewN | apply below_drew1) | exact HB.out))) : w.heap.size ≤ gb528)); clear HB; have HB := n0_; have BK528 := n1_; have GW528 := n2_; have GE528 := n3_; clear n0_ n1_ n2_ n3_; clear hb hbox hg) | ((with_reducible refine gate_dst (N := 2) rfl ?_); refine box_event ?hg (N := 2) ?hd (cs := #[.int .i64 0, .int .i64 0, .string (⟨#[]⟩ : ByteArray), .slice none 0 0, .slice none 0 0]) (t := 25) ?hr ?_; (case hd => rfl); (case hg => rfl); (case hr => first | (go_simp; done) | (go_simp; rfl)); intro gb529 hg w4 hbox hb; have n0_ := aM (blk_below (g := gb528) (o := .cells #[.int .i64 a0_0, .int .i64 a0_1, .string a0_2, .slice A0_3 l0_3.length c0_3, .slice A0_4 l0_4.length c0_4] 45 (0, 0)) (by (with_reducible repeat (first | refine blk_drewN ?_ _ | refine blk_drew ?_ | refine blk_alloc ?_ _)); exact BK528.out) hb); have n1_ := aM (below_step (by repeat (first | (with_reducible first | exact HB.out | apply below_alloc | apply pw_below_drewN | apply below_drew1 | refine below_set ?_ GE528.out) | exact HB.out)) hb); have n2_ := aM (hbox); have n3_ := aM ((by rw [hg]; exact (below_size (by repeat (first | (with_reducible first | exact HB.out | apply below_alloc | apply pw_below_drewN | apply below_drew1 | refine below_set ?_ GE528.out) | exact HB.out))) : w.heap.size ≤ gb529)); have n4_ := aM ((by rw [hg]; exact (below_size (by repeat (first | (with_reducible first | exact HB.out | apply below_alloc | apply pw_below_drewN | apply below_drew1 | refine below_set ?_ GE528.out) | exact HB.out))) : w.heap.size ≤ gb529)); have n5_ := aM ((by rw [hg]; exact Nat.ne_of_lt (blk_lt (g := gb528) (o := .cells #[.int .i64 a0_0, .int .i64 a0_1, .string a0_2, .slice A0_3 l0_3.length c0_3, .slice A0_4 l0_4.length c0_4] 45 (0, 0)) (by (with_reducible repeat (first | refine blk_drewN ?_ _ | refine blk_drew ?_ | refine blk_alloc ?_ _)); exact BK528.out)) : gb528 ≠ gb529)); have n6_ := aM ((by rw [hg]; exact Nat.ne_of_gt (blk_lt (g := gb528) (o := .cells #[.int .i64 a0_0, .int .i64 a0_1, .string a0_2, .slice A0_3 l0_3.length c0_3, .slice A0_4 l0_4.length c0_4] 45 (0, 0)) (by (with_reducible repeat (first | refine blk_drewN ?_ _ | refine blk_drew ?_ | refine blk_alloc ?_ _)); exact BK528.out)) : gb529 ≠ gb528)); clear BK528; clear HB; have BK528 := n0_; have HB := n1_; have BK529 := n2_; have GW529 := n3_; have GE529 := n4_; have NB528_529 := n5_; have NB529_528 := n6_; clear n0_ n1_ n2_ n3_ n4_ n5_ n6_; clear hb hbox hg))
  have n0_ := aM (blk_drew BK528.out)
  have n1_ := aM (blk_drew BK529.out)
  have n2_ := aM (below_drew1 HB.out)
  clear BK528 BK529 HB; have BK528 := n0_; have BK529 := n1_; have HB := n2_; clear n0_ n1_ n2_
  refine start_ (n := 13) (S := fun w' => w'.cell? ⟨gb528, 0, none⟩ = some (.int .i64 a0_0) ∧ w'.cell? ⟨gb528, 1, none⟩ = some (.int .i64 a0_1) ∧ w'.cell? ⟨gb528, 2, none⟩ = some (.string a0_2) ∧ w'.cell? ⟨gb528, 3, none⟩ = some (.slice A0_3 l0_3.length c0_3) ∧ w'.cell? ⟨gb528, 4, none⟩ = some (.slice A0_4 l0_4.length c0_4)) (ds := []) #[false, false, false, false, false, false, false, false, false, false, false, false, false] (by kernel_rfl) rfl rfl ⟨(blk_cell BK528.out 0).trans rfl, (blk_cell BK528.out 1).trans rfl, (blk_cell BK528.out 2).trans rfl, (blk_cell BK528.out 3).trans rfl, (blk_cell BK528.out 4).trans rfl⟩ (fun hHeld => ?_); refine with_tabW laws_from.tab1 laws_from.bits1 (fun HT_ HW_ => ?_)
  generalize w4.drew = w5 at BK528 BK529 HB hHeld ⊢
  refine pure_ (i := 0) (N := some 5) (v := ?_) (a' := ?_) #[true, false, false, false, false, false, false, false, false, false, false, false, false] rfl rfl (any_of HT_.out (by kernel_rfl)) (fun _ _ _ h => h) (Or.inl ⟨by rfl, ?_⟩) ?_ ?_
  rotate_left
  ·intro w'; go_simp; with_reducible rfl
  rotate_left
  ·simp only [Act.put, sA, sB, sC, i64_w, i32_w]; rfl
  refine pure_ (i := 2) (N := some 7) (v := ?_) (a' := ?_) #[true, false, true, false, false, false, false, false, false, false, false, false, false] rfl rfl (any_of HT_.out (by kernel_rfl)) (fun _ _ _ h => h) (Or.inl ⟨by rfl, ?_⟩) ?_ ?_
  rotate_left
  ·intro w'; go_simp; with_reducible rfl
  rotate_left
  ·simp only [Act.put, sA, sB, sC, i64_w, i32_w]; rfl
  refine pure_ (i := 4) (N := some 9) (v := ?_) (a' := ?_) #[true, false, true, false, true, false, false, false, false, false, false, false, false] rfl rfl (any_of HT_.out (by kernel_rfl)) (fun _ _ _ h => h) (Or.inl ⟨by rfl, ?_⟩) ?_ ?_
  rotate_left
  ·intro w'; go_simp; with_reducible rfl
  rotate_left
  ·simp only [Act.put, sA, sB, sC, i64_w, i32_w]; rfl
  refine pure_ (i := 7) (N := some 12) (v := ?_) (a' := ?_) #[true, false, true, false, true, false, false, true, false, false, false, false, false] rfl rfl (any_of HT_.out (by kernel_rfl)) (fun _ _ _ h => h) (Or.inl ⟨by rfl, ?_⟩) ?_ ?_
  rotate_left
  ·intro w'; go_simp; with_reducible rfl
  rotate_left
  ·simp only [Act.put, sA, sB, sC, i64_w, i32_w]; rfl
  refine take_ (i := 1) (N := some 6) (v := ?_) (a' := ?_) #[true, true, true, false, true, false, false, true, false, false, false, false, false] rfl rfl (take_ofW HT_.out HW_.out (by kernel_rfl)) (fun _ _ _ h => h) (Or.inl ⟨by rfl, ?_⟩) hHeld ?_ ?_
  rotate_left
  ·rintro w' ⟨s0, s1, s2, s3, s4⟩
   go_simp; with_reducible rfl
  rotate_left
  ·simp only [Act.put, sA, sB, sC, i64_w, i32_w]; rfl
  refine take_ (i := 3) (N := some 8) (v := ?_) (a' := ?_) #[true, true, true, true, true, false, false, true, false, false, false, false, false] rfl rfl (take_ofW HT_.out HW_.out (by kernel_rfl)) (fun _ _ _ h => h) (Or.inl ⟨by rfl, ?_⟩) hHeld ?_ ?_
  rotate_left
  ·rintro w' ⟨s0, s1, s2, s3, s4⟩
   go_simp; with_reducible rfl
  rotate_left
  ·simp only [Act.put, sA, sB, sC, i64_w, i32_w]; rfl
  refine take_ (i := 5) (N := some 10) (v := ?_) (a' := ?_) #[true, true, true, true, true, true, false, true, false, false, false, false, false] rfl rfl (take_ofW HT_.out HW_.out (by kernel_rfl)) (fun _ _ _ h => h) (Or.inl ⟨by rfl, ?_⟩) hHeld ?_ ?_
  rotate_left
  ·rintro w' ⟨s0, s1, s2, s3, s4⟩
   go_simp; with_reducible rfl
  rotate_left
  ·simp only [Act.put, sA, sB, sC, i64_w, i32_w]; rfl
  refine take_ (i := 8) (N := some 13) (v := ?_) (a' := ?_) #[true, true, true, true, true, true, false, true, true, false, false, false, false] rfl rfl (take_ofW HT_.out HW_.out (by kernel_rfl)) (fun _ _ _ h => h) (Or.inl ⟨by rfl, ?_⟩) hHeld ?_ ?_
  rotate_left
  ·rintro w' ⟨s0, s1, s2, s3, s4⟩
   go_simp; with_reducible rfl
  rotate_left
  ·simp only [Act.put, sA, sB, sC, i64_w, i32_w]; rfl
  refine join_ (σ := Value × Value × Nat) 1 #[true, true, true, true, true, true, true, true, true, true, true, true, false] (fun s_ => [(11, s_.1), (14, s_.2.1), (3, .pointer (some ⟨s_.2.2, 0, none⟩)), (15, .agg #[.int .i64 a0_0, .int .i64 a0_1, .string a0_2, s_.2.1, .slice none 0 0])]) (fun s_ w' => (w'.cell? ⟨gb528, 0, none⟩ = some (.int .i64 a0_0) ∧ w'.cell? ⟨gb528, 1, none⟩ = some (.int .i64 a0_1) ∧ w'.cell? ⟨gb528, 2, none⟩ = some (.string a0_2) ∧ w'.cell? ⟨gb528, 3, none⟩ = some (.slice A0_3 l0_3.length c0_3) ∧ w'.cell? ⟨gb528, 4, none⟩ = some (.slice A0_4 l0_4.length c0_4)) ∧ (Kd.R Kd.string 9 w' w.heap.size (fun _ => True) s_.2.1 y533) ∧ (w'.heap[gb528]? = some (.cells #[.int .i64 a0_0, .int .i64 a0_1, .string a0_2, .slice A0_3 l0_3.length c0_3, .slice A0_4 l0_4.length c0_4] 45 (0, 0))) ∧ (w'.heap[gb529]? = some (.cells #[.int .i64 0, .int .i64 0, .string (⟨#[]⟩ : ByteArray), .slice none 0 0, .slice none 0 0] 25 (0, 0))) ∧ (w'.heap[s_.2.2]? = some (.cells #[.int .i64 0, .int .i64 0, .string (⟨#[]⟩ : ByteArray), .slice none 0 0, .slice none 0 0] 25 (0, 0))) ∧ (w.heap.size ≤ s_.2.2) ∧ (w.heap.size ≤ s_.2.2) ∧ (gb528 ≠ s_.2.2) ∧ (s_.2.2 ≠ gb528) ∧ (gb529 ≠ s_.2.2) ∧ (s_.2.2 ≠ gb529) ∧ (Below w.heap.size w w')) ?_ ?_
  rotate_left
  ·intro hCont
   refine two_ (i := 6) (j := 11) (Ni := some 11) (Nj := some 3) #[true, true, true, true, true, true, true, true, true, false, false, false, false] #[true, true, true, true, true, true, false, true, true, false, false, true, false] rfl rfl rfl rfl (two_of HT_.out (by kernel_rfl)) (by decide) (by decide) (fun K hK => ?_) (fun K hK => ?_)
   ·skip
    refine Kd.R_lit_step Kd.string _ 9 ?hg (N := 11) ?hd (xs := ([] : List ByteArray)) (inner := []) (ok := fun _ => True) (okp := fun _ => True) ?hr ?hp (fun _ hk => hk) trivial (Below.refl _ _) (Nat.le_refl _) (by simp) ?_; (case hd => rfl); (case hg => rfl); (case hr => first | (go_simp; done) | (go_simp; rfl)); (case hp => exact (Reps.none _ _))
    intro v531 w6 ho7 hb hg_ hnew_; clear hg_ hnew_
    (first | rw [← Ny530.out] at ho7 | (simp only [Int.reduceToNat] at ho7; rw [← Ny530.out] at ho7))
    have n0_ := aM (Kd.R_lower ho7 (below_size (by repeat (first | (with_reducible first | exact HB.out | apply below_alloc | apply pw_below_drewN | apply below_drew1 | refine below_set ?_ GE528.out | refine below_set ?_ GE529.out) | exact HB.out))))
    have n1_ := aM (blk_below (g := gb528) (o := .cells #[.int .i64 a0_0, .int .i64 a0_1, .string a0_2, .slice A0_3 l0_3.length c0_3, .slice A0_4 l0_4.length c0_4] 45 (0, 0)) (by (with_reducible repeat (first | refine blk_drewN ?_ _ | refine blk_drew ?_ | refine blk_alloc ?_ _)); exact BK528.out) hb)
    have n2_ := aM (blk_below (g := gb529) (o := .cells #[.int .i64 0, .int .i64 0, .string (⟨#[]⟩ : ByteArray), .slice none 0 0, .slice none 0 0] 25 (0, 0)) (by (with_reducible repeat (first | refine blk_drewN ?_ _ | refine blk_drew ?_ | refine blk_alloc ?_ _)); exact BK529.out) hb)
    have n3_ := aM (below_step (by repeat (first | (with_reducible first | exact HB.out | apply below_alloc | apply pw_below_drewN | apply below_drew1 | refine below_set ?_ GE528.out | refine below_set ?_ GE529.out) | exact HB.out)) hb)
    clear BK528 BK529 HB; have HO532 := n0_; have BK528 := n1_; have BK529 := n2_; have HB := n3_; clear n0_ n1_ n2_ n3_ hb ho7
    refine hK.out _ _ ⟨(blk_cell BK528.out 0).trans rfl, (blk_cell BK528.out 1).trans rfl, (blk_cell BK528.out 2).trans rfl, (blk_cell BK528.out 3).trans rfl, (blk_cell BK528.out 4).trans rfl⟩ (fun hHeld => ?_)
    clear hK K
    refine norm_ (a' := ?_) ?_ ?_
    rotate_left
    ·show Act.put _ (some 11) _ = _
     simp only [Act.put, sA, sB, sC, i64_w, i32_w]; rfl
    refine two_ (i := 9) (j := 11) (Ni := some 14) (Nj := some 3) #[true, true, true, true, true, true, true, true, true, true, false, false, false] #[true, true, true, true, true, true, true, true, true, false, false, true, false] rfl rfl rfl rfl (two_of HT_.out (by kernel_rfl)) (by decide) (by decide) (fun K hK => ?_) (fun K hK => ?_)
    ·skip
     refine Kd.R_append_rows_step Kd.string (w0 := w) w.heap.size (by rfl) (.tmp 11) (.tmp 13) 22 9 (.string ⟨#[]⟩) 16 rfl Tryz.underlying22 info9 rfl (by decide) (by omega) v531 y530 l0_3 _ _ _ (fun _ => True) (fun _ => False) rfl rfl ?aO ?aR (fun _ _ h => h) (fun _ h => h.elim) ?aF ?aB ?aS ?aL ?_
     (case aR => repeat (first | exact (Kd.C_below HR0_3.out HB.out) | (with_reducible refine Kd.C_alloc ?_ _) | (with_reducible refine Kd.C_drewN ?_ _) | (with_reducible refine Kd.C_drew ?_)))
     (case aB => exact (by repeat (first | (with_reducible first | exact HB.out | apply below_alloc | apply pw_below_drewN | apply below_drew1 | refine below_set ?_ GE528.out | refine below_set ?_ GE529.out) | exact HB.out)))
     (case aF => exact (fun _ _ => trivial))
     (case aO => exact (by (with_reducible repeat (first | apply Kd.R_alloc | apply Kd.R_drewN | apply Kd.R_drew)); exact HO532.out))
     (case aS => exact (below_size (by repeat (first | (with_reducible first | exact HB.out | apply below_alloc | apply pw_below_drewN | apply below_drew1 | refine below_set ?_ GE528.out | refine below_set ?_ GE529.out) | exact HB.out))))
     (case aL => have := LMc2.out; omega)
     intro v534 w8 ho hb hg hat
     rw [← Ny533.out] at ho
     have n0_ := aM (blk_grown (g := gb528) (o := .cells #[.int .i64 a0_0, .int .i64 a0_1, .string a0_2, .slice A0_3 l0_3.length c0_3, .slice A0_4 l0_4.length c0_4] 45 (0, 0)) (by (with_reducible repeat (first | refine blk_drewN ?_ _ | refine blk_drew ?_ | refine blk_alloc ?_ _)); exact BK528.out) hg (Kd.R_ne HO532.out BK528.out (by decide)))
     have n1_ := aM (blk_grown (g := gb529) (o := .cells #[.int .i64 0, .int .i64 0, .string (⟨#[]⟩ : ByteArray), .slice none 0 0, .slice none 0 0] 25 (0, 0)) (by (with_reducible repeat (first | refine blk_drewN ?_ _ | refine blk_drew ?_ | refine blk_alloc ?_ _)); exact BK529.out) hg (Kd.R_ne HO532.out BK529.out (by decide)))
     have n2_ := aM (hb)
     have n3_ := aM (ho)
     clear BK528 BK529 HB HO532; have BK528 := n0_; have BK529 := n1_; have HB := n2_; have HO535 := n3_; clear n0_ n1_ n2_ n3_ ho hb hg hat
     obtain ⟨Ao9, co9, eo9⟩ := Kd.R_slice HO535.out
     (first | subst eo9 | (injection eo9 with f1_ f2_ f3_; have f4_ := f1_.symm; have f5_ := f3_.symm; clear f1_ f2_ f3_; subst f4_; subst f5_))
     refine hK.out _ _ ⟨(blk_cell BK528.out 0).trans rfl, (blk_cell BK528.out 1).trans rfl, (blk_cell BK528.out 2).trans rfl, (blk_cell BK528.out 3).trans rfl, (blk_cell BK528.out 4).trans rfl⟩ (fun hHeld => ?_)
     clear hK K
     refine norm_ (a' := ?_) ?_ ?_
     rotate_left
     ·show Act.put _ (some 14) _ = _
      simp only [Act.put, sA, sB, sC, i64_w, i32_w]; rfl
     refine pure_ (i := 10) (N := some 15) (v := ?_) (a' := ?_) #[true, true, true, true, true, true, true, true, true, true, true, false, false] rfl rfl (any_of HT_.out (by kernel_rfl)) (fun _ _ _ h => h) (Or.inl ⟨by rfl, ?_⟩) ?_ ?_
     rotate_left
     ·intro w'; go_simp; with_reducible rfl
     rotate_left
     ·simp only [Act.put, sA, sB, sC, i64_w, i32_w]; rfl
     refine one_ (i := 11) (N := some 3) #[true, true, true, true, true, true, true, true, true, true, true, true, false] rfl rfl (one_of HT_.out (by kernel_rfl)) (by decide) (fun K hK => ?_)
     refine box_step ?hg (N := 3) ?hd (cs := #[.int .i64 0, .int .i64 0, .string (⟨#[]⟩ : ByteArray), .slice none 0 0, .slice none 0 0]) (t := 25) ?hr ?_; (case hd => rfl); (case hg => rfl); (case hr => first | (go_simp; done) | (go_simp; rfl))
     intro gb536 hg w10 hbox hb
     have n0_ := aM (Kd.R_below (by (with_reducible repeat (first | apply Kd.R_alloc | apply Kd.R_drewN | apply Kd.R_drew)); exact HO535.out) hb)
     have n1_ := aM (blk_below (g := gb528) (o := .cells #[.int .i64 a0_0, .int .i64 a0_1, .string a0_2, .slice A0_3 l0_3.length c0_3, .slice A0_4 l0_4.length c0_4] 45 (0, 0)) (by (with_reducible repeat (first | refine blk_drewN ?_ _ | refine blk_drew ?_ | refine blk_alloc ?_ _)); exact BK528.out) hb)
     have n2_ := aM (blk_below (g := gb529) (o := .cells #[.int .i64 0, .int .i64 0, .string (⟨#[]⟩ : ByteArray), .slice none 0 0, .slice none 0 0] 25 (0, 0)) (by (with_reducible repeat (first | refine blk_drewN ?_ _ | refine blk_drew ?_ | refine blk_alloc ?_ _)); exact BK529.out) hb)
     have n3_ := aM (below_step (by repeat (first | (with_reducible first | exact HB.out | apply below_alloc | apply pw_below_drewN | apply below_drew1 | refine below_set ?_ GE528.out | refine below_set ?_ GE529.out) | exact HB.out)) hb)
     have n4_ := aM (hbox)
     have n5_ := aM ((by rw [hg]; exact (below_size (by repeat (first | (with_reducible first | exact HB.out | apply below_alloc | apply pw_below_drewN | apply below_drew1 | refine below_set ?_ GE528.out | refine below_set ?_ GE529.out) | exact HB.out))) : w.heap.size ≤ gb536))
     have n6_ := aM ((by rw [hg]; exact (below_size (by repeat (first | (with_reducible first | exact HB.out | apply below_alloc | apply pw_below_drewN | apply below_drew1 | refine below_set ?_ GE528.out | refine below_set ?_ GE529.out) | exact HB.out))) : w.heap.size ≤ gb536))
     have n7_ := aM ((by rw [hg]; exact Nat.ne_of_lt (blk_lt (g := gb528) (o := .cells #[.int .i64 a0_0, .int .i64 a0_1, .string a0_2, .slice A0_3 l0_3.length c0_3, .slice A0_4 l0_4.length c0_4] 45 (0, 0)) (by (with_reducible repeat (first | refine blk_drewN ?_ _ | refine blk_drew ?_ | refine blk_alloc ?_ _)); exact BK528.out)) : gb528 ≠ gb536))
     have n8_ := aM ((by rw [hg]; exact Nat.ne_of_gt (blk_lt (g := gb528) (o := .cells #[.int .i64 a0_0, .int .i64 a0_1, .string a0_2, .slice A0_3 l0_3.length c0_3, .slice A0_4 l0_4.length c0_4] 45 (0, 0)) (by (with_reducible repeat (first | refine blk_drewN ?_ _ | refine blk_drew ?_ | refine blk_alloc ?_ _)); exact BK528.out)) : gb536 ≠ gb528))
     have n9_ := aM ((by rw [hg]; exact Nat.ne_of_lt (blk_lt (g := gb529) (o := .cells #[.int .i64 0, .int .i64 0, .string (⟨#[]⟩ : ByteArray), .slice none 0 0, .slice none 0 0] 25 (0, 0)) (by (with_reducible repeat (first | refine blk_drewN ?_ _ | refine blk_drew ?_ | refine blk_alloc ?_ _)); exact BK529.out)) : gb529 ≠ gb536))
     have n10_ := aM ((by rw [hg]; exact Nat.ne_of_gt (blk_lt (g := gb529) (o := .cells #[.int .i64 0, .int .i64 0, .string (⟨#[]⟩ : ByteArray), .slice none 0 0, .slice none 0 0] 25 (0, 0)) (by (with_reducible repeat (first | refine blk_drewN ?_ _ | refine blk_drew ?_ | refine blk_alloc ?_ _)); exact BK529.out)) : gb536 ≠ gb529))
     clear HO535 BK528 BK529 HB; have HO535 := n0_; have BK528 := n1_; have BK529 := n2_; have HB := n3_; have BK536 := n4_; have GW536 := n5_; have GE536 := n6_; have NB528_536 := n7_; have NB536_528 := n8_; have NB529_536 := n9_; have NB536_529 := n10_; clear n0_ n1_ n2_ n3_ n4_ n5_ n6_ n7_ n8_ n9_ n10_ hb hbox hg
     refine hK.out _ _ ⟨(blk_cell BK528.out 0).trans rfl, (blk_cell BK528.out 1).trans rfl, (blk_cell BK528.out 2).trans rfl, (blk_cell BK528.out 3).trans rfl, (blk_cell BK528.out 4).trans rfl⟩ (fun hHeld => ?_)
     clear hK K
     refine norm_ (a' := ?_) ?_ ?_
     rotate_left
     ·show Act.put _ (some 3) _ = _
      simp only [Act.put, sA, sB, sC, i64_w, i32_w]; rfl
     exact norm_ (by simp only [putAll, Act.put, sA, sB, sC]) (hCont (v531, .slice Ao9 y533.length co9, gb536) _ ⟨hHeld, (by (with_reducible repeat (first | apply Kd.R_alloc | apply Kd.R_drewN | apply Kd.R_drew)); exact HO535.out), (by (with_reducible repeat (first | refine blk_drewN ?_ _ | refine blk_drew ?_ | refine blk_alloc ?_ _)); exact BK528.out), (by (with_reducible repeat (first | refine blk_drewN ?_ _ | refine blk_drew ?_ | refine blk_alloc ?_ _)); exact BK529.out), (by (with_reducible repeat (first | refine blk_drewN ?_ _ | refine blk_drew ?_ | refine blk_alloc ?_ _)); exact BK536.out), GW536.out, GE536.out, NB528_536.out, NB536_528.out, NB529_536.out, NB536_529.out, (by repeat (first | (with_reducible first | exact HB.out | apply below_alloc | apply pw_below_drewN | apply below_drew1 | refine below_set ?_ GE528.out | refine below_set ?_ GE529.out | refine below_set ?_ GE536.out) | exact HB.out))⟩)
    ·skip
     refine box_step ?hg (N := 3) ?hd (cs := #[.int .i64 0, .int .i64 0, .string (⟨#[]⟩ : ByteArray), .slice none 0 0, .slice none 0 0]) (t := 25) ?hr ?_; (case hd => rfl); (case hg => rfl); (case hr => first | (go_simp; done) | (go_simp; rfl))
     intro gb536 hg w8 hbox hb
     have n0_ := aM (Kd.R_below (by (with_reducible repeat (first | apply Kd.R_alloc | apply Kd.R_drewN | apply Kd.R_drew)); exact HO532.out) hb)
     have n1_ := aM (blk_below (g := gb528) (o := .cells #[.int .i64 a0_0, .int .i64 a0_1, .string a0_2, .slice A0_3 l0_3.length c0_3, .slice A0_4 l0_4.length c0_4] 45 (0, 0)) (by (with_reducible repeat (first | refine blk_drewN ?_ _ | refine blk_drew ?_ | refine blk_alloc ?_ _)); exact BK528.out) hb)
     have n2_ := aM (blk_below (g := gb529) (o := .cells #[.int .i64 0, .int .i64 0, .string (⟨#[]⟩ : ByteArray), .slice none 0 0, .slice none 0 0] 25 (0, 0)) (by (with_reducible repeat (first | refine blk_drewN ?_ _ | refine blk_drew ?_ | refine blk_alloc ?_ _)); exact BK529.out) hb)
     have n3_ := aM (below_step (by repeat (first | (with_reducible first | exact HB.out | apply below_alloc | apply pw_below_drewN | apply below_drew1 | refine below_set ?_ GE528.out | refine below_set ?_ GE529.out) | exact HB.out)) hb)
     have n4_ := aM (hbox)
     have n5_ := aM ((by rw [hg]; exact (below_size (by repeat (first | (with_reducible first | exact HB.out | apply below_alloc | apply pw_below_drewN | apply below_drew1 | refine below_set ?_ GE528.out | refine below_set ?_ GE529.out) | exact HB.out))) : w.heap.size ≤ gb536))
     have n6_ := aM ((by rw [hg]; exact (below_size (by repeat (first | (with_reducible first | exact HB.out | apply below_alloc | apply pw_below_drewN | apply below_drew1 | refine below_set ?_ GE528.out | refine below_set ?_ GE529.out) | exact HB.out))) : w.heap.size ≤ gb536))
     have n7_ := aM ((by rw [hg]; exact Nat.ne_of_lt (blk_lt (g := gb528) (o := .cells #[.int .i64 a0_0, .int .i64 a0_1, .string a0_2, .slice A0_3 l0_3.length c0_3, .slice A0_4 l0_4.length c0_4] 45 (0, 0)) (by (with_reducible repeat (first | refine blk_drewN ?_ _ | refine blk_drew ?_ | refine blk_alloc ?_ _)); exact BK528.out)) : gb528 ≠ gb536))
     have n8_ := aM ((by rw [hg]; exact Nat.ne_of_gt (blk_lt (g := gb528) (o := .cells #[.int .i64 a0_0, .int .i64 a0_1, .string a0_2, .slice A0_3 l0_3.length c0_3, .slice A0_4 l0_4.length c0_4] 45 (0, 0)) (by (with_reducible repeat (first | refine blk_drewN ?_ _ | refine blk_drew ?_ | refine blk_alloc ?_ _)); exact BK528.out)) : gb536 ≠ gb528))
     have n9_ := aM ((by rw [hg]; exact Nat.ne_of_lt (blk_lt (g := gb529) (o := .cells #[.int .i64 0, .int .i64 0, .string (⟨#[]⟩ : ByteArray), .slice none 0 0, .slice none 0 0] 25 (0, 0)) (by (with_reducible repeat (first | refine blk_drewN ?_ _ | refine blk_drew ?_ | refine blk_alloc ?_ _)); exact BK529.out)) : gb529 ≠ gb536))
     have n10_ := aM ((by rw [hg]; exact Nat.ne_of_gt (blk_lt (g := gb529) (o := .cells #[.int .i64 0, .int .i64 0, .string (⟨#[]⟩ : ByteArray), .slice none 0 0, .slice none 0 0] 25 (0, 0)) (by (with_reducible repeat (first | refine blk_drewN ?_ _ | refine blk_drew ?_ | refine blk_alloc ?_ _)); exact BK529.out)) : gb536 ≠ gb529))
     clear HO532 BK528 BK529 HB; have HO532 := n0_; have BK528 := n1_; have BK529 := n2_; have HB := n3_; have BK536 := n4_; have GW536 := n5_; have GE536 := n6_; have NB528_536 := n7_; have NB536_528 := n8_; have NB529_536 := n9_; have NB536_529 := n10_; clear n0_ n1_ n2_ n3_ n4_ n5_ n6_ n7_ n8_ n9_ n10_ hb hbox hg
     refine hK.out _ _ ⟨(blk_cell BK528.out 0).trans rfl, (blk_cell BK528.out 1).trans rfl, (blk_cell BK528.out 2).trans rfl, (blk_cell BK528.out 3).trans rfl, (blk_cell BK528.out 4).trans rfl⟩ (fun hHeld => ?_)
     clear hK K
     refine norm_ (a' := ?_) ?_ ?_
     rotate_left
     ·show Act.put _ (some 3) _ = _
      simp only [Act.put, sA, sB, sC, i64_w, i32_w]; rfl
     refine one_ (i := 9) (N := some 14) #[true, true, true, true, true, true, true, true, true, true, false, true, false] rfl rfl (one_of HT_.out (by kernel_rfl)) (by decide) (fun K hK => ?_)
     refine Kd.R_append_rows_step Kd.string (w0 := w) w.heap.size (by rfl) (.tmp 11) (.tmp 13) 22 9 (.string ⟨#[]⟩) 16 rfl Tryz.underlying22 info9 rfl (by decide) (by omega) v531 y530 l0_3 _ _ _ (fun _ => True) (fun _ => False) rfl rfl ?aO ?aR (fun _ _ h => h) (fun _ h => h.elim) ?aF ?aB ?aS ?aL ?_
     (case aR => repeat (first | exact (Kd.C_below HR0_3.out HB.out) | (with_reducible refine Kd.C_alloc ?_ _) | (with_reducible refine Kd.C_drewN ?_ _) | (with_reducible refine Kd.C_drew ?_)))
     (case aB => exact (by repeat (first | (with_reducible first | exact HB.out | apply below_alloc | apply pw_below_drewN | apply below_drew1 | refine below_set ?_ GE528.out | refine below_set ?_ GE529.out | refine below_set ?_ GE536.out) | exact HB.out)))
     (case aF => exact (fun _ _ => trivial))
     (case aO => exact (by (with_reducible repeat (first | apply Kd.R_alloc | apply Kd.R_drewN | apply Kd.R_drew)); exact HO532.out))
     (case aS => exact (below_size (by repeat (first | (with_reducible first | exact HB.out | apply below_alloc | apply pw_below_drewN | apply below_drew1 | refine below_set ?_ GE528.out | refine below_set ?_ GE529.out | refine below_set ?_ GE536.out) | exact HB.out))))
     (case aL => have := LMc2.out; omega)
     intro v534 w9 ho hb hg hat
     rw [← Ny533.out] at ho
     have n0_ := aM (blk_grown (g := gb528) (o := .cells #[.int .i64 a0_0, .int .i64 a0_1, .string a0_2, .slice A0_3 l0_3.length c0_3, .slice A0_4 l0_4.length c0_4] 45 (0, 0)) (by (with_reducible repeat (first | refine blk_drewN ?_ _ | refine blk_drew ?_ | refine blk_alloc ?_ _)); exact BK528.out) hg (Kd.R_ne HO532.out BK528.out (by decide)))
     have n1_ := aM (blk_grown (g := gb529) (o := .cells #[.int .i64 0, .int .i64 0, .string (⟨#[]⟩ : ByteArray), .slice none 0 0, .slice none 0 0] 25 (0, 0)) (by (with_reducible repeat (first | refine blk_drewN ?_ _ | refine blk_drew ?_ | refine blk_alloc ?_ _)); exact BK529.out) hg (Kd.R_ne HO532.out BK529.out (by decide)))
     have n2_ := aM (blk_grown (g := gb536) (o := .cells #[.int .i64 0, .int .i64 0, .string (⟨#[]⟩ : ByteArray), .slice none 0 0, .slice none 0 0] 25 (0, 0)) (by (with_reducible repeat (first | refine blk_drewN ?_ _ | refine blk_drew ?_ | refine blk_alloc ?_ _)); exact BK536.out) hg (Kd.R_ne HO532.out BK536.out (by decide)))
     have n3_ := aM (hb)
     have n4_ := aM (ho)
     clear BK528 BK529 BK536 HB HO532; have BK528 := n0_; have BK529 := n1_; have BK536 := n2_; have HB := n3_; have HO535 := n4_; clear n0_ n1_ n2_ n3_ n4_ ho hb hg hat
     obtain ⟨Ao10, co10, eo10⟩ := Kd.R_slice HO535.out
     (first | subst eo10 | (injection eo10 with f1_ f2_ f3_; have f4_ := f1_.symm; have f5_ := f3_.symm; clear f1_ f2_ f3_; subst f4_; subst f5_))
     refine hK.out _ _ ⟨(blk_cell BK528.out 0).trans rfl, (blk_cell BK528.out 1).trans rfl, (blk_cell BK528.out 2).trans rfl, (blk_cell BK528.out 3).trans rfl, (blk_cell BK528.out 4).trans rfl⟩ (fun hHeld => ?_)
     clear hK K
     refine norm_ (a' := ?_) ?_ ?_
     rotate_left
     ·show Act.put _ (some 14) _ = _
      simp only [Act.put, sA, sB, sC, i64_w, i32_w]; rfl
     refine pure_ (i := 10) (N := some 15) (v := ?_) (a' := ?_) #[true, true, true, true, true, true, true, true, true, true, true, true, false] rfl rfl (any_of HT_.out (by kernel_rfl)) (fun _ _ _ h => h) (Or.inl ⟨by rfl, ?_⟩) ?_ ?_
     rotate_left
     ·intro w'; go_simp; with_reducible rfl
     rotate_left
     ·simp only [Act.put, sA, sB, sC, i64_w, i32_w]; rfl
     exact norm_ (by simp only [putAll, Act.put, sA, sB, sC]) (hCont (v531, .slice Ao10 y533.length co10, gb536) _ ⟨hHeld, (by (with_reducible repeat (first | apply Kd.R_alloc | apply Kd.R_drewN | apply Kd.R_drew)); exact HO535.out), (by (with_reducible repeat (first | refine blk_drewN ?_ _ | refine blk_drew ?_ | refine blk_alloc ?_ _)); exact BK528.out), (by (with_reducible repeat (first | refine blk_drewN ?_ _ | refine blk_drew ?_ | refine blk_alloc ?_ _)); exact BK529.out), (by (with_reducible repeat (first | refine blk_drewN ?_ _ | refine blk_drew ?_ | refine blk_alloc ?_ _)); exact BK536.out), GW536.out, GE536.out, NB528_536.out, NB536_528.out, NB529_536.out, NB536_529.out, (by repeat (first | (with_reducible first | exact HB.out | apply below_alloc | apply pw_below_drewN | apply below_drew1 | refine below_set ?_ GE528.out | refine below_set ?_ GE529.out | refine below_set ?_ GE536.out) | exact HB.out))⟩)
   ·skip
    refine box_step ?hg (N := 3) ?hd (cs := #[.int .i64 0, .int .i64 0, .string (⟨#[]⟩ : ByteArray), .slice none 0 0, .slice none 0 0]) (t := 25) ?hr ?_; (case hd => rfl); (case hg => rfl); (case hr => first | (go_simp; done) | (go_simp; rfl))
    intro gb536 hg w6 hbox hb
    have n0_ := aM (blk_below (g := gb528) (o := .cells #[.int .i64 a0_0, .int .i64 a0_1, .string a0_2, .slice A0_3 l0_3.length c0_3, .slice A0_4 l0_4.length c0_4] 45 (0, 0)) (by (with_reducible repeat (first | refine blk_drewN ?_ _ | refine blk_drew ?_ | refine blk_alloc ?_ _)); exact BK528.out) hb)
    have n1_ := aM (blk_below (g := gb529) (o := .cells #[.int .i64 0, .int .i64 0, .string (⟨#[]⟩ : ByteArray), .slice none 0 0, .slice none 0 0] 25 (0, 0)) (by (with_reducible repeat (first | refine blk_drewN ?_ _ | refine blk_drew ?_ | refine blk_alloc ?_ _)); exact BK529.out) hb)
    have n2_ := aM (below_step (by repeat (first | (with_reducible first | exact HB.out | apply below_alloc | apply pw_below_drewN | apply below_drew1 | refine below_set ?_ GE528.out | refine below_set ?_ GE529.out) | exact HB.out)) hb)
    have n3_ := aM (hbox)
    have n4_ := aM ((by rw [hg]; exact (below_size (by repeat (first | (with_reducible first | exact HB.out | apply below_alloc | apply pw_below_drewN | apply below_drew1 | refine below_set ?_ GE528.out | refine below_set ?_ GE529.out) | exact HB.out))) : w.heap.size ≤ gb536))
    have n5_ := aM ((by rw [hg]; exact (below_size (by repeat (first | (with_reducible first | exact HB.out | apply below_alloc | apply pw_below_drewN | apply below_drew1 | refine below_set ?_ GE528.out | refine below_set ?_ GE529.out) | exact HB.out))) : w.heap.size ≤ gb536))
    have n6_ := aM ((by rw [hg]; exact Nat.ne_of_lt (blk_lt (g := gb528) (o := .cells #[.int .i64 a0_0, .int .i64 a0_1, .string a0_2, .slice A0_3 l0_3.length c0_3, .slice A0_4 l0_4.length c0_4] 45 (0, 0)) (by (with_reducible repeat (first | refine blk_drewN ?_ _ | refine blk_drew ?_ | refine blk_alloc ?_ _)); exact BK528.out)) : gb528 ≠ gb536))
    have n7_ := aM ((by rw [hg]; exact Nat.ne_of_gt (blk_lt (g := gb528) (o := .cells #[.int .i64 a0_0, .int .i64 a0_1, .string a0_2, .slice A0_3 l0_3.length c0_3, .slice A0_4 l0_4.length c0_4] 45 (0, 0)) (by (with_reducible repeat (first | refine blk_drewN ?_ _ | refine blk_drew ?_ | refine blk_alloc ?_ _)); exact BK528.out)) : gb536 ≠ gb528))
    have n8_ := aM ((by rw [hg]; exact Nat.ne_of_lt (blk_lt (g := gb529) (o := .cells #[.int .i64 0, .int .i64 0, .string (⟨#[]⟩ : ByteArray), .slice none 0 0, .slice none 0 0] 25 (0, 0)) (by (with_reducible repeat (first | refine blk_drewN ?_ _ | refine blk_drew ?_ | refine blk_alloc ?_ _)); exact BK529.out)) : gb529 ≠ gb536))
    have n9_ := aM ((by rw [hg]; exact Nat.ne_of_gt (blk_lt (g := gb529) (o := .cells #[.int .i64 0, .int .i64 0, .string (⟨#[]⟩ : ByteArray), .slice none 0 0, .slice none 0 0] 25 (0, 0)) (by (with_reducible repeat (first | refine blk_drewN ?_ _ | refine blk_drew ?_ | refine blk_alloc ?_ _)); exact BK529.out)) : gb536 ≠ gb529))
    clear BK528 BK529 HB; have BK528 := n0_; have BK529 := n1_; have HB := n2_; have BK536 := n3_; have GW536 := n4_; have GE536 := n5_; have NB528_536 := n6_; have NB536_528 := n7_; have NB529_536 := n8_; have NB536_529 := n9_; clear n0_ n1_ n2_ n3_ n4_ n5_ n6_ n7_ n8_ n9_ hb hbox hg
    refine hK.out _ _ ⟨(blk_cell BK528.out 0).trans rfl, (blk_cell BK528.out 1).trans rfl, (blk_cell BK528.out 2).trans rfl, (blk_cell BK528.out 3).trans rfl, (blk_cell BK528.out 4).trans rfl⟩ (fun hHeld => ?_)
    clear hK K
    refine norm_ (a' := ?_) ?_ ?_
    rotate_left
    ·show Act.put _ (some 3) _ = _
     simp only [Act.put, sA, sB, sC, i64_w, i32_w]; rfl
    refine one_ (i := 6) (N := some 11) #[true, true, true, true, true, true, true, true, true, false, false, true, false] rfl rfl (one_of HT_.out (by kernel_rfl)) (by decide) (fun K hK => ?_)
    refine Kd.R_lit_step Kd.string _ 9 ?hg (N := 11) ?hd (xs := ([] : List ByteArray)) (inner := []) (ok := fun _ => True) (okp := fun _ => True) ?hr ?hp (fun _ hk => hk) trivial (Below.refl _ _) (Nat.le_refl _) (by simp) ?_; (case hd => rfl); (case hg => rfl); (case hr => first | (go_simp; done) | (go_simp; rfl)); (case hp => exact (Reps.none _ _))
    intro v531 w7 ho8 hb hg_ hnew_; clear hg_ hnew_
    (first | rw [← Ny530.out] at ho8 | (simp only [Int.reduceToNat] at ho8; rw [← Ny530.out] at ho8))
    have n0_ := aM (Kd.R_lower ho8 (below_size (by repeat (first | (with_reducible first | exact HB.out | apply below_alloc | apply pw_below_drewN | apply below_drew1 | refine below_set ?_ GE528.out | refine below_set ?_ GE529.out | refine below_set ?_ GE536.out) | exact HB.out))))
    have n1_ := aM (blk_below (g := gb528) (o := .cells #[.int .i64 a0_0, .int .i64 a0_1, .string a0_2, .slice A0_3 l0_3.length c0_3, .slice A0_4 l0_4.length c0_4] 45 (0, 0)) (by (with_reducible repeat (first | refine blk_drewN ?_ _ | refine blk_drew ?_ | refine blk_alloc ?_ _)); exact BK528.out) hb)
    have n2_ := aM (blk_below (g := gb529) (o := .cells #[.int .i64 0, .int .i64 0, .string (⟨#[]⟩ : ByteArray), .slice none 0 0, .slice none 0 0] 25 (0, 0)) (by (with_reducible repeat (first | refine blk_drewN ?_ _ | refine blk_drew ?_ | refine blk_alloc ?_ _)); exact BK529.out) hb)
    have n3_ := aM (blk_below (g := gb536) (o := .cells #[.int .i64 0, .int .i64 0, .string (⟨#[]⟩ : ByteArray), .slice none 0 0, .slice none 0 0] 25 (0, 0)) (by (with_reducible repeat (first | refine blk_drewN ?_ _ | refine blk_drew ?_ | refine blk_alloc ?_ _)); exact BK536.out) hb)
    have n4_ := aM (below_step (by repeat (first | (with_reducible first | exact HB.out | apply below_alloc | apply pw_below_drewN | apply below_drew1 | refine below_set ?_ GE528.out | refine below_set ?_ GE529.out | refine below_set ?_ GE536.out) | exact HB.out)) hb)
    clear BK528 BK529 BK536 HB; have HO532 := n0_; have BK528 := n1_; have BK529 := n2_; have BK536 := n3_; have HB := n4_; clear n0_ n1_ n2_ n3_ n4_ hb ho8
    refine hK.out _ _ ⟨(blk_cell BK528.out 0).trans rfl, (blk_cell BK528.out 1).trans rfl, (blk_cell BK528.out 2).trans rfl, (blk_cell BK528.out 3).trans rfl, (blk_cell BK528.out 4).trans rfl⟩ (fun hHeld => ?_)
    clear hK K
    refine norm_ (a' := ?_) ?_ ?_
    rotate_left
    ·show Act.put _ (some 11) _ = _
     simp only [Act.put, sA, sB, sC, i64_w, i32_w]; rfl
    refine one_ (i := 9) (N := some 14) #[true, true, true, true, true, true, true, true, true, true, false, true, false] rfl rfl (one_of HT_.out (by kernel_rfl)) (by decide) (fun K hK => ?_)
    refine Kd.R_append_rows_step Kd.string (w0 := w) w.heap.size (by rfl) (.tmp 11) (.tmp 13) 22 9 (.string ⟨#[]⟩) 16 rfl Tryz.underlying22 info9 rfl (by decide) (by omega) v531 y530 l0_3 _ _ _ (fun _ => True) (fun _ => False) rfl rfl ?aO ?aR (fun _ _ h => h) (fun _ h => h.elim) ?aF ?aB ?aS ?aL ?_
    (case aR => repeat (first | exact (Kd.C_below HR0_3.out HB.out) | (with_reducible refine Kd.C_alloc ?_ _) | (with_reducible refine Kd.C_drewN ?_ _) | (with_reducible refine Kd.C_drew ?_)))
    (case aB => exact (by repeat (first | (with_reducible first | exact HB.out | apply below_alloc | apply pw_below_drewN | apply below_drew1 | refine below_set ?_ GE528.out | refine below_set ?_ GE529.out | refine below_set ?_ GE536.out) | exact HB.out)))
    (case aF => exact (fun _ _ => trivial))
    (case aO => exact (by (with_reducible repeat (first | apply Kd.R_alloc | apply Kd.R_drewN | apply Kd.R_drew)); exact HO532.out))
    (case aS => exact (below_size (by repeat (first | (with_reducible first | exact HB.out | apply below_alloc | apply pw_below_drewN | apply below_drew1 | refine below_set ?_ GE528.out | refine below_set ?_ GE529.out | refine below_set ?_ GE536.out) | exact HB.out))))
    (case aL => have := LMc2.out; omega)
    intro v534 w9 ho hb hg hat
    rw [← Ny533.out] at ho
    have n0_ := aM (blk_grown (g := gb528) (o := .cells #[.int .i64 a0_0, .int .i64 a0_1, .string a0_2, .slice A0_3 l0_3.length c0_3, .slice A0_4 l0_4.length c0_4] 45 (0, 0)) (by (with_reducible repeat (first | refine blk_drewN ?_ _ | refine blk_drew ?_ | refine blk_alloc ?_ _)); exact BK528.out) hg (Kd.R_ne HO532.out BK528.out (by decide)))
    have n1_ := aM (blk_grown (g := gb529) (o := .cells #[.int .i64 0, .int .i64 0, .string (⟨#[]⟩ : ByteArray), .slice none 0 0, .slice none 0 0] 25 (0, 0)) (by (with_reducible repeat (first | refine blk_drewN ?_ _ | refine blk_drew ?_ | refine blk_alloc ?_ _)); exact BK529.out) hg (Kd.R_ne HO532.out BK529.out (by decide)))
    have n2_ := aM (blk_grown (g := gb536) (o := .cells #[.int .i64 0, .int .i64 0, .string (⟨#[]⟩ : ByteArray), .slice none 0 0, .slice none 0 0] 25 (0, 0)) (by (with_reducible repeat (first | refine blk_drewN ?_ _ | refine blk_drew ?_ | refine blk_alloc ?_ _)); exact BK536.out) hg (Kd.R_ne HO532.out BK536.out (by decide)))
    have n3_ := aM (hb)
    have n4_ := aM (ho)
    clear BK528 BK529 BK536 HB HO532; have BK528 := n0_; have BK529 := n1_; have BK536 := n2_; have HB := n3_; have HO535 := n4_; clear n0_ n1_ n2_ n3_ n4_ ho hb hg hat
    obtain ⟨Ao10, co10, eo10⟩ := Kd.R_slice HO535.out
    (first | subst eo10 | (injection eo10 with f1_ f2_ f3_; have f4_ := f1_.symm; have f5_ := f3_.symm; clear f1_ f2_ f3_; subst f4_; subst f5_))
    refine hK.out _ _ ⟨(blk_cell BK528.out 0).trans rfl, (blk_cell BK528.out 1).trans rfl, (blk_cell BK528.out 2).trans rfl, (blk_cell BK528.out 3).trans rfl, (blk_cell BK528.out 4).trans rfl⟩ (fun hHeld => ?_)
    clear hK K
    refine norm_ (a' := ?_) ?_ ?_
    rotate_left
    ·show Act.put _ (some 14) _ = _
     simp only [Act.put, sA, sB, sC, i64_w, i32_w]; rfl
    refine pure_ (i := 10) (N := some 15) (v := ?_) (a' := ?_) #[true, true, true, true, true, true, true, true, true, true, true, true, false] rfl rfl (any_of HT_.out (by kernel_rfl)) (fun _ _ _ h => h) (Or.inl ⟨by rfl, ?_⟩) ?_ ?_
    rotate_left
    ·intro w'; go_simp; with_reducible rfl
    rotate_left
    ·simp only [Act.put, sA, sB, sC, i64_w, i32_w]; rfl
    exact norm_ (by simp only [putAll, Act.put, sA, sB, sC]) (hCont (v531, .slice Ao10 y533.length co10, gb536) _ ⟨hHeld, (by (with_reducible repeat (first | apply Kd.R_alloc | apply Kd.R_drewN | apply Kd.R_drew)); exact HO535.out), (by (with_reducible repeat (first | refine blk_drewN ?_ _ | refine blk_drew ?_ | refine blk_alloc ?_ _)); exact BK528.out), (by (with_reducible repeat (first | refine blk_drewN ?_ _ | refine blk_drew ?_ | refine blk_alloc ?_ _)); exact BK529.out), (by (with_reducible repeat (first | refine blk_drewN ?_ _ | refine blk_drew ?_ | refine blk_alloc ?_ _)); exact BK536.out), GW536.out, GE536.out, NB528_536.out, NB536_528.out, NB529_536.out, NB536_529.out, (by repeat (first | (with_reducible first | exact HB.out | apply below_alloc | apply pw_below_drewN | apply below_drew1 | refine below_set ?_ GE528.out | refine below_set ?_ GE529.out | refine below_set ?_ GE536.out) | exact HB.out))⟩)
  rintro ⟨v531, v534, gb536⟩ w11 ⟨hS_, h0_, h1_, h2_, h3_, h4_, h5_, h6_, h7_, h8_, h9_, h10_⟩
  have n0_ : Aside0 (Kd.R Kd.string 9 w11 w.heap.size (fun _ => True) v534 y533) := ⟨h0_⟩
  have n1_ : Aside0 (w11.heap[gb528]? = some (.cells #[.int .i64 a0_0, .int .i64 a0_1, .string a0_2, .slice A0_3 l0_3.length c0_3, .slice A0_4 l0_4.length c0_4] 45 (0, 0))) := ⟨h1_⟩
  have n2_ : Aside0 (w11.heap[gb529]? = some (.cells #[.int .i64 0, .int .i64 0, .string (⟨#[]⟩ : ByteArray), .slice none 0 0, .slice none 0 0] 25 (0, 0))) := ⟨h2_⟩
  have n3_ : Aside0 (w11.heap[gb536]? = some (.cells #[.int .i64 0, .int .i64 0, .string (⟨#[]⟩ : ByteArray), .slice none 0 0, .slice none 0 0] 25 (0, 0))) := ⟨h3_⟩
  have n4_ : Aside0 (w.heap.size ≤ gb536) := ⟨h4_⟩
  have n5_ : Aside0 (w.heap.size ≤ gb536) := ⟨h5_⟩
  have n6_ : Aside0 (gb528 ≠ gb536) := ⟨h6_⟩
  have n7_ : Aside0 (gb536 ≠ gb528) := ⟨h7_⟩
  have n8_ : Aside0 (gb529 ≠ gb536) := ⟨h8_⟩
  have n9_ : Aside0 (gb536 ≠ gb529) := ⟨h9_⟩
  have n10_ : Aside0 (Below w.heap.size w w11) := ⟨h10_⟩
  clear BK528 BK529 HB h0_ h1_ h2_ h3_ h4_ h5_ h6_ h7_ h8_ h9_ h10_; have HO535 := n0_; have BK528 := n1_; have BK529 := n2_; have BK536 := n3_; have GW536 := n4_; have GE536 := n5_; have NB528_536 := n6_; have NB536_528 := n7_; have NB529_536 := n8_; have NB536_529 := n9_; have HB := n10_; clear n0_ n1_ n2_ n3_ n4_ n5_ n6_ n7_ n8_ n9_ n10_
  have hHeld : w11.cell? ⟨gb528, 0, none⟩ = some (.int .i64 a0_0) ∧ w11.cell? ⟨gb528, 1, none⟩ = some (.int .i64 a0_1) ∧ w11.cell? ⟨gb528, 2, none⟩ = some (.string a0_2) ∧ w11.cell? ⟨gb528, 3, none⟩ = some (.slice A0_3 l0_3.length c0_3) ∧ w11.cell? ⟨gb528, 4, none⟩ = some (.slice A0_4 l0_4.length c0_4) := hS_
  obtain ⟨Ao12, co12, eo12⟩ := Kd.R_slice HO535.out
  (first | subst eo12 | (injection eo12 with f1_ f2_ f3_; have f4_ := f1_.symm; have f5_ := f3_.symm; clear f1_ f2_ f3_; subst f4_; subst f5_))
  refine norm_ (a' := ?_) ?_ ?_
  rotate_left
  ·simp only [putAll, Act.put, sA, sB, sC]
   rfl
  refine one_ (i := 12) (N := none) #[true, true, true, true, true, true, true, true, true, true, true, true, true] rfl rfl (one_of HT_.out (by kernel_rfl)) (by decide) (fun K hK => ?_)
  have hs13 : w11.cell? ⟨gb536, 0, none⟩ = some (.int .i64 0) := (blk_cell BK536.out 0).trans rfl
  have hfs13 := blk_frozen BK536.out 0
  have hns13_0 := NB528_536.out
  have hns13_1 := NB529_536.out
  have hms13_0 := NB536_528.out
  have hms13_1 := NB536_529.out
  have hs14 : w11.cell? ⟨gb536, 1, none⟩ = some (.int .i64 0) := (blk_cell BK536.out 1).trans rfl
  have hfs14 := blk_frozen BK536.out 1
  have hns14_0 := NB528_536.out
  have hns14_1 := NB529_536.out
  have hms14_0 := NB536_528.out
  have hms14_1 := NB536_529.out
  have hs15 : w11.cell? ⟨gb536, 2, none⟩ = some (.string (⟨#[]⟩ : ByteArray)) := (blk_cell BK536.out 2).trans rfl
  have hfs15 := blk_frozen BK536.out 2
  have hns15_0 := NB528_536.out
  have hns15_1 := NB529_536.out
  have hms15_0 := NB536_528.out
  have hms15_1 := NB536_529.out
  have hs16 : w11.cell? ⟨gb536, 3, none⟩ = some (.slice none 0 0) := (blk_cell BK536.out 3).trans rfl
  have hfs16 := blk_frozen BK536.out 3
  have hns16_0 := NB528_536.out
  have hns16_1 := NB529_536.out
  have hms16_0 := NB536_528.out
  have hms16_1 := NB536_529.out
  have hs17 : w11.cell? ⟨gb536, 4, none⟩ = some (.slice none 0 0) := (blk_cell BK536.out 4).trans rfl
  have hfs17 := blk_frozen BK536.out 4
  have hns17_0 := NB528_536.out
  have hns17_1 := NB529_536.out
  have hms17_0 := NB536_528.out
  have hms17_1 := NB536_529.out
  refine skip_ (w1 := ?_) (by rfl) rfl ?_ ?_
  rotate_left
  ·go_simp; rfl
  refine hK.out _ _ ⟨((cell_far (p := ⟨gb536, _, none⟩) NB528_536.out _).trans (((cell_far (p := ⟨gb536, _, none⟩) NB528_536.out _).trans (((cell_far (p := ⟨gb536, _, none⟩) NB528_536.out _).trans (((cell_far (p := ⟨gb536, _, none⟩) NB528_536.out _).trans (((cell_far (p := ⟨gb536, _, none⟩) NB528_536.out _).trans (hHeld.1)))))))))), ((cell_far (p := ⟨gb536, _, none⟩) NB528_536.out _).trans (((cell_far (p := ⟨gb536, _, none⟩) NB528_536.out _).trans (((cell_far (p := ⟨gb536, _, none⟩) NB528_536.out _).trans (((cell_far (p := ⟨gb536, _, none⟩) NB528_536.out _).trans (((cell_far (p := ⟨gb536, _, none⟩) NB528_536.out _).trans (hHeld.2.1)))))))))), ((cell_far (p := ⟨gb536, _, none⟩) NB528_536.out _).trans (((cell_far (p := ⟨gb536, _, none⟩) NB528_536.out _).trans (((cell_far (p := ⟨gb536, _, none⟩) NB528_536.out _).trans (((cell_far (p := ⟨gb536, _, none⟩) NB528_536.out _).trans (((cell_far (p := ⟨gb536, _, none⟩) NB528_536.out _).trans (hHeld.2.2.1)))))))))), ((cell_far (p := ⟨gb536, _, none⟩) NB528_536.out _).trans (((cell_far (p := ⟨gb536, _, none⟩) NB528_536.out _).trans (((cell_far (p := ⟨gb536, _, none⟩) NB528_536.out _).trans (((cell_far (p := ⟨gb536, _, none⟩) NB528_536.out _).trans (((cell_far (p := ⟨gb536, _, none⟩) NB528_536.out _).trans (hHeld.2.2.2.1)))))))))), ((cell_far (p := ⟨gb536, _, none⟩) NB528_536.out _).trans (((cell_far (p := ⟨gb536, _, none⟩) NB528_536.out _).trans (((cell_far (p := ⟨gb536, _, none⟩) NB528_536.out _).trans (((cell_far (p := ⟨gb536, _, none⟩) NB528_536.out _).trans (((cell_far (p := ⟨gb536, _, none⟩) NB528_536.out _).trans (hHeld.2.2.2.2))))))))))⟩ (fun hHeld => ?_)
  clear hK K
  refine done_ (done_of HT_.out (by kernel_rfl)) ?_
  try go_wp2
  go_loopg [4] k (fun kq v4 w' => ∃ (x4_1 : Int) (x537004_1 : List (S25)) (u537004 : Value), v4 = .int .i64 x4_1 ∧ Aside0 (laws_from.l0 kq x4_1 a0_0 a0_1 a0_2 l0_3 l0_4 a0_0 a0_1 a0_2 y533 x537004_1 = some (r1, r2, r3, r4, r5)) ∧ Aside0 (kq ≤ k) ∧ Aside0 (Kd.R Kd.string 9 w' w.heap.size (fun _ => True) (.slice Ao12 y533.length co12) y533) ∧ Aside0 (Kd.R k25 25 w' w.heap.size (fun k_ => some k_ ≠ ((.slice Ao12 y533.length co12) : Value).ownBlock ∧ k_ ≠ gb529 ∧ k_ ≠ gb536) u537004 x537004_1) ∧ Aside0 (w'.heap[gb528]? = some (.cells #[.int .i64 a0_0, .int .i64 a0_1, .string a0_2, (.slice A0_3 l0_3.length c0_3), (.slice A0_4 l0_4.length c0_4)] 45 (0, 0))) ∧ Aside0 (w'.heap[gb529]? = some (.cells #[.int .i64 0, .int .i64 0, .string (⟨#[]⟩ : ByteArray), (.slice none 0 0), (.slice none 0 0)] 25 (0, 0))) ∧ Aside0 (w'.heap[gb536]? = some (.cells #[.int .i64 a0_0, .int .i64 a0_1, .string a0_2, (.slice Ao12 y533.length co12), u537004] 25 (0, 0))) ∧ Aside0 (Below w.heap.size w w'))
  case atStart => exact ⟨(0), (([] : List (S25))), (.slice none 0 0), (by first | rfl | (simp; done) | (simp [*]; done)), H', ⟨Nat.le_refl _⟩, ⟨by (with_reducible repeat (first | apply Kd.R_alloc | apply Kd.R_drewN | apply Kd.R_drew)); exact Kd.R_mono (Kd.R_far (p := ⟨gb536, 4, none⟩) (Kd.R_far (p := ⟨gb536, 3, none⟩) (Kd.R_far (p := ⟨gb536, 2, none⟩) (Kd.R_far (p := ⟨gb536, 1, none⟩) (Kd.R_far (p := ⟨gb536, 0, none⟩) (Kd.R_types HO535.out BK536.out (by decide)) (fun _ hk => hk.2) (.int .i64 a0_0)) (fun _ hk => hk.2) (.int .i64 a0_1)) (fun _ hk => hk.2) (.string a0_2)) (fun _ hk => hk.2) (.slice Ao12 y533.length co12)) (fun _ hk => hk.2) (.slice none 0 0)) (fun _ hk => trivial)⟩, ⟨by first | exact Kd.R_nil _ _ _ _ _ | exact Kd.N_nil _ _ _ _ _ | exact Kd.V_nil _ _ _ _ _ | exact Kd.Q_nil _ _ _ _ _ | exact Kd.S_nil _ _ _ _ _⟩, ⟨by (with_reducible repeat (first | refine blk_drewN ?_ _ | refine blk_drew ?_ | refine blk_alloc ?_ _)); refine blk_far ?_ NB528_536.out _; (with_reducible repeat (first | refine blk_drewN ?_ _ | refine blk_drew ?_ | refine blk_alloc ?_ _)); refine blk_far ?_ NB528_536.out _; (with_reducible repeat (first | refine blk_drewN ?_ _ | refine blk_drew ?_ | refine blk_alloc ?_ _)); refine blk_far ?_ NB528_536.out _; (with_reducible repeat (first | refine blk_drewN ?_ _ | refine blk_drew ?_ | refine blk_alloc ?_ _)); refine blk_far ?_ NB528_536.out _; (with_reducible repeat (first | refine blk_drewN ?_ _ | refine blk_drew ?_ | refine blk_alloc ?_ _)); refine blk_far ?_ NB528_536.out _; (with_reducible repeat (first | refine blk_drewN ?_ _ | refine blk_drew ?_ | refine blk_alloc ?_ _)); exact BK528.out⟩, ⟨by (with_reducible repeat (first | refine blk_drewN ?_ _ | refine blk_drew ?_ | refine blk_alloc ?_ _)); refine blk_far ?_ NB529_536.out _; (with_reducible repeat (first | refine blk_drewN ?_ _ | refine blk_drew ?_ | refine blk_alloc ?_ _)); refine blk_far ?_ NB529_536.out _; (with_reducible repeat (first | refine blk_drewN ?_ _ | refine blk_drew ?_ | refine blk_alloc ?_ _)); refine blk_far ?_ NB529_536.out _; (with_reducible repeat (first | refine blk_drewN ?_ _ | refine blk_drew ?_ | refine blk_alloc ?_ _)); refine blk_far ?_ NB529_536.out _; (with_reducible repeat (first | refine blk_drewN ?_ _ | refine blk_drew ?_ | refine blk_alloc ?_ _)); refine blk_far ?_ NB529_536.out _; (with_reducible repeat (first | refine blk_drewN ?_ _ | refine blk_drew ?_ | refine blk_alloc ?_ _)); exact BK529.out⟩, ⟨by (with_reducible repeat (first | refine blk_drewN ?_ _ | refine blk_drew ?_ | refine blk_alloc ?_ _)); refine blk_put (cs := #[.int .i64 a0_0, .int .i64 a0_1, .string a0_2, .slice Ao12 y533.length co12, .slice none 0 0]) ?_ 4 _ rfl; (with_reducible repeat (first | refine blk_drewN ?_ _ | refine blk_drew ?_ | refine blk_alloc ?_ _)); refine blk_put (cs := #[.int .i64 a0_0, .int .i64 a0_1, .string a0_2, .slice none 0 0, .slice none 0 0]) ?_ 3 _ rfl; (with_reducible repeat (first | refine blk_drewN ?_ _ | refine blk_drew ?_ | refine blk_alloc ?_ _)); refine blk_put (cs := #[.int .i64 a0_0, .int .i64 a0_1, .string (⟨#[]⟩ : ByteArray), .slice none 0 0, .slice none 0 0]) ?_ 2 _ rfl; (with_reducible repeat (first | refine blk_drewN ?_ _ | refine blk_drew ?_ | refine blk_alloc ?_ _)); refine blk_put (cs := #[.int .i64 a0_0, .int .i64 0, .string (⟨#[]⟩ : ByteArray), .slice none 0 0, .slice none 0 0]) ?_ 1 _ rfl; (with_reducible repeat (first | refine blk_drewN ?_ _ | refine blk_drew ?_ | refine blk_alloc ?_ _)); refine blk_put (cs := #[.int .i64 0, .int .i64 0, .string (⟨#[]⟩ : ByteArray), .slice none 0 0, .slice none 0 0]) ?_ 0 _ rfl; (with_reducible repeat (first | refine blk_drewN ?_ _ | refine blk_drew ?_ | refine blk_alloc ?_ _)); exact BK536.out⟩, ⟨by repeat (first | (with_reducible first | exact HB.out | apply below_alloc | apply pw_below_drewN | apply below_drew1 | refine below_set ?_ GE528.out | refine below_set ?_ GE529.out | refine below_set ?_ GE536.out) | exact HB.out)⟩⟩
  case round =>
   clear H'
   try clear c2
   try clear p2
   obtain ⟨x4_1, x537004_1, u537004, rfl, HA, HK1, HO_537003, HO_537004, BK528, BK529, BK536, HB⟩ := hrel
   cases gk with
   | zero => exact absurd HA.out (by simp [laws_from.l0])
   | succ k1 =>
    have H := HA.out
    clear HA
    simp only [laws_from.l0] at H
    by_cases c18 : x4_1 < (l0_4.length : Int)
    ·rw [if_pos c18] at H
     have c18b0 : decide (x4_1 < (l0_4.length : Int)) = true := decide_eq_true c18
     clear c18
     by_cases c19 : 0 ≤ x4_1
     ·rw [if_pos c19] at H
      have c19b0 : decide (0 ≤ x4_1) = true := decide_eq_true c19
      clear c19
      replace H := Option.bind_eq_some_iff.mp H
      obtain ⟨⟨t538, t539, t540, t541, t544⟩, A200, H⟩ := H
      replace H : (if x537004_1.length < 1759218604441 then (laws_from.l0 k1 (wrap64 (x4_1 + 1)) a0_0 a0_1 a0_2 l0_3 l0_4 a0_0 a0_1 a0_2 y533 (x537004_1 ++ [(⟨t538, t539, t540, t541, t544⟩ : S25)])) else (none)) = some (r1, r2, r3, r4, r5) := H
      have A20 := aM A200
      clear A200
      by_cases c21 : x537004_1.length < 1759218604441
      ·rw [if_pos c21] at H
       have LMc21 := aM c21
       clear c21
       obtain ⟨y547, hy547⟩ : ∃ y_ : List (S25), y_ = (x537004_1 ++ [(⟨t538, t539, t540, t541, t544⟩ : S25)]) := ⟨_, rfl⟩
       replace H : (laws_from.l0 k1 (wrap64 (x4_1 + 1)) a0_0 a0_1 a0_2 l0_3 l0_4 a0_0 a0_1 a0_2 y533 y547) = some (r1, r2, r3, r4, r5) := by first | (rw [hy547]; with_reducible exact H) | (have H2_ := (Option.bind_some _ _).symm.trans H; rw [hy547]; with_reducible exact H2_) | (have H2_ := (Option.bind_some _ _).symm.trans H; with_reducible exact H2_) | with_reducible exact H | (rw [hy547]; exact H) | exact H
       have Ny547 := aM hy547
       clear hy547
       have H' := aM H
       clear H
       have hnb22 := NB528_529.out
       have hnc22 := NB529_528.out
       have hnb23 := NB528_536.out
       have hnc23 := NB536_528.out
       have hcz24_0 : wr.cell? ⟨gb528, 0, none⟩ = some (.int .i64 a0_0) := (blk_cell BK528.out 0).trans rfl
       have hcz24_1 : wr.cell? ⟨gb528, 1, none⟩ = some (.int .i64 a0_1) := (blk_cell BK528.out 1).trans rfl
       have hcz24_2 : wr.cell? ⟨gb528, 2, none⟩ = some (.string a0_2) := (blk_cell BK528.out 2).trans rfl
       have hcz24_3 : wr.cell? ⟨gb528, 3, none⟩ = some (.slice A0_3 l0_3.length c0_3) := (blk_cell BK528.out 3).trans rfl
       have hcz24_4 : wr.cell? ⟨gb528, 4, none⟩ = some (.slice A0_4 l0_4.length c0_4) := (blk_cell BK528.out 4).trans rfl
       have hfz24_0 := blk_frozen BK528.out 0
       have hfz24_1 := blk_frozen BK528.out 1
       have hfz24_2 := blk_frozen BK528.out 2
       have hfz24_3 := blk_frozen BK528.out 3
       have hfz24_4 := blk_frozen BK528.out 4
       try go_wp2
       have n0_ := aM (Kd.R_drew HO_537003.out)
       have n1_ := aM (Kd.R_drew HO_537004.out)
       have n2_ := aM (blk_drew BK528.out)
       have n3_ := aM (blk_drew BK529.out)
       have n4_ := aM (blk_drew BK536.out)
       have n5_ := aM (below_drew1 HB.out)
       clear HO_537003 HO_537004 BK528 BK529 BK536 HB; have HO_537003 := n0_; have HO_537004 := n1_; have BK528 := n2_; have BK529 := n3_; have BK536 := n4_; have HB := n5_; clear n0_ n1_ n2_ n3_ n4_ n5_
       have p537 : 0 ≤ (x4_1 : Int) := of_decide_eq_true (by first | (with_reducible assumption) | assumption)
       have q537 : x4_1 < (l0_4.length : Int) := of_decide_eq_true (by first | (with_reducible assumption) | assumption)
       obtain ⟨ad537, A537_3, c537_3, A537_4, c537_4, e537, hx537_0, hx537_1, hx537_2, hx537_3, hx537_4, hl537_3, hi537_3, hl537_4, hi537_4⟩ := at_T45 HR0_4.out x4_1 p537 q537
       have hw537_4 := hx537_4
       have hw537_3 := hx537_3
       have hw537_2 := hx537_2
       have hw537_1 := hx537_1
       have hw537_0 := hx537_0
       cases e537
       replace hx537_0 := (HB.out.cell (World.block_lt_of_cell? w _ hx537_0)).trans hx537_0
       replace hx537_1 := (HB.out.cell (World.block_lt_of_cell? w _ hx537_1)).trans hx537_1
       replace hx537_2 := (HB.out.cell (World.block_lt_of_cell? w _ hx537_2)).trans hx537_2
       replace hx537_3 := (HB.out.cell (World.block_lt_of_cell? w _ hx537_3)).trans hx537_3
       replace hx537_4 := (HB.out.cell (World.block_lt_of_cell? w _ hx537_4)).trans hx537_4
       have HR537_3 := aM hi537_3
       have HC537_3 := aM hl537_3
       clear hi537_3 hl537_3
       have HR537_4 := aM hi537_4
       have HC537_4 := aM hl537_4
       clear hi537_4 hl537_4
       replace p537 := eq_true p537
       replace q537 := eq_true q537
       refine start_ (n := 12) (S := fun w' => w'.cell? ⟨gb536, 0, none⟩ = some (.int .i64 a0_0) ∧ w'.cell? ⟨gb536, 1, none⟩ = some (.int .i64 a0_1) ∧ w'.cell? ⟨gb536, 2, none⟩ = some (.string a0_2) ∧ w'.cell? ⟨gb536, 3, none⟩ = some (.slice Ao12 y533.length co12) ∧ w'.cell? ⟨gb536, 4, none⟩ = some (u537004) ∧ w'.cell? ⟨gb528, 0, none⟩ = some (.int .i64 a0_0) ∧ w'.cell? ⟨gb528, 1, none⟩ = some (.int .i64 a0_1) ∧ w'.cell? ⟨gb528, 2, none⟩ = some (.string a0_2) ∧ w'.cell? ⟨gb528, 3, none⟩ = some (.slice A0_3 l0_3.length c0_3) ∧ w'.cell? ⟨gb528, 4, none⟩ = some (.slice (some ad537) l0_4.length c0_4) ∧ w'.cell? (ad537.add ((x4_1).toNat * 5)) = some (.int .i64 ((rd_T45 l0_4 x4_1).f0)) ∧ w'.cell? ⟨(ad537.add ((x4_1).toNat * 5)).block, (ad537.add ((x4_1).toNat * 5)).off + 1, none⟩ = some (.int .i64 ((rd_T45 l0_4 x4_1).f1)) ∧ w'.cell? ⟨(ad537.add ((x4_1).toNat * 5)).block, (ad537.add ((x4_1).toNat * 5)).off + 2, none⟩ = some (.string ((rd_T45 l0_4 x4_1).f2)) ∧ w'.cell? ⟨(ad537.add ((x4_1).toNat * 5)).block, (ad537.add ((x4_1).toNat * 5)).off + 3, none⟩ = some (.slice A537_3 ((rd_T45 l0_4 x4_1).f3).length c537_3) ∧ w'.cell? ⟨(ad537.add ((x4_1).toNat * 5)).block, (ad537.add ((x4_1).toNat * 5)).off + 4, none⟩ = some (.slice A537_4 ((rd_T45 l0_4 x4_1).f4).length c537_4)) (ds := [11]) #[false, false, false, false, false, false, false, false, false, false, false, false] (by kernel_rfl) rfl rfl ⟨(blk_cell BK536.out 0).trans rfl, (blk_cell BK536.out 1).trans rfl, (blk_cell BK536.out 2).trans rfl, (blk_cell BK536.out 3).trans rfl, (blk_cell BK536.out 4).trans rfl, (blk_cell BK528.out 0).trans rfl, (blk_cell BK528.out 1).trans rfl, (blk_cell BK528.out 2).trans rfl, (blk_cell BK528.out 3).trans rfl, (blk_cell BK528.out 4).trans rfl, ((HB.out.cell (World.block_lt_of_cell? w _ hw537_0)).trans hw537_0), ((HB.out.cell (World.block_lt_of_cell? w _ hw537_1)).trans hw537_1), ((HB.out.cell (World.block_lt_of_cell? w _ hw537_2)).trans hw537_2), ((HB.out.cell (World.block_lt_of_cell? w _ hw537_3)).trans hw537_3), ((HB.out.cell (World.block_lt_of_cell? w _ hw537_4)).trans hw537_4)⟩ (fun hHeld => ?_); refine with_tabW laws_from.tab5 laws_from.bits5 (fun HT_ HW_ => ?_)
       generalize wr.drew = w25 at HO_537003 HO_537004 BK528 BK529 BK536 HB HR537_3 HR537_4 hx537_0 hx537_1 hx537_2 hx537_3 hx537_4 hHeld ⊢
       refine pure_ (i := 0) (N := some 23) (v := ?_) (a' := ?_) #[true, false, false, false, false, false, false, false, false, false, false, false] rfl rfl (any_of HT_.out (by kernel_rfl)) (fun _ _ _ h => h) (Or.inl ⟨by rfl, ?_⟩) ?_ ?_
       rotate_left
       ·intro w'; go_simp; with_reducible rfl
       rotate_left
       ·simp only [Act.put, sA, sB, sC, i64_w, i32_w]; rfl
       refine pure_ (i := 2) (N := some 25) (v := ?_) (a' := ?_) #[true, false, true, false, false, false, false, false, false, false, false, false] rfl rfl (any_of HT_.out (by kernel_rfl)) (fun _ _ _ h => h) (Or.inl ⟨by rfl, ?_⟩) ?_ ?_
       rotate_left
       ·intro w'; go_simp; with_reducible rfl
       rotate_left
       ·simp only [Act.put, sA, sB, sC, i64_w, i32_w]; rfl
       refine pure_ (i := 4) (N := some 27) (v := ?_) (a' := ?_) #[true, false, true, false, true, false, false, false, false, false, false, false] rfl rfl (any_of HT_.out (by kernel_rfl)) (fun _ _ _ h => h) (Or.inl ⟨by rfl, ?_⟩) ?_ ?_
       rotate_left
       ·intro w'; go_simp; with_reducible rfl
       rotate_left
       ·simp only [Act.put, sA, sB, sC, i64_w, i32_w]; rfl
       refine take_ (i := 1) (N := some 24) (v := ?_) (a' := ?_) #[true, true, true, false, true, false, false, false, false, false, false, false] rfl rfl (take_ofW HT_.out HW_.out (by kernel_rfl)) (fun _ _ _ h => h) (Or.inl ⟨by rfl, ?_⟩) hHeld ?_ ?_
       rotate_left
       ·rintro w' ⟨s0, s1, s2, s3, s4, s5, s6, s7, s8, s9, s10, s11, s12, s13, s14⟩
        go_simp; with_reducible rfl
       rotate_left
       ·simp only [Act.put, sA, sB, sC, i64_w, i32_w]; rfl
       refine take_ (i := 3) (N := some 26) (v := ?_) (a' := ?_) #[true, true, true, true, true, false, false, false, false, false, false, false] rfl rfl (take_ofW HT_.out HW_.out (by kernel_rfl)) (fun _ _ _ h => h) (Or.inl ⟨by rfl, ?_⟩) hHeld ?_ ?_
       rotate_left
       ·rintro w' ⟨s0, s1, s2, s3, s4, s5, s6, s7, s8, s9, s10, s11, s12, s13, s14⟩
        go_simp; with_reducible rfl
       rotate_left
       ·simp only [Act.put, sA, sB, sC, i64_w, i32_w]; rfl
       refine pure_ (i := 5) (N := some 28) (v := ?_) (a' := ?_) #[true, true, true, true, true, true, false, false, false, false, false, false] rfl rfl (any_of HT_.out (by kernel_rfl)) (fun _ _ _ h => h) (Or.inl ⟨by rfl, ?_⟩) ?_ ?_
       rotate_left
       ·intro w'; go_simp; with_reducible rfl
       rotate_left
       ·simp only [Act.put, sA, sB, sC, i64_w, i32_w]; rfl
       refine take_ (i := 6) (N := some 29) (v := ?_) (a' := ?_) #[true, true, true, true, true, true, true, false, false, false, false, false] rfl rfl (take_ofW HT_.out HW_.out (by kernel_rfl)) (fun _ _ _ h => h) (Or.inl ⟨by rfl, ?_⟩) hHeld ?_ ?_
       rotate_left
       ·rintro w' ⟨s0, s1, s2, s3, s4, s5, s6, s7, s8, s9, s10, s11, s12, s13, s14⟩
        go_simp; with_reducible rfl
       rotate_left
       ·simp only [Act.put, sA, sB, sC, i64_w, i32_w]; rfl
       refine one_ (i := 7) (N := some 30) #[true, true, true, true, true, true, true, true, false, false, false, false] rfl rfl (one_of HT_.out (by kernel_rfl)) (by decide) (fun K hK => ?_)
       refine goes_ Tryz.func23 (by kernel_rfl) rfl #[.agg #[.int .i64 ((rd_T45 l0_4 x4_1).f0), .int .i64 ((rd_T45 l0_4 x4_1).f1), .string ((rd_T45 l0_4 x4_1).f2), .slice A537_3 ((rd_T45 l0_4 x4_1).f3).length c537_3, .slice A537_4 ((rd_T45 l0_4 x4_1).f4).length c537_4]] (by rfl) rfl rfl (by (try simp only [List.map_toArray, List.map_cons, List.map_nil]); first | done | rfl | (simp only [List.length_drop, List.length_take]; rfl)) ?_
       with_reducible refine (ih k1 (by have := HK1.out; omega) ((rd_T45 l0_4 x4_1).f0) ((rd_T45 l0_4 x4_1).f1) ((rd_T45 l0_4 x4_1).f2) _ _ ((rd_T45 l0_4 x4_1).f3) _ _ ((rd_T45 l0_4 x4_1).f4) t538 t539 t540 t541 t544 _ ?side1 ?side2 ?side3 ?side4 A20.out).mono ?_
       (case side1 => repeat (first | exact (Kd.C_below HR537_3.out HB.out) | (with_reducible refine Kd.C_alloc ?_ _) | (with_reducible refine Kd.C_drewN ?_ _) | (with_reducible refine Kd.C_drew ?_)))
       (case side2 => exact HC537_3.out)
       (case side3 => repeat (first | exact (Kd.C_below HR537_4.out HB.out) | (with_reducible refine Kd.C_alloc ?_ _) | (with_reducible refine Kd.C_drewN ?_ _) | (with_reducible refine Kd.C_drew ?_)))
       (case side4 => exact HC537_4.out)
       rintro e w26 ⟨v542, v545, rfl, ho0, ho1, hb⟩
       refine ⟨_, rfl, ?_⟩
       have n0_ := aM (Kd.R_elder' (by (with_reducible repeat (first | apply Kd.R_alloc | apply Kd.R_drewN | apply Kd.R_drew)); exact HO_537003.out) (Kd.R_base ho0) hb)
       have n1_ := aM (Kd.R_mono (Kd.R_told (Kd.R_told (Kd.R_old (by (with_reducible repeat (first | apply Kd.R_alloc | apply Kd.R_drewN | apply Kd.R_drew)); exact HO_537004.out) hb) (Kd.R_base ho0)) (Kd.R_base ho1)) (fun _ h_ => h_.1))
       have n2_ := aM (Kd.R_lower (Kd.R_new' ho0 (Kd.R_lt (by (with_reducible repeat (first | apply Kd.R_alloc | apply Kd.R_drewN | apply Kd.R_drew)); exact HO_537003.out))) (below_size (by repeat (first | (with_reducible first | exact HB.out | apply below_alloc | apply pw_below_drewN | apply below_drew1 | refine below_set ?_ GE528.out | refine below_set ?_ GE529.out | refine below_set ?_ GE536.out) | exact HB.out))))
       have n3_ := aM (Kd.R_lower (Kd.R_newB (Kd.R_newB (Kd.R_new' (Kd.R_new' ho1 (Kd.R_lt (by (with_reducible repeat (first | apply Kd.R_alloc | apply Kd.R_drewN | apply Kd.R_drew)); exact HO_537003.out))) (Kd.R_lt (by (with_reducible repeat (first | apply Kd.R_alloc | apply Kd.R_drewN | apply Kd.R_drew)); exact HO_537004.out))) (g := gb529) (o := .cells #[.int .i64 0, .int .i64 0, .string (⟨#[]⟩ : ByteArray), .slice none 0 0, .slice none 0 0] 25 (0, 0)) (by (with_reducible repeat (first | refine blk_drewN ?_ _ | refine blk_drew ?_ | refine blk_alloc ?_ _)); exact BK529.out)) (g := gb536) (o := .cells #[.int .i64 a0_0, .int .i64 a0_1, .string a0_2, .slice Ao12 y533.length co12, u537004] 25 (0, 0)) (by (with_reducible repeat (first | refine blk_drewN ?_ _ | refine blk_drew ?_ | refine blk_alloc ?_ _)); exact BK536.out)) (below_size (by repeat (first | (with_reducible first | exact HB.out | apply below_alloc | apply pw_below_drewN | apply below_drew1 | refine below_set ?_ GE528.out | refine below_set ?_ GE529.out | refine below_set ?_ GE536.out) | exact HB.out))))
       have n4_ := aM (blk_below (g := gb528) (o := .cells #[.int .i64 a0_0, .int .i64 a0_1, .string a0_2, .slice A0_3 l0_3.length c0_3, .slice (some ad537) l0_4.length c0_4] 45 (0, 0)) (by (with_reducible repeat (first | refine blk_drewN ?_ _ | refine blk_drew ?_ | refine blk_alloc ?_ _)); exact BK528.out) hb)
       have n5_ := aM (blk_below (g := gb529) (o := .cells #[.int .i64 0, .int .i64 0, .string (⟨#[]⟩ : ByteArray), .slice none 0 0, .slice none 0 0] 25 (0, 0)) (by (with_reducible repeat (first | refine blk_drewN ?_ _ | refine blk_drew ?_ | refine blk_alloc ?_ _)); exact BK529.out) hb)
       have n6_ := aM (blk_below (g := gb536) (o := .cells #[.int .i64 a0_0, .int .i64 a0_1, .string a0_2, .slice Ao12 y533.length co12, u537004] 25 (0, 0)) (by (with_reducible repeat (first | refine blk_drewN ?_ _ | refine blk_drew ?_ | refine blk_alloc ?_ _)); exact BK536.out) hb)
       have n7_ := aM (below_step (by repeat (first | (with_reducible first | exact HB.out | apply below_alloc | apply pw_below_drewN | apply below_drew1 | refine below_set ?_ GE528.out | refine below_set ?_ GE529.out | refine below_set ?_ GE536.out) | exact HB.out)) hb)
       clear HO_537003 HO_537004 BK528 BK529 BK536 HB; have HO_537003 := n0_; have HO_537004 := n1_; have HO543 := n2_; have HO546 := n3_; have BK528 := n4_; have BK529 := n5_; have BK536 := n6_; have HB := n7_; clear n0_ n1_ n2_ n3_ n4_ n5_ n6_ n7_
       (try clear hb)
       (try clear hb2)
       (try clear hk)
       (try clear hi)
       (try clear ho0)
       (try clear ho1)
       obtain ⟨Ao28, co28, eo28⟩ := Kd.R_slice HO543.out
       (first | subst eo28 | (injection eo28 with f1_ f2_ f3_; have f4_ := f1_.symm; have f5_ := f3_.symm; clear f1_ f2_ f3_; subst f4_; subst f5_))
       obtain ⟨Ao29, co29, eo29⟩ := Kd.R_slice HO546.out
       (first | subst eo29 | (injection eo29 with f1_ f2_ f3_; have f4_ := f1_.symm; have f5_ := f3_.symm; clear f1_ f2_ f3_; subst f4_; subst f5_))
       refine hK.out _ _ ⟨(blk_cell BK536.out 0).trans rfl, (blk_cell BK536.out 1).trans rfl, (blk_cell BK536.out 2).trans rfl, (blk_cell BK536.out 3).trans rfl, (blk_cell BK536.out 4).trans rfl, (blk_cell BK528.out 0).trans rfl, (blk_cell BK528.out 1).trans rfl, (blk_cell BK528.out 2).trans rfl, (blk_cell BK528.out 3).trans rfl, (blk_cell BK528.out 4).trans rfl, ((HB.out.cell (World.block_lt_of_cell? w _ hw537_0)).trans hw537_0), ((HB.out.cell (World.block_lt_of_cell? w _ hw537_1)).trans hw537_1), ((HB.out.cell (World.block_lt_of_cell? w _ hw537_2)).trans hw537_2), ((HB.out.cell (World.block_lt_of_cell? w _ hw537_3)).trans hw537_3), ((HB.out.cell (World.block_lt_of_cell? w _ hw537_4)).trans hw537_4)⟩ (fun hHeld => ?_)
       clear hK K
       refine norm_ (a' := ?_) ?_ ?_
       rotate_left
       ·show Act.put _ (some 30) _ = _
        simp only [Act.put, sA, sB, sC, i64_w, i32_w]; rfl
       refine one_ (i := 8) (N := some 31) #[true, true, true, true, true, true, true, true, true, false, false, false] rfl rfl (one_of HT_.out (by kernel_rfl)) (by decide) (fun K hK => ?_)
       refine value_ (w1 := ?_) (v := ?_) (by rfl) rfl ?_ ?_
       rotate_left 2
       ·go_simp; constructor
        ·rfl
        ·rfl
       refine hK.out _ _ ⟨(blk_cell (blk_alloc BK536.out _) 0).trans rfl, (blk_cell (blk_alloc BK536.out _) 1).trans rfl, (blk_cell (blk_alloc BK536.out _) 2).trans rfl, (blk_cell (blk_alloc BK536.out _) 3).trans rfl, (blk_cell (blk_alloc BK536.out _) 4).trans rfl, (blk_cell (blk_alloc BK528.out _) 0).trans rfl, (blk_cell (blk_alloc BK528.out _) 1).trans rfl, (blk_cell (blk_alloc BK528.out _) 2).trans rfl, (blk_cell (blk_alloc BK528.out _) 3).trans rfl, (blk_cell (blk_alloc BK528.out _) 4).trans rfl, (World.cell?_alloc_lt _ _ _ (World.block_lt_of_cell? _ _ (((HB.out.cell (World.block_lt_of_cell? w _ hw537_0)).trans hw537_0)))).trans (((HB.out.cell (World.block_lt_of_cell? w _ hw537_0)).trans hw537_0)), (World.cell?_alloc_lt _ _ _ (World.block_lt_of_cell? _ _ (((HB.out.cell (World.block_lt_of_cell? w _ hw537_1)).trans hw537_1)))).trans (((HB.out.cell (World.block_lt_of_cell? w _ hw537_1)).trans hw537_1)), (World.cell?_alloc_lt _ _ _ (World.block_lt_of_cell? _ _ (((HB.out.cell (World.block_lt_of_cell? w _ hw537_2)).trans hw537_2)))).trans (((HB.out.cell (World.block_lt_of_cell? w _ hw537_2)).trans hw537_2)), (World.cell?_alloc_lt _ _ _ (World.block_lt_of_cell? _ _ (((HB.out.cell (World.block_lt_of_cell? w _ hw537_3)).trans hw537_3)))).trans (((HB.out.cell (World.block_lt_of_cell? w _ hw537_3)).trans hw537_3)), (World.cell?_alloc_lt _ _ _ (World.block_lt_of_cell? _ _ (((HB.out.cell (World.block_lt_of_cell? w _ hw537_4)).trans hw537_4)))).trans (((HB.out.cell (World.block_lt_of_cell? w _ hw537_4)).trans hw537_4))⟩ (fun hHeld => ?_)
       clear hK K
       refine norm_ (a' := ?_) ?_ ?_
       rotate_left
       ·show Act.put _ (some 31) _ = _
        simp only [Act.put, sA, sB, sC, i64_w, i32_w]; rfl
       refine one_ (i := 9) (N := some 32) #[true, true, true, true, true, true, true, true, true, true, false, false] rfl rfl (one_of HT_.out (by kernel_rfl)) (by decide) (fun K hK => ?_)
       refine Kd.R_append_step k25 (w0 := w) w.heap.size (by rfl) (.tmp 24) (.tmp 31) 23 25 (.agg #[(.int .i64 0), (.int .i64 0), (.string ⟨#[]⟩), (.slice none 0 0), (.slice none 0 0)]) 80 rfl Tryz.underlying23 info25 rfl (by decide) (by omega) u537004 x537004_1 (⟨t538, t539, t540, t541, t544⟩ : S25) [.int .i64 t538, .int .i64 t539, .string t540, .slice Ao28 t541.length co28, .slice Ao29 t544.length co29] (fun k_ => some k_ ≠ (.slice Ao12 y533.length co12 : Value).ownBlock ∧ k_ ≠ gb529 ∧ k_ ≠ gb536) (fun k_ => ((fun k_ => some k_ ≠ (.slice Ao12 y533.length co12 : Value).ownBlock ∧ k_ ≠ gb529 ∧ k_ ≠ gb536)) k_ ∧ some k_ ≠ (u537004 : Value).ownBlock) rfl rfl ?aP (fun _ hk => hk) ?aF ?aO ?aB ?aS ?aL ?_
       (case aP => exact k25_mkM _ _ _ (⟨t538, t539, t540, t541, t544⟩ : S25) (Kd.R_mono (Kd.R_types (Kd.R_types (Kd.R_apart' (HO543.out) (Kd.R_typed HO_537004.out) (by decide)) BK529.out (by decide)) BK536.out (by decide)) (fun k_ hk => ⟨⟨hk.1.1.1.2, ⟨hk.1.2, hk.2⟩⟩, hk.1.1.2⟩)) (Kd.R_mono (HO546.out) (fun k_ hk => ⟨⟨hk.1.1.1.2, ⟨hk.1.2, hk.2⟩⟩, hk.1.1.2⟩)))
       (case aB => exact (by repeat (first | (with_reducible first | exact HB.out | apply below_alloc | apply pw_below_drewN | apply below_drew1 | refine below_set ?_ GE528.out | refine below_set ?_ GE529.out | refine below_set ?_ GE536.out) | exact HB.out)))
       (case aF => exact (fun k_ hk => ⟨Kd.fresh' (Kd.R_lt (by (with_reducible repeat (first | apply Kd.R_alloc | apply Kd.R_drewN | apply Kd.R_drew)); exact HO_537003.out)) k_ hk, Kd.freshB (g := gb529) (o := .cells #[.int .i64 0, .int .i64 0, .string (⟨#[]⟩ : ByteArray), .slice none 0 0, .slice none 0 0] 25 (0, 0)) (by (with_reducible repeat (first | refine blk_drewN ?_ _ | refine blk_drew ?_ | refine blk_alloc ?_ _)); exact BK529.out) k_ hk, Kd.freshB (g := gb536) (o := .cells #[.int .i64 a0_0, .int .i64 a0_1, .string a0_2, .slice Ao12 y533.length co12, u537004] 25 (0, 0)) (by (with_reducible repeat (first | refine blk_drewN ?_ _ | refine blk_drew ?_ | refine blk_alloc ?_ _)); exact BK536.out) k_ hk⟩))
       (case aO => exact (by (with_reducible repeat (first | apply Kd.R_alloc | apply Kd.R_drewN | apply Kd.R_drew)); exact Kd.R_mono HO_537004.out (fun _ hk => ⟨hk.1.1.1, ⟨hk.1.1.2.1, hk.1.1.2.2⟩⟩)))
       (case aS => exact (below_size (by repeat (first | (with_reducible first | exact HB.out | apply below_alloc | apply pw_below_drewN | apply below_drew1 | refine below_set ?_ GE528.out | refine below_set ?_ GE529.out | refine below_set ?_ GE536.out) | exact HB.out))))
       (case aL => have := LMc21.out; omega)
       intro v548 w27 ho hb hg hat
       rw [← Ny547.out] at ho
       have n0_ := aM (Kd.R_over' (by (with_reducible repeat (first | apply Kd.R_alloc | apply Kd.R_drewN | apply Kd.R_drew)); exact HO_537003.out) (Kd.R_typed (by (with_reducible repeat (first | apply Kd.R_alloc | apply Kd.R_drewN | apply Kd.R_drew)); exact HO_537004.out)) (by decide) hg)
       have n1_ := aM (blk_grown (g := gb528) (o := .cells #[.int .i64 a0_0, .int .i64 a0_1, .string a0_2, .slice A0_3 l0_3.length c0_3, .slice (some ad537) l0_4.length c0_4] 45 (0, 0)) (by (with_reducible repeat (first | refine blk_drewN ?_ _ | refine blk_drew ?_ | refine blk_alloc ?_ _)); exact BK528.out) hg (Kd.R_ne HO_537004.out BK528.out (by decide)))
       have n2_ := aM (blk_grown (g := gb529) (o := .cells #[.int .i64 0, .int .i64 0, .string (⟨#[]⟩ : ByteArray), .slice none 0 0, .slice none 0 0] 25 (0, 0)) (by (with_reducible repeat (first | refine blk_drewN ?_ _ | refine blk_drew ?_ | refine blk_alloc ?_ _)); exact BK529.out) hg (Kd.R_away HO_537004.out (fun _ hk => hk.1.1.2.1)))
       have n3_ := aM (blk_grown (g := gb536) (o := .cells #[.int .i64 a0_0, .int .i64 a0_1, .string a0_2, .slice Ao12 y533.length co12, u537004] 25 (0, 0)) (by (with_reducible repeat (first | refine blk_drewN ?_ _ | refine blk_drew ?_ | refine blk_alloc ?_ _)); exact BK536.out) hg (Kd.R_away HO_537004.out (fun _ hk => hk.1.1.2.2)))
       have n4_ := aM (hb)
       have n5_ := aM (ho)
       clear HO_537003 BK528 BK529 BK536 HB HO_537004 HO543 HO546; have HO_537003 := n0_; have BK528 := n1_; have BK529 := n2_; have BK536 := n3_; have HB := n4_; have HO549 := n5_; clear n0_ n1_ n2_ n3_ n4_ n5_ ho hb hg hat
       obtain ⟨Ao30, co30, eo30⟩ := Kd.R_slice HO549.out
       (first | subst eo30 | (injection eo30 with f1_ f2_ f3_; have f4_ := f1_.symm; have f5_ := f3_.symm; clear f1_ f2_ f3_; subst f4_; subst f5_))
       refine hK.out _ _ ⟨(blk_cell BK536.out 0).trans rfl, (blk_cell BK536.out 1).trans rfl, (blk_cell BK536.out 2).trans rfl, (blk_cell BK536.out 3).trans rfl, (blk_cell BK536.out 4).trans rfl, (blk_cell BK528.out 0).trans rfl, (blk_cell BK528.out 1).trans rfl, (blk_cell BK528.out 2).trans rfl, (blk_cell BK528.out 3).trans rfl, (blk_cell BK528.out 4).trans rfl, ((HB.out.cell (World.block_lt_of_cell? w _ hw537_0)).trans hw537_0), ((HB.out.cell (World.block_lt_of_cell? w _ hw537_1)).trans hw537_1), ((HB.out.cell (World.block_lt_of_cell? w _ hw537_2)).trans hw537_2), ((HB.out.cell (World.block_lt_of_cell? w _ hw537_3)).trans hw537_3), ((HB.out.cell (World.block_lt_of_cell? w _ hw537_4)).trans hw537_4)⟩ (fun hHeld => ?_)
       clear hK K
       refine norm_ (a' := ?_) ?_ ?_
       rotate_left
       ·show Act.put _ (some 32) _ = _
        simp only [Act.put, sA, sB, sC, i64_w, i32_w]; rfl
       refine pure_ (i := 10) (N := some 33) (v := ?_) (a' := ?_) #[true, true, true, true, true, true, true, true, true, true, true, false] rfl rfl (any_of HT_.out (by kernel_rfl)) (fun _ _ _ h => h) (Or.inl ⟨by rfl, ?_⟩) ?_ ?_
       rotate_left
       ·intro w'; go_simp; with_reducible rfl
       rotate_left
       ·simp only [Act.put, sA, sB, sC, i64_w, i32_w]; rfl
       refine last_ (i := 11) (N := none) #[true, true, true, true, true, true, true, true, true, true, true, true] rfl rfl (one_of HT_.out (by kernel_rfl)) (by decide) (fun K hK => ?_)
       have hs31 : w27.cell? ⟨gb536, 4, none⟩ = some (u537004) := (blk_cell BK536.out 4).trans rfl
       have hfs31 := blk_frozen BK536.out 4
       have hns31_0 := NB528_536.out
       have hns31_1 := NB529_536.out
       have hms31_0 := NB536_528.out
       have hms31_1 := NB536_529.out
       refine skip_ (w1 := ?_) (by rfl) rfl ?_ ?_
       rotate_left
       ·go_simp; rfl
       refine hK.out _ _ ?_
       clear hK K
       refine done_ (done_of HT_.out (by kernel_rfl)) ?_
       try go_wp2
       go_roundg k1
       case measure => have := HK1.out; omega
       case rel => exact ⟨(wrap64 (x4_1 + 1)), (y547), (.slice Ao30 y547.length co30), (by first | rfl | (simp; done) | (simp [*]; done)), H', ⟨by have := HK1.out; omega⟩, ⟨by (with_reducible repeat (first | apply Kd.R_alloc | apply Kd.R_drewN | apply Kd.R_drew)); exact Kd.R_mono (Kd.R_far (p := ⟨gb536, 4, none⟩) (Kd.R_types HO_537003.out BK536.out (by decide)) (fun _ hk => hk.2) (.slice Ao30 y547.length co30)) (fun _ hk => trivial)⟩, ⟨by (with_reducible repeat (first | apply Kd.R_alloc | apply Kd.R_drewN | apply Kd.R_drew)); exact Kd.R_mono (Kd.R_far (p := ⟨gb536, 4, none⟩) (Kd.R_mono HO549.out (fun k_ hk => (⟨hk, hk.2.2⟩ : _ ∧ k_ ≠ gb536))) (fun _ hk => hk.2) (.slice Ao30 y547.length co30)) (fun _ hk => ⟨hk.1.1, ⟨hk.1.2.1, hk.1.2.2⟩⟩)⟩, ⟨by (with_reducible repeat (first | refine blk_drewN ?_ _ | refine blk_drew ?_ | refine blk_alloc ?_ _)); refine blk_far ?_ NB528_536.out _; (with_reducible repeat (first | refine blk_drewN ?_ _ | refine blk_drew ?_ | refine blk_alloc ?_ _)); exact BK528.out⟩, ⟨by (with_reducible repeat (first | refine blk_drewN ?_ _ | refine blk_drew ?_ | refine blk_alloc ?_ _)); refine blk_far ?_ NB529_536.out _; (with_reducible repeat (first | refine blk_drewN ?_ _ | refine blk_drew ?_ | refine blk_alloc ?_ _)); exact BK529.out⟩, ⟨by (with_reducible repeat (first | refine blk_drewN ?_ _ | refine blk_drew ?_ | refine blk_alloc ?_ _)); refine blk_put (cs := #[.int .i64 a0_0, .int .i64 a0_1, .string a0_2, .slice Ao12 y533.length co12, u537004]) ?_ 4 _ rfl; (with_reducible repeat (first | refine blk_drewN ?_ _ | refine blk_drew ?_ | refine blk_alloc ?_ _)); exact BK536.out⟩, ⟨by repeat (first | (with_reducible first | exact HB.out | apply below_alloc | apply pw_below_drewN | apply below_drew1 | refine below_set ?_ GE528.out | refine below_set ?_ GE529.out | refine below_set ?_ GE536.out) | exact HB.out)⟩⟩
      ·rw [if_neg c21] at H
       exact absurd H (by simp)
     ·rw [if_neg c19] at H
      exact absurd H (by simp)
    ·rw [if_neg c18] at H
     have c18b0 : decide (x4_1 < (l0_4.length : Int)) = false := decide_eq_false c18
     clear c18
     simp only [Option.some.injEq, Prod.mk.injEq] at H
     obtain ⟨rfl, rfl, rfl, rfl, rfl⟩ := H
     have hnb32 := NB528_529.out
     have hnc32 := NB529_528.out
     have hnb33 := NB528_536.out
     have hnc33 := NB536_528.out
     have hcz34_0 : wr.cell? ⟨gb528, 0, none⟩ = some (.int .i64 a0_0) := (blk_cell BK528.out 0).trans rfl
     have hcz34_1 : wr.cell? ⟨gb528, 1, none⟩ = some (.int .i64 a0_1) := (blk_cell BK528.out 1).trans rfl
     have hcz34_2 : wr.cell? ⟨gb528, 2, none⟩ = some (.string a0_2) := (blk_cell BK528.out 2).trans rfl
     have hcz34_3 : wr.cell? ⟨gb528, 3, none⟩ = some (.slice A0_3 l0_3.length c0_3) := (blk_cell BK528.out 3).trans rfl
     have hcz34_4 : wr.cell? ⟨gb528, 4, none⟩ = some (.slice A0_4 l0_4.length c0_4) := (blk_cell BK528.out 4).trans rfl
     have hfz34_0 := blk_frozen BK528.out 0
     have hfz34_1 := blk_frozen BK528.out 1
     have hfz34_2 := blk_frozen BK528.out 2
     have hfz34_3 := blk_frozen BK528.out 3
     have hfz34_4 := blk_frozen BK528.out 4
     have hnb35 := NB536_529.out
     have hnc35 := NB529_536.out
     have hcz36_0 : wr.cell? ⟨gb536, 0, none⟩ = some (.int .i64 a0_0) := (blk_cell BK536.out 0).trans rfl
     have hcz36_1 : wr.cell? ⟨gb536, 1, none⟩ = some (.int .i64 a0_1) := (blk_cell BK536.out 1).trans rfl
     have hcz36_2 : wr.cell? ⟨gb536, 2, none⟩ = some (.string a0_2) := (blk_cell BK536.out 2).trans rfl
     have hcz36_3 : wr.cell? ⟨gb536, 3, none⟩ = some (.slice Ao12 y533.length co12) := (blk_cell BK536.out 3).trans rfl
     have hcz36_4 : wr.cell? ⟨gb536, 4, none⟩ = some (u537004) := (blk_cell BK536.out 4).trans rfl
     have hfz36_0 := blk_frozen BK536.out 0
     have hfz36_1 := blk_frozen BK536.out 1
     have hfz36_2 := blk_frozen BK536.out 2
     have hfz36_3 := blk_frozen BK536.out 3
     have hfz36_4 := blk_frozen BK536.out 4
     have hcz37_0 : wr.cell? ⟨gb529, 0, none⟩ = some (.int .i64 0) := (blk_cell BK529.out 0).trans rfl
     have hcz37_1 : wr.cell? ⟨gb529, 1, none⟩ = some (.int .i64 0) := (blk_cell BK529.out 1).trans rfl
     have hcz37_2 : wr.cell? ⟨gb529, 2, none⟩ = some (.string (⟨#[]⟩ : ByteArray)) := (blk_cell BK529.out 2).trans rfl
     have hcz37_3 : wr.cell? ⟨gb529, 3, none⟩ = some (.slice none 0 0) := (blk_cell BK529.out 3).trans rfl
     have hcz37_4 : wr.cell? ⟨gb529, 4, none⟩ = some (.slice none 0 0) := (blk_cell BK529.out 4).trans rfl
     have hfz37_0 := blk_frozen BK529.out 0
     have hfz37_1 := blk_frozen BK529.out 1
     have hfz37_2 := blk_frozen BK529.out 2
     have hfz37_3 := blk_frozen BK529.out 3
     have hfz37_4 := blk_frozen BK529.out 4
     obtain ⟨Ao38, co38, eo38⟩ := Kd.R_slice HO_537004.out
     subst eo38
     go_wp2
     refine bodyPost_ret (results_cell_row rfl _ _ gb529 25 #[.int .i64 a0_0, .int .i64 a0_1, .string a0_2, .slice Ao12 y533.length co12, .slice Ao38 x537004_1.length co38] (0, 0) _ rfl (by (with_reducible repeat (first | refine blk_drewN ?_ _ | refine blk_drew ?_ | refine blk_alloc ?_ _)); refine blk_put (cs := #[.int .i64 a0_0, .int .i64 a0_1, .string a0_2, .slice Ao12 y533.length co12, .slice none 0 0]) ?_ 4 _ rfl; (with_reducible repeat (first | refine blk_drewN ?_ _ | refine blk_drew ?_ | refine blk_alloc ?_ _)); refine blk_put (cs := #[.int .i64 a0_0, .int .i64 a0_1, .string a0_2, .slice none 0 0, .slice none 0 0]) ?_ 3 _ rfl; (with_reducible repeat (first | refine blk_drewN ?_ _ | refine blk_drew ?_ | refine blk_alloc ?_ _)); refine blk_put (cs := #[.int .i64 a0_0, .int .i64 a0_1, .string (⟨#[]⟩ : ByteArray), .slice none 0 0, .slice none 0 0]) ?_ 2 _ rfl; (with_reducible repeat (first | refine blk_drewN ?_ _ | refine blk_drew ?_ | refine blk_alloc ?_ _)); refine blk_put (cs := #[.int .i64 a0_0, .int .i64 0, .string (⟨#[]⟩ : ByteArray), .slice none 0 0, .slice none 0 0]) ?_ 1 _ rfl; (with_reducible repeat (first | refine blk_drewN ?_ _ | refine blk_drew ?_ | refine blk_alloc ?_ _)); refine blk_put (cs := #[.int .i64 0, .int .i64 0, .string (⟨#[]⟩ : ByteArray), .slice none 0 0, .slice none 0 0]) ?_ 0 _ rfl; (with_reducible repeat (first | refine blk_drewN ?_ _ | refine blk_drew ?_ | refine blk_alloc ?_ _)); exact BK529.out) Tryz.underlying25 rfl (by kernel_rfl)) rfl ?_
     exact ⟨_, _, by first | rfl | (simp [errW_none, errW_some] <;> rfl) | (simp [*, errW_none, errW_some] <;> rfl), by (with_reducible repeat (first | apply Kd.R_alloc | apply Kd.R_drewN | apply Kd.R_drew)); exact Kd.R_mono (Kd.R_far (p := ⟨gb529, 4, none⟩) (Kd.R_far (p := ⟨gb529, 3, none⟩) (Kd.R_far (p := ⟨gb529, 2, none⟩) (Kd.R_far (p := ⟨gb529, 1, none⟩) (Kd.R_far (p := ⟨gb529, 0, none⟩) (Kd.R_types HO_537003.out BK529.out (by decide)) (fun _ hk => hk.2) (.int .i64 a0_0)) (fun _ hk => hk.2) (.int .i64 a0_1)) (fun _ hk => hk.2) (.string a0_2)) (fun _ hk => hk.2) (.slice Ao12 y533.length co12)) (fun _ hk => hk.2) (.slice Ao38 x537004_1.length co38)) (fun _ hk => trivial), by (with_reducible repeat (first | apply Kd.R_alloc | apply Kd.R_drewN | apply Kd.R_drew)); exact Kd.R_mono (Kd.R_far (p := ⟨gb529, 4, none⟩) (Kd.R_far (p := ⟨gb529, 3, none⟩) (Kd.R_far (p := ⟨gb529, 2, none⟩) (Kd.R_far (p := ⟨gb529, 1, none⟩) (Kd.R_far (p := ⟨gb529, 0, none⟩) (Kd.R_mono HO_537004.out (fun k_ hk => (⟨hk, hk.2.1⟩ : _ ∧ k_ ≠ gb529))) (fun _ hk => hk.2) (.int .i64 a0_0)) (fun _ hk => hk.2) (.int .i64 a0_1)) (fun _ hk => hk.2) (.string a0_2)) (fun _ hk => hk.2) (.slice Ao12 y533.length co12)) (fun _ hk => hk.2) (.slice Ao38 x537004_1.length co38)) (fun _ hk => hk.1.1), by repeat (first | (with_reducible first | exact HB.out | apply below_alloc | apply pw_below_drewN | apply below_drew1 | refine below_set ?_ GE528.out | refine below_set ?_ GE529.out | refine below_set ?_ GE536.out) | exact HB.out)⟩
 ·rw [if_neg c2] at H
  exact absurd H (by simp)
end Go.Proofs.YtaembebbaejfiaaGreatDoor.PS
namespace Go.Proofs.YtaembebbaejfiaaGreatDoor.Tr
open Go.RowKit Go.Proofs.YtaembebbaejfiaaGreatDoorW.PrintWords Go.Proofs.YtaembebbaejfiaaGreatDoorW.PrintLast Go.Proofs.YtaembebbaejfiaaGreatDoor.Str Go.Proofs.YtaembebbaejfiaaGreatDoor.Kit Go.Proofs.YtaembebbaejfiaaGreatDoor.MapV Go.Proofs.YtaembebbaejfiaaGreatDoor.Frame Go.Proofs.YtaembebbaejfiaaGreatDoor.PS
set_option linter.unusedVariables false
set_option linter.unusedSimpArgs false
mutual
def fromI : VI → VS
 | ⟨k, n, t, ks, vs⟩ => ⟨k, n, t, ks, fromL vs⟩
def fromL : List VI → List VS
 | [] => []
 | v :: r => fromI v :: fromL r
end
theorem fromL_map : ∀ vs, fromL vs = vs.map fromI
 | [] => by simp [fromL]
 | v :: r => by simp [fromL, fromL_map r]
theorem fromL_length (vs : List VI) : (fromL vs).length = vs.length := by rw [fromL_map, List.length_map]
theorem etaS' (x : VS) : (⟨x.f0, x.f1, x.f2, x.f3, x.f4⟩ : VS) = x := by cases x; rfl
theorem fromI_eq (x : VI) : fromI x = ⟨x.f0, x.f1, x.f2, x.f3, fromL x.f4⟩ := by cases x; simp [fromI]
theorem fromL_drop {vs : List VI} {i : Nat} (h : i < vs.length) : (fromL vs).drop i = fromI vs[i] :: (fromL vs).drop (i + 1) := by
 rw [List.drop_eq_getElem_cons (by rw [fromL_length]; exact h)]
 simp only [fromL_map, List.getElem_map]
theorem rdI' {xs : List VI} {i : Nat} (h : i < xs.length) : rd_T45 xs (i : Int) = xs[i] := by
 unfold rd_T45
 simp [List.getD_eq_getElem?_getD, h]
theorem wrapF (i : Nat) (h : i < 4611686018427387904) : wrap64 ((i : Int) + 1) = ((i + 1 : Nat) : Int) := by unfold wrap64; omega
def tupS (x : VS) : Int × Int × BA × List BA × List VS := (x.f0, x.f1, x.f2, x.f3, x.f4)
def FromEv (x : VI) : Prop := Ev (fun k => laws_from.f k x.f0 x.f1 x.f2 x.f3 x.f4) (tupS (fromI x))
theorem ev_from_l0 (a b : Int) (c : BA) (ks : List BA) (vs : List VI) (p q : Int) (r : BA) (rk : List BA) (hvl : vs.length ≤ 1759218604400) (hch : ∀ v, v ∈ vs → FromEv v) : ∀ (d i : Nat) (acc : List VS), i + d = vs.length → acc.length = i →
  Ev (fun k => laws_from.l0 k (i : Int) a b c ks vs p q r rk acc) (p, q, r, rk, acc ++ (fromL vs).drop i) := by
 intro d
 induction d with
 | zero =>
  intro i acc hi ha
  refine Ev.step (fun k => ?_) (Ev.now _)
  simp only [laws_from.l0]
  rw [if_neg (by omega), List.drop_eq_nil_of_le (by rw [fromL_length]; omega), List.append_nil]
 | succ d ih =>
  intro i acc hi ha
  have hlt : i < vs.length := by omega
  refine Ev.step (f := fun k => (laws_from.f k vs[i].f0 vs[i].f1 vs[i].f2 vs[i].f3 vs[i].f4).bind fun bt => laws_from.l0 k ((i + 1 : Nat) : Int) a b c ks vs p q r rk (acc ++ [(⟨bt.1, bt.2.1, bt.2.2.1, bt.2.2.2.1, bt.2.2.2.2⟩ : VS)])) (fun k => ?_) ?_
  ·simp only [laws_from.l0]
   rw [if_pos (by omega), if_pos (by omega), rdI' hlt]
   refine congrArg _ (funext fun bt => ?_)
   rw [if_pos (by omega), wrapF i (by omega)]
  ·refine Ev.bind (hch vs[i] (List.getElem_mem hlt)) ?_
   have := ih (i + 1) (acc ++ [fromI vs[i]]) (by omega) (by simp [ha])
   rw [List.append_assoc, List.singleton_append, ← fromL_drop hlt] at this
   simp only [tupS, etaS']
   exact this
theorem ev_from : ∀ x : VI, Small x → FromEv x := by
 intro x hx
 induction hx with
 | mk x hk hkl hvl hv ih =>
  obtain ⟨k, n, t, ks, vs⟩ := x
  have hkl' : ks.length ≤ 8796093022000 := hkl
  have h := ev_from_l0 k n t ks vs k n t ks hvl ih vs.length 0 [] (by omega) rfl
  rw [List.drop_zero, List.nil_append] at h
  unfold FromEv
  rw [fromI_eq]
  refine Ev.step (fun j => ?_) h
  simp only [laws_from.f, Option.bind_some, List.nil_append, List.length_nil, Nat.zero_add]
  rw [if_pos (by omega)]
  rfl
end Go.Proofs.YtaembebbaejfiaaGreatDoor.Tr
