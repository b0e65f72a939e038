/- Parts of the proof, laid together: QLawsTo, PureFit, PureTo, QLawsFrom, PureFrom, Canon, Ends, QSpecSayName. -/
import Derived.Test.YtaembebbaejfiaaE3
import Derived.Test.YtaembebbaejfiaaE5
import Derived.Test.YtaembebbaejfiaaE6
import Derived.Test.YtaembebbaejfiaaE2
namespace Go.Proofs.Ytaembebbaejfiaa.PS
open Go.RowKit Go.Proofs.YtaembebbaejfiaaW.PrintWords Go.Proofs.YtaembebbaejfiaaW.PrintLast Go.Proofs.YtaembebbaejfiaaW.PrintMore
attribute [local go_sem] max2_int min2_int max_two min_two max_three min_three max_four min_four 
set_option linter.unusedVariables false
set_option linter.unusedSimpArgs false
mutual
def laws_to.l0 : Nat → Int → Int → Int → ByteArray → List ByteArray → List (S25) → Int → Int → ByteArray → List ByteArray → List (S36) → Option (Int × Int × ByteArray × List ByteArray × (List (S36)))
 | 0, _, _, _, _, _, _, _, _, _, _, _ => none
 | k + 1, x4, x275000, x275001, x275002, x275003, x275004, x283000, x283001, x283002, x283003, x283004 => if x4 < (x275004.length : Int) then (if 0 ≤ x4 then ((laws_to.f k ((rd_T25 x275004 x4).f0) ((rd_T25 x275004 x4).f1) ((rd_T25 x275004 x4).f2) ((rd_T25 x275004 x4).f3) ((rd_T25 x275004 x4).f4)).bind fun bt284 => (if x283004.length < 1759218604441 then (laws_to.l0 k (wrap64 (x4 + 1)) x275000 x275001 x275002 x275003 x275004 x283000 x283001 x283002 x283003 (x283004 ++ [(⟨bt284.1, bt284.2.1, bt284.2.2.1, bt284.2.2.2.1, bt284.2.2.2.2⟩ : S36)])) else (none))) else (none)) else (some (x283000, x283001, x283002, x283003, x283004))
def laws_to.f : Nat → Int → Int → ByteArray → List ByteArray → List (S25) → Option (Int × Int × ByteArray × List ByteArray × (List (S36)))
 | 0, _, _, _, _, _ => none
 | k + 1, a0_0, a0_1, a0_2, l0_3, l0_4 => (some (([] : List ByteArray) : List ByteArray)).bind fun y276 => (if y276.length + l0_3.length < 8796093022208 then (laws_to.l0 k 0 a0_0 a0_1 a0_2 l0_3 l0_4 a0_0 a0_1 a0_2 (y276 ++ l0_3) ([] : List (S36))) else (none))
end
def laws_to.T1 : Bool × List (List Nat × List Nat) := (true, [([], []), ([0], [0]), ([], []), ([2], [2]), ([], []), ([4], [4]), ([], []), ([], []), ([7], [7]), ([6, 8], [6, 8]), ([1, 3, 5, 9], [1, 3, 5, 9]), ([], []), ([11, 10, 9, 0, 1, 2, 3, 4, 5, 6, 7, 8, 9, 10, 11], [10, 11])])
def laws_to.B1 : List Nat := [0, 1, 0, 4, 0, 16, 0, 0, 128, 448, 1023, 0, 4095]
theorem laws_to.tab1 : rtab .any (opsOf Try.f13 1) = laws_to.T1 := by kernel_rfl
theorem laws_to.bits1 : waitsOk laws_to.T1.2 laws_to.B1 = true := by kernel_rfl
def laws_to.T5 : Bool × List (List Nat × List Nat) := (true, [([], []), ([0], [0]), ([], []), ([2], [2]), ([], []), ([3, 4], [3, 4]), ([5], [5]), ([6], [6]), ([7], [7]), ([1, 8, 7], [1, 8]), ([0, 1, 2, 3, 4, 5, 6, 7, 8, 9], []), ([10, 9, 9, 0, 1, 2, 3, 4, 5, 6, 7, 8, 9], [9, 10])])
def laws_to.B5 : List Nat := [0, 1, 0, 4, 0, 28, 60, 124, 252, 511, 1023, 2047]
theorem laws_to.tab5 : rtab .any (opsOf Try.f13 5) = laws_to.T5 := by kernel_rfl
theorem laws_to.bits5 : waitsOk laws_to.T5.2 laws_to.B5 = true := by kernel_rfl
set_option maxHeartbeats 8000000 in
set_option maxRecDepth 100000 in
theorem laws_to.calls (k : Nat) : ∀ (a0_0 : Int) (a0_1 : Int) (a0_2 : ByteArray) (A0_3 : Option Addr) (c0_3 : Nat) (l0_3 : List ByteArray) (A0_4 : Option Addr) (c0_4 : Nat) (l0_4 : List (S25)) (r1 : Int) (r2 : Int) (r3 : ByteArray) (r4 : List ByteArray) (r5 : List (S36)) (w : World) (hr0_3 : Kd.C Kd.string w A0_3 l0_3.length l0_3) (hc0_3 : l0_3.length ≤ c0_3) (hr0_4 : Kd.C k25 w A0_4 l0_4.length l0_4) (hc0_4 : l0_4.length ≤ c0_4) (h : laws_to.f k a0_0 a0_1 a0_2 l0_3 l0_4 = some (r1, r2, r3, r4, r5)),
  Calls Try.prog 13 #[.agg #[.int .i64 a0_0, .int .i64 a0_1, .string a0_2, .slice A0_3 l0_3.length c0_3, .slice A0_4 l0_4.length c0_4]] w fun e w' => ∃ v3_ v4_ : Value, e = .returned (.agg #[.int .i64 r1, .int .i64 r2, .string r3, v3_, v4_]) ∧ Kd.R Kd.string 9 w' w.heap.size (fun _ => True) v3_ r4 ∧ Kd.R k36 36 w' w.heap.size (fun k_ => some k_ ≠ (v3_ : Value).ownBlock) v4_ r5 ∧ Below w.heap.size w w' := by
 induction k using Nat.strongRecOn with
 | _ k ih =>
 intro a0_0 a0_1 a0_2 A0_3 c0_3 l0_3 A0_4 c0_4 l0_4 r1 r2 r3 r4 r5 w hr0_3 hc0_3 hr0_4 hc0_4 h
 cases k with
 | zero => exact absurd h (by simp [laws_to.f])
 | succ k =>
 simp only [laws_to.f] at h
 have hu25 := Try.underlying25
 have hu36 := Try.underlying36
 have HR0_3 := aM hr0_3
 have HC0_3 := aM hc0_3
 clear hr0_3 hc0_3
 have HR0_4 := aM hr0_4
 have HC0_4 := aM hc0_4
 clear hr0_4 hc0_4
 have HB := aM (Below.refl w.heap.size w)
 have H : ((some (([] : List ByteArray) : List ByteArray)).bind fun y276 => (if y276.length + l0_3.length < 8796093022208 then (laws_to.l0 k 0 a0_0 a0_1 a0_2 l0_3 l0_4 a0_0 a0_1 a0_2 (y276 ++ l0_3) ([] : List (S36))) else (none))) = some (r1, r2, r3, r4, r5) := h
 clear h
 obtain ⟨y276, hy276⟩ : ∃ y_ : List ByteArray, y_ = (([] : List ByteArray)) := ⟨_, rfl⟩
 replace H : (if y276.length + l0_3.length < 8796093022208 then (laws_to.l0 k 0 a0_0 a0_1 a0_2 l0_3 l0_4 a0_0 a0_1 a0_2 (y276 ++ l0_3) ([] : List (S36))) else (none)) = some (r1, r2, r3, r4, r5) := by first | (rw [hy276]; with_reducible exact H) | (have H2_ := (Option.bind_some _ _).symm.trans H; rw [hy276]; with_reducible exact H2_) | (have H2_ := (Option.bind_some _ _).symm.trans H; with_reducible exact H2_) | with_reducible exact H | (rw [hy276]; exact H) | exact H
 have Ny276 := aM hy276
 clear hy276
 by_cases c2 : y276.length + l0_3.length < 8796093022208
 ·rw [if_pos c2] at H
  have LMc2 := aM c2
  clear c2
  obtain ⟨y279, hy279⟩ : ∃ y_ : List ByteArray, y_ = (y276 ++ l0_3) := ⟨_, rfl⟩
  replace H : (laws_to.l0 k 0 a0_0 a0_1 a0_2 l0_3 l0_4 a0_0 a0_1 a0_2 y279 ([] : List (S36))) = some (r1, r2, r3, r4, r5) := by first | (rw [hy279]; with_reducible exact H) | (have H2_ := (Option.bind_some _ _).symm.trans H; rw [hy279]; with_reducible exact H2_) | (have H2_ := (Option.bind_some _ _).symm.trans H; with_reducible exact H2_) | with_reducible exact H | (rw [hy279]; exact H) | exact H
  have Ny279 := aM hy279
  clear hy279
  have H' := aM H
  clear H
  go_enter Try.func13, Try.ntmps13
  try go_wp2_with (first | ((with_reducible refine gate_dst (N := 1) rfl ?_); refine box_event ?hg (N := 1) ?hd (cs := #[.int .i64 a0_0, .int .i64 a0_1, .string a0_2, .slice A0_3 l0_3.length c0_3, .slice A0_4 l0_4.length c0_4]) (t := 25) ?hr ?_; (case hd => rfl); (case hg => rfl); (case hr => first | (go_simp; done) | (go_simp; rfl)); intro gb274 hg w3 hbox hb; have n0_ := aM (below_step (by repeat (first | (with_reducible first | exact HB.out | apply below_alloc | apply pw_below_drewN | apply below_drew1) | exact HB.out)) hb); have n1_ := aM (hbox); have n2_ := aM ((by rw [hg]; exact (below_size (by repeat (first | (with_reducible first | exact HB.out | apply below_alloc | apply pw_below_drewN | apply below_drew1) | exact HB.out))) : w.heap.size ≤ gb274)); have n3_ := aM ((by rw [hg]; exact (below_size (by repeat (first | (with_reducible first | exact HB.out | apply below_alloc | apply pw_below_drewN | apply below_drew1) | exact HB.out))) : w.heap.size ≤ gb274)); clear HB; have HB := n0_; have BK274 := n1_; have GW274 := n2_; have GE274 := n3_; clear n0_ n1_ n2_ n3_; clear hb hbox hg) | ((with_reducible refine gate_dst (N := 2) rfl ?_); refine box_event ?hg (N := 2) ?hd (cs := #[.int .i64 0, .int .i64 0, .string (⟨#[]⟩ : ByteArray), .slice none 0 0, .slice none 0 0]) (t := 36) ?hr ?_; (case hd => rfl); (case hg => rfl); (case hr => first | (go_simp; done) | (go_simp; rfl)); intro gb275 hg w4 hbox hb; have n0_ := aM (blk_below (g := gb274) (o := .cells #[.int .i64 a0_0, .int .i64 a0_1, .string a0_2, .slice A0_3 l0_3.length c0_3, .slice A0_4 l0_4.length c0_4] 25 (0, 0)) (by (with_reducible repeat (first | refine blk_drewN ?_ _ | refine blk_drew ?_ | refine blk_alloc ?_ _)); exact BK274.out) hb); have n1_ := aM (below_step (by repeat (first | (with_reducible first | exact HB.out | apply below_alloc | apply pw_below_drewN | apply below_drew1 | refine below_set ?_ GE274.out) | exact HB.out)) hb); have n2_ := aM (hbox); have n3_ := aM ((by rw [hg]; exact (below_size (by repeat (first | (with_reducible first | exact HB.out | apply below_alloc | apply pw_below_drewN | apply below_drew1 | refine below_set ?_ GE274.out) | exact HB.out))) : w.heap.size ≤ gb275)); have n4_ := aM ((by rw [hg]; exact (below_size (by repeat (first | (with_reducible first | exact HB.out | apply below_alloc | apply pw_below_drewN | apply below_drew1 | refine below_set ?_ GE274.out) | exact HB.out))) : w.heap.size ≤ gb275)); have n5_ := aM ((by rw [hg]; exact Nat.ne_of_lt (blk_lt (g := gb274) (o := .cells #[.int .i64 a0_0, .int .i64 a0_1, .string a0_2, .slice A0_3 l0_3.length c0_3, .slice A0_4 l0_4.length c0_4] 25 (0, 0)) (by (with_reducible repeat (first | refine blk_drewN ?_ _ | refine blk_drew ?_ | refine blk_alloc ?_ _)); exact BK274.out)) : gb274 ≠ gb275)); have n6_ := aM ((by rw [hg]; exact Nat.ne_of_gt (blk_lt (g := gb274) (o := .cells #[.int .i64 a0_0, .int .i64 a0_1, .string a0_2, .slice A0_3 l0_3.length c0_3, .slice A0_4 l0_4.length c0_4] 25 (0, 0)) (by (with_reducible repeat (first | refine blk_drewN ?_ _ | refine blk_drew ?_ | refine blk_alloc ?_ _)); exact BK274.out)) : gb275 ≠ gb274)); clear BK274; clear HB; have BK274 := n0_; have HB := n1_; have BK275 := n2_; have GW275 := n3_; have GE275 := n4_; have NB274_275 := n5_; have NB275_274 := n6_; clear n0_ n1_ n2_ n3_ n4_ n5_ n6_; clear hb hbox hg))
  have n0_ := aM (blk_drew BK274.out)
  have n1_ := aM (blk_drew BK275.out)
  have n2_ := aM (below_drew1 HB.out)
  clear BK274 BK275 HB; have BK274 := n0_; have BK275 := n1_; have HB := n2_; clear n0_ n1_ n2_
  refine start_ (n := 13) (S := fun w' => w'.cell? ⟨gb274, 0, none⟩ = some (.int .i64 a0_0) ∧ w'.cell? ⟨gb274, 1, none⟩ = some (.int .i64 a0_1) ∧ w'.cell? ⟨gb274, 2, none⟩ = some (.string a0_2) ∧ w'.cell? ⟨gb274, 3, none⟩ = some (.slice A0_3 l0_3.length c0_3) ∧ w'.cell? ⟨gb274, 4, none⟩ = some (.slice A0_4 l0_4.length c0_4)) (ds := []) #[false, false, false, false, false, false, false, false, false, false, false, false, false] (by kernel_rfl) rfl rfl ⟨(blk_cell BK274.out 0).trans rfl, (blk_cell BK274.out 1).trans rfl, (blk_cell BK274.out 2).trans rfl, (blk_cell BK274.out 3).trans rfl, (blk_cell BK274.out 4).trans rfl⟩ (fun hHeld => ?_); refine with_tabW laws_to.tab1 laws_to.bits1 (fun HT_ HW_ => ?_)
  generalize w4.drew = w5 at BK274 BK275 HB hHeld ⊢
  refine pure_ (i := 0) (N := some 5) (v := ?_) (a' := ?_) #[true, false, false, false, false, false, false, false, false, false, false, false, false] rfl rfl (any_of HT_.out (by kernel_rfl)) (fun _ _ _ h => h) (Or.inl ⟨by rfl, ?_⟩) ?_ ?_
  rotate_left
  ·intro w'; go_simp; with_reducible rfl
  rotate_left
  ·simp only [Act.put, sA, sB, sC, i64_w, i32_w]; rfl
  refine pure_ (i := 2) (N := some 7) (v := ?_) (a' := ?_) #[true, false, true, false, false, false, false, false, false, false, false, false, false] rfl rfl (any_of HT_.out (by kernel_rfl)) (fun _ _ _ h => h) (Or.inl ⟨by rfl, ?_⟩) ?_ ?_
  rotate_left
  ·intro w'; go_simp; with_reducible rfl
  rotate_left
  ·simp only [Act.put, sA, sB, sC, i64_w, i32_w]; rfl
  refine pure_ (i := 4) (N := some 9) (v := ?_) (a' := ?_) #[true, false, true, false, true, false, false, false, false, false, false, false, false] rfl rfl (any_of HT_.out (by kernel_rfl)) (fun _ _ _ h => h) (Or.inl ⟨by rfl, ?_⟩) ?_ ?_
  rotate_left
  ·intro w'; go_simp; with_reducible rfl
  rotate_left
  ·simp only [Act.put, sA, sB, sC, i64_w, i32_w]; rfl
  refine pure_ (i := 7) (N := some 12) (v := ?_) (a' := ?_) #[true, false, true, false, true, false, false, true, false, false, false, false, false] rfl rfl (any_of HT_.out (by kernel_rfl)) (fun _ _ _ h => h) (Or.inl ⟨by rfl, ?_⟩) ?_ ?_
  rotate_left
  ·intro w'; go_simp; with_reducible rfl
  rotate_left
  ·simp only [Act.put, sA, sB, sC, i64_w, i32_w]; rfl
  refine take_ (i := 1) (N := some 6) (v := ?_) (a' := ?_) #[true, true, true, false, true, false, false, true, false, false, false, false, false] rfl rfl (take_ofW HT_.out HW_.out (by kernel_rfl)) (fun _ _ _ h => h) (Or.inl ⟨by rfl, ?_⟩) hHeld ?_ ?_
  rotate_left
  ·rintro w' ⟨s0, s1, s2, s3, s4⟩
   go_simp; with_reducible rfl
  rotate_left
  ·simp only [Act.put, sA, sB, sC, i64_w, i32_w]; rfl
  refine take_ (i := 3) (N := some 8) (v := ?_) (a' := ?_) #[true, true, true, true, true, false, false, true, false, false, false, false, false] rfl rfl (take_ofW HT_.out HW_.out (by kernel_rfl)) (fun _ _ _ h => h) (Or.inl ⟨by rfl, ?_⟩) hHeld ?_ ?_
  rotate_left
  ·rintro w' ⟨s0, s1, s2, s3, s4⟩
   go_simp; with_reducible rfl
  rotate_left
  ·simp only [Act.put, sA, sB, sC, i64_w, i32_w]; rfl
  refine take_ (i := 5) (N := some 10) (v := ?_) (a' := ?_) #[true, true, true, true, true, true, false, true, false, false, false, false, false] rfl rfl (take_ofW HT_.out HW_.out (by kernel_rfl)) (fun _ _ _ h => h) (Or.inl ⟨by rfl, ?_⟩) hHeld ?_ ?_
  rotate_left
  ·rintro w' ⟨s0, s1, s2, s3, s4⟩
   go_simp; with_reducible rfl
  rotate_left
  ·simp only [Act.put, sA, sB, sC, i64_w, i32_w]; rfl
  refine take_ (i := 8) (N := some 13) (v := ?_) (a' := ?_) #[true, true, true, true, true, true, false, true, true, false, false, false, false] rfl rfl (take_ofW HT_.out HW_.out (by kernel_rfl)) (fun _ _ _ h => h) (Or.inl ⟨by rfl, ?_⟩) hHeld ?_ ?_
  rotate_left
  ·rintro w' ⟨s0, s1, s2, s3, s4⟩
   go_simp; with_reducible rfl
  rotate_left
  ·simp only [Act.put, sA, sB, sC, i64_w, i32_w]; rfl
  refine join_ (σ := Value × Value × Nat) 1 #[true, true, true, true, true, true, true, true, true, true, true, true, false] (fun s_ => [(11, s_.1), (14, s_.2.1), (3, .pointer (some ⟨s_.2.2, 0, none⟩)), (15, .agg #[.int .i64 a0_0, .int .i64 a0_1, .string a0_2, s_.2.1, .slice none 0 0])]) (fun s_ w' => (w'.cell? ⟨gb274, 0, none⟩ = some (.int .i64 a0_0) ∧ w'.cell? ⟨gb274, 1, none⟩ = some (.int .i64 a0_1) ∧ w'.cell? ⟨gb274, 2, none⟩ = some (.string a0_2) ∧ w'.cell? ⟨gb274, 3, none⟩ = some (.slice A0_3 l0_3.length c0_3) ∧ w'.cell? ⟨gb274, 4, none⟩ = some (.slice A0_4 l0_4.length c0_4)) ∧ (Kd.R Kd.string 9 w' w.heap.size (fun _ => True) s_.2.1 y279) ∧ (w'.heap[gb274]? = some (.cells #[.int .i64 a0_0, .int .i64 a0_1, .string a0_2, .slice A0_3 l0_3.length c0_3, .slice A0_4 l0_4.length c0_4] 25 (0, 0))) ∧ (w'.heap[gb275]? = some (.cells #[.int .i64 0, .int .i64 0, .string (⟨#[]⟩ : ByteArray), .slice none 0 0, .slice none 0 0] 36 (0, 0))) ∧ (w'.heap[s_.2.2]? = some (.cells #[.int .i64 0, .int .i64 0, .string (⟨#[]⟩ : ByteArray), .slice none 0 0, .slice none 0 0] 36 (0, 0))) ∧ (w.heap.size ≤ s_.2.2) ∧ (w.heap.size ≤ s_.2.2) ∧ (gb274 ≠ s_.2.2) ∧ (s_.2.2 ≠ gb274) ∧ (gb275 ≠ s_.2.2) ∧ (s_.2.2 ≠ gb275) ∧ (Below w.heap.size w w')) ?_ ?_
  rotate_left
  ·intro hCont
   refine two_ (i := 6) (j := 11) (Ni := some 11) (Nj := some 3) #[true, true, true, true, true, true, true, true, true, false, false, false, false] #[true, true, true, true, true, true, false, true, true, false, false, true, false] rfl rfl rfl rfl (two_of HT_.out (by kernel_rfl)) (by decide) (by decide) (fun K hK => ?_) (fun K hK => ?_)
   ·skip
    refine Kd.R_lit_step Kd.string _ 9 ?hg (N := 11) ?hd (xs := ([] : List ByteArray)) (inner := []) (ok := fun _ => True) (okp := fun _ => True) ?hr ?hp (fun _ hk => hk) trivial (Below.refl _ _) (Nat.le_refl _) (by simp) ?_; (case hd => rfl); (case hg => rfl); (case hr => first | (go_simp; done) | (go_simp; rfl)); (case hp => exact (Reps.none _ _))
    intro v277 w6 ho7 hb hg_ hnew_; clear hg_ hnew_
    (first | rw [← Ny276.out] at ho7 | (simp only [Int.reduceToNat] at ho7; rw [← Ny276.out] at ho7))
    have n0_ := aM (Kd.R_lower ho7 (below_size (by repeat (first | (with_reducible first | exact HB.out | apply below_alloc | apply pw_below_drewN | apply below_drew1 | refine below_set ?_ GE274.out | refine below_set ?_ GE275.out) | exact HB.out))))
    have n1_ := aM (blk_below (g := gb274) (o := .cells #[.int .i64 a0_0, .int .i64 a0_1, .string a0_2, .slice A0_3 l0_3.length c0_3, .slice A0_4 l0_4.length c0_4] 25 (0, 0)) (by (with_reducible repeat (first | refine blk_drewN ?_ _ | refine blk_drew ?_ | refine blk_alloc ?_ _)); exact BK274.out) hb)
    have n2_ := aM (blk_below (g := gb275) (o := .cells #[.int .i64 0, .int .i64 0, .string (⟨#[]⟩ : ByteArray), .slice none 0 0, .slice none 0 0] 36 (0, 0)) (by (with_reducible repeat (first | refine blk_drewN ?_ _ | refine blk_drew ?_ | refine blk_alloc ?_ _)); exact BK275.out) hb)
    have n3_ := aM (below_step (by repeat (first | (with_reducible first | exact HB.out | apply below_alloc | apply pw_below_drewN | apply below_drew1 | refine below_set ?_ GE274.out | refine below_set ?_ GE275.out) | exact HB.out)) hb)
    clear BK274 BK275 HB; have HO278 := n0_; have BK274 := n1_; have BK275 := n2_; have HB := n3_; clear n0_ n1_ n2_ n3_ hb ho7
    refine hK.out _ _ ⟨(blk_cell BK274.out 0).trans rfl, (blk_cell BK274.out 1).trans rfl, (blk_cell BK274.out 2).trans rfl, (blk_cell BK274.out 3).trans rfl, (blk_cell BK274.out 4).trans rfl⟩ (fun hHeld => ?_)
    clear hK K
    refine norm_ (a' := ?_) ?_ ?_
    rotate_left
    ·show Act.put _ (some 11) _ = _
     simp only [Act.put, sA, sB, sC, i64_w, i32_w]; rfl
    refine two_ (i := 9) (j := 11) (Ni := some 14) (Nj := some 3) #[true, true, true, true, true, true, true, true, true, true, false, false, false] #[true, true, true, true, true, true, true, true, true, false, false, true, false] rfl rfl rfl rfl (two_of HT_.out (by kernel_rfl)) (by decide) (by decide) (fun K hK => ?_) (fun K hK => ?_)
    ·skip
     refine Kd.R_append_rows_step Kd.string (w0 := w) w.heap.size (by rfl) (.tmp 11) (.tmp 13) 22 9 (.string ⟨#[]⟩) 16 rfl Try.underlying22 info9 rfl (by decide) (by omega) v277 y276 l0_3 _ _ _ (fun _ => True) (fun _ => False) rfl rfl ?aO ?aR (fun _ _ h => h) (fun _ h => h.elim) ?aF ?aB ?aS ?aL ?_
     (case aR => repeat (first | exact (Kd.C_below HR0_3.out HB.out) | (with_reducible refine Kd.C_alloc ?_ _) | (with_reducible refine Kd.C_drewN ?_ _) | (with_reducible refine Kd.C_drew ?_)))
     (case aB => exact (by repeat (first | (with_reducible first | exact HB.out | apply below_alloc | apply pw_below_drewN | apply below_drew1 | refine below_set ?_ GE274.out | refine below_set ?_ GE275.out) | exact HB.out)))
     (case aF => exact (fun _ _ => trivial))
     (case aO => exact (by (with_reducible repeat (first | apply Kd.R_alloc | apply Kd.R_drewN | apply Kd.R_drew)); exact HO278.out))
     (case aS => exact (below_size (by repeat (first | (with_reducible first | exact HB.out | apply below_alloc | apply pw_below_drewN | apply below_drew1 | refine below_set ?_ GE274.out | refine below_set ?_ GE275.out) | exact HB.out))))
     (case aL => have := LMc2.out; omega)
     intro v280 w8 ho hb hg hat
     rw [← Ny279.out] at ho
     have n0_ := aM (blk_grown (g := gb274) (o := .cells #[.int .i64 a0_0, .int .i64 a0_1, .string a0_2, .slice A0_3 l0_3.length c0_3, .slice A0_4 l0_4.length c0_4] 25 (0, 0)) (by (with_reducible repeat (first | refine blk_drewN ?_ _ | refine blk_drew ?_ | refine blk_alloc ?_ _)); exact BK274.out) hg (Kd.R_ne HO278.out BK274.out (by decide)))
     have n1_ := aM (blk_grown (g := gb275) (o := .cells #[.int .i64 0, .int .i64 0, .string (⟨#[]⟩ : ByteArray), .slice none 0 0, .slice none 0 0] 36 (0, 0)) (by (with_reducible repeat (first | refine blk_drewN ?_ _ | refine blk_drew ?_ | refine blk_alloc ?_ _)); exact BK275.out) hg (Kd.R_ne HO278.out BK275.out (by decide)))
     have n2_ := aM (hb)
     have n3_ := aM (ho)
     clear BK274 BK275 HB HO278; have BK274 := n0_; have BK275 := n1_; have HB := n2_; have HO281 := n3_; clear n0_ n1_ n2_ n3_ ho hb hg hat
     obtain ⟨Ao9, co9, eo9⟩ := Kd.R_slice HO281.out
     (first | subst eo9 | (injection eo9 with f1_ f2_ f3_; have f4_ := f1_.symm; have f5_ := f3_.symm; clear f1_ f2_ f3_; subst f4_; subst f5_))
     refine hK.out _ _ ⟨(blk_cell BK274.out 0).trans rfl, (blk_cell BK274.out 1).trans rfl, (blk_cell BK274.out 2).trans rfl, (blk_cell BK274.out 3).trans rfl, (blk_cell BK274.out 4).trans rfl⟩ (fun hHeld => ?_)
     clear hK K
     refine norm_ (a' := ?_) ?_ ?_
     rotate_left
     ·show Act.put _ (some 14) _ = _
      simp only [Act.put, sA, sB, sC, i64_w, i32_w]; rfl
     refine pure_ (i := 10) (N := some 15) (v := ?_) (a' := ?_) #[true, true, true, true, true, true, true, true, true, true, true, false, false] rfl rfl (any_of HT_.out (by kernel_rfl)) (fun _ _ _ h => h) (Or.inl ⟨by rfl, ?_⟩) ?_ ?_
     rotate_left
     ·intro w'; go_simp; with_reducible rfl
     rotate_left
     ·simp only [Act.put, sA, sB, sC, i64_w, i32_w]; rfl
     refine one_ (i := 11) (N := some 3) #[true, true, true, true, true, true, true, true, true, true, true, true, false] rfl rfl (one_of HT_.out (by kernel_rfl)) (by decide) (fun K hK => ?_)
     refine box_step ?hg (N := 3) ?hd (cs := #[.int .i64 0, .int .i64 0, .string (⟨#[]⟩ : ByteArray), .slice none 0 0, .slice none 0 0]) (t := 36) ?hr ?_; (case hd => rfl); (case hg => rfl); (case hr => first | (go_simp; done) | (go_simp; rfl))
     intro gb282 hg w10 hbox hb
     have n0_ := aM (Kd.R_below (by (with_reducible repeat (first | apply Kd.R_alloc | apply Kd.R_drewN | apply Kd.R_drew)); exact HO281.out) hb)
     have n1_ := aM (blk_below (g := gb274) (o := .cells #[.int .i64 a0_0, .int .i64 a0_1, .string a0_2, .slice A0_3 l0_3.length c0_3, .slice A0_4 l0_4.length c0_4] 25 (0, 0)) (by (with_reducible repeat (first | refine blk_drewN ?_ _ | refine blk_drew ?_ | refine blk_alloc ?_ _)); exact BK274.out) hb)
     have n2_ := aM (blk_below (g := gb275) (o := .cells #[.int .i64 0, .int .i64 0, .string (⟨#[]⟩ : ByteArray), .slice none 0 0, .slice none 0 0] 36 (0, 0)) (by (with_reducible repeat (first | refine blk_drewN ?_ _ | refine blk_drew ?_ | refine blk_alloc ?_ _)); exact BK275.out) hb)
     have n3_ := aM (below_step (by repeat (first | (with_reducible first | exact HB.out | apply below_alloc | apply pw_below_drewN | apply below_drew1 | refine below_set ?_ GE274.out | refine below_set ?_ GE275.out) | exact HB.out)) hb)
     have n4_ := aM (hbox)
     have n5_ := aM ((by rw [hg]; exact (below_size (by repeat (first | (with_reducible first | exact HB.out | apply below_alloc | apply pw_below_drewN | apply below_drew1 | refine below_set ?_ GE274.out | refine below_set ?_ GE275.out) | exact HB.out))) : w.heap.size ≤ gb282))
     have n6_ := aM ((by rw [hg]; exact (below_size (by repeat (first | (with_reducible first | exact HB.out | apply below_alloc | apply pw_below_drewN | apply below_drew1 | refine below_set ?_ GE274.out | refine below_set ?_ GE275.out) | exact HB.out))) : w.heap.size ≤ gb282))
     have n7_ := aM ((by rw [hg]; exact Nat.ne_of_lt (blk_lt (g := gb274) (o := .cells #[.int .i64 a0_0, .int .i64 a0_1, .string a0_2, .slice A0_3 l0_3.length c0_3, .slice A0_4 l0_4.length c0_4] 25 (0, 0)) (by (with_reducible repeat (first | refine blk_drewN ?_ _ | refine blk_drew ?_ | refine blk_alloc ?_ _)); exact BK274.out)) : gb274 ≠ gb282))
     have n8_ := aM ((by rw [hg]; exact Nat.ne_of_gt (blk_lt (g := gb274) (o := .cells #[.int .i64 a0_0, .int .i64 a0_1, .string a0_2, .slice A0_3 l0_3.length c0_3, .slice A0_4 l0_4.length c0_4] 25 (0, 0)) (by (with_reducible repeat (first | refine blk_drewN ?_ _ | refine blk_drew ?_ | refine blk_alloc ?_ _)); exact BK274.out)) : gb282 ≠ gb274))
     have n9_ := aM ((by rw [hg]; exact Nat.ne_of_lt (blk_lt (g := gb275) (o := .cells #[.int .i64 0, .int .i64 0, .string (⟨#[]⟩ : ByteArray), .slice none 0 0, .slice none 0 0] 36 (0, 0)) (by (with_reducible repeat (first | refine blk_drewN ?_ _ | refine blk_drew ?_ | refine blk_alloc ?_ _)); exact BK275.out)) : gb275 ≠ gb282))
     have n10_ := aM ((by rw [hg]; exact Nat.ne_of_gt (blk_lt (g := gb275) (o := .cells #[.int .i64 0, .int .i64 0, .string (⟨#[]⟩ : ByteArray), .slice none 0 0, .slice none 0 0] 36 (0, 0)) (by (with_reducible repeat (first | refine blk_drewN ?_ _ | refine blk_drew ?_ | refine blk_alloc ?_ _)); exact BK275.out)) : gb282 ≠ gb275))
     clear HO281 BK274 BK275 HB; have HO281 := n0_; have BK274 := n1_; have BK275 := n2_; have HB := n3_; have BK282 := n4_; have GW282 := n5_; have GE282 := n6_; have NB274_282 := n7_; have NB282_274 := n8_; have NB275_282 := n9_; have NB282_275 := n10_; clear n0_ n1_ n2_ n3_ n4_ n5_ n6_ n7_ n8_ n9_ n10_ hb hbox hg
     refine hK.out _ _ ⟨(blk_cell BK274.out 0).trans rfl, (blk_cell BK274.out 1).trans rfl, (blk_cell BK274.out 2).trans rfl, (blk_cell BK274.out 3).trans rfl, (blk_cell BK274.out 4).trans rfl⟩ (fun hHeld => ?_)
     clear hK K
     refine norm_ (a' := ?_) ?_ ?_
     rotate_left
     ·show Act.put _ (some 3) _ = _
      simp only [Act.put, sA, sB, sC, i64_w, i32_w]; rfl
     exact norm_ (by simp only [putAll, Act.put, sA, sB, sC]) (hCont (v277, .slice Ao9 y279.length co9, gb282) _ ⟨hHeld, (by (with_reducible repeat (first | apply Kd.R_alloc | apply Kd.R_drewN | apply Kd.R_drew)); exact HO281.out), (by (with_reducible repeat (first | refine blk_drewN ?_ _ | refine blk_drew ?_ | refine blk_alloc ?_ _)); exact BK274.out), (by (with_reducible repeat (first | refine blk_drewN ?_ _ | refine blk_drew ?_ | refine blk_alloc ?_ _)); exact BK275.out), (by (with_reducible repeat (first | refine blk_drewN ?_ _ | refine blk_drew ?_ | refine blk_alloc ?_ _)); exact BK282.out), GW282.out, GE282.out, NB274_282.out, NB282_274.out, NB275_282.out, NB282_275.out, (by repeat (first | (with_reducible first | exact HB.out | apply below_alloc | apply pw_below_drewN | apply below_drew1 | refine below_set ?_ GE274.out | refine below_set ?_ GE275.out | refine below_set ?_ GE282.out) | exact HB.out))⟩)
    ·skip
     refine box_step ?hg (N := 3) ?hd (cs := #[.int .i64 0, .int .i64 0, .string (⟨#[]⟩ : ByteArray), .slice none 0 0, .slice none 0 0]) (t := 36) ?hr ?_; (case hd => rfl); (case hg => rfl); (case hr => first | (go_simp; done) | (go_simp; rfl))
     intro gb282 hg w8 hbox hb
     have n0_ := aM (Kd.R_below (by (with_reducible repeat (first | apply Kd.R_alloc | apply Kd.R_drewN | apply Kd.R_drew)); exact HO278.out) hb)
     have n1_ := aM (blk_below (g := gb274) (o := .cells #[.int .i64 a0_0, .int .i64 a0_1, .string a0_2, .slice A0_3 l0_3.length c0_3, .slice A0_4 l0_4.length c0_4] 25 (0, 0)) (by (with_reducible repeat (first | refine blk_drewN ?_ _ | refine blk_drew ?_ | refine blk_alloc ?_ _)); exact BK274.out) hb)
     have n2_ := aM (blk_below (g := gb275) (o := .cells #[.int .i64 0, .int .i64 0, .string (⟨#[]⟩ : ByteArray), .slice none 0 0, .slice none 0 0] 36 (0, 0)) (by (with_reducible repeat (first | refine blk_drewN ?_ _ | refine blk_drew ?_ | refine blk_alloc ?_ _)); exact BK275.out) hb)
     have n3_ := aM (below_step (by repeat (first | (with_reducible first | exact HB.out | apply below_alloc | apply pw_below_drewN | apply below_drew1 | refine below_set ?_ GE274.out | refine below_set ?_ GE275.out) | exact HB.out)) hb)
     have n4_ := aM (hbox)
     have n5_ := aM ((by rw [hg]; exact (below_size (by repeat (first | (with_reducible first | exact HB.out | apply below_alloc | apply pw_below_drewN | apply below_drew1 | refine below_set ?_ GE274.out | refine below_set ?_ GE275.out) | exact HB.out))) : w.heap.size ≤ gb282))
     have n6_ := aM ((by rw [hg]; exact (below_size (by repeat (first | (with_reducible first | exact HB.out | apply below_alloc | apply pw_below_drewN | apply below_drew1 | refine below_set ?_ GE274.out | refine below_set ?_ GE275.out) | exact HB.out))) : w.heap.size ≤ gb282))
     have n7_ := aM ((by rw [hg]; exact Nat.ne_of_lt (blk_lt (g := gb274) (o := .cells #[.int .i64 a0_0, .int .i64 a0_1, .string a0_2, .slice A0_3 l0_3.length c0_3, .slice A0_4 l0_4.length c0_4] 25 (0, 0)) (by (with_reducible repeat (first | refine blk_drewN ?_ _ | refine blk_drew ?_ | refine blk_alloc ?_ _)); exact BK274.out)) : gb274 ≠ gb282))
     have n8_ := aM ((by rw [hg]; exact Nat.ne_of_gt (blk_lt (g := gb274) (o := .cells #[.int .i64 a0_0, .int .i64 a0_1, .string a0_2, .slice A0_3 l0_3.length c0_3, .slice A0_4 l0_4.length c0_4] 25 (0, 0)) (by (with_reducible repeat (first | refine blk_drewN ?_ _ | refine blk_drew ?_ | refine blk_alloc ?_ _)); exact BK274.out)) : gb282 ≠ gb274))
     have n9_ := aM ((by rw [hg]; exact Nat.ne_of_lt (blk_lt (g := gb275) (o := .cells #[.int .i64 0, .int .i64 0, .string (⟨#[]⟩ : ByteArray), .slice none 0 0, .slice none 0 0] 36 (0, 0)) (by (with_reducible repeat (first | refine blk_drewN ?_ _ | refine blk_drew ?_ | refine blk_alloc ?_ _)); exact BK275.out)) : gb275 ≠ gb282))
     have n10_ := aM ((by rw [hg]; exact Nat.ne_of_gt (blk_lt (g := gb275) (o := .cells #[.int .i64 0, .int .i64 0, .string (⟨#[]⟩ : ByteArray), .slice none 0 0, .slice none 0 0] 36 (0, 0)) (by (with_reducible repeat (first | refine blk_drewN ?_ _ | refine blk_drew ?_ | refine blk_alloc ?_ _)); exact BK275.out)) : gb282 ≠ gb275))
     clear HO278 BK274 BK275 HB; have HO278 := n0_; have BK274 := n1_; have BK275 := n2_; have HB := n3_; have BK282 := n4_; have GW282 := n5_; have GE282 := n6_; have NB274_282 := n7_; have NB282_274 := n8_; have NB275_282 := n9_; have NB282_275 := n10_; clear n0_ n1_ n2_ n3_ n4_ n5_ n6_ n7_ n8_ n9_ n10_ hb hbox hg
     refine hK.out _ _ ⟨(blk_cell BK274.out 0).trans rfl, (blk_cell BK274.out 1).trans rfl, (blk_cell BK274.out 2).trans rfl, (blk_cell BK274.out 3).trans rfl, (blk_cell BK274.out 4).trans rfl⟩ (fun hHeld => ?_)
     clear hK K
     refine norm_ (a' := ?_) ?_ ?_
     rotate_left
     ·show Act.put _ (some 3) _ = _
      simp only [Act.put, sA, sB, sC, i64_w, i32_w]; rfl
     refine one_ (i := 9) (N := some 14) #[true, true, true, true, true, true, true, true, true, true, false, true, false] rfl rfl (one_of HT_.out (by kernel_rfl)) (by decide) (fun K hK => ?_)
     refine Kd.R_append_rows_step Kd.string (w0 := w) w.heap.size (by rfl) (.tmp 11) (.tmp 13) 22 9 (.string ⟨#[]⟩) 16 rfl Try.underlying22 info9 rfl (by decide) (by omega) v277 y276 l0_3 _ _ _ (fun _ => True) (fun _ => False) rfl rfl ?aO ?aR (fun _ _ h => h) (fun _ h => h.elim) ?aF ?aB ?aS ?aL ?_
     (case aR => repeat (first | exact (Kd.C_below HR0_3.out HB.out) | (with_reducible refine Kd.C_alloc ?_ _) | (with_reducible refine Kd.C_drewN ?_ _) | (with_reducible refine Kd.C_drew ?_)))
     (case aB => exact (by repeat (first | (with_reducible first | exact HB.out | apply below_alloc | apply pw_below_drewN | apply below_drew1 | refine below_set ?_ GE274.out | refine below_set ?_ GE275.out | refine below_set ?_ GE282.out) | exact HB.out)))
     (case aF => exact (fun _ _ => trivial))
     (case aO => exact (by (with_reducible repeat (first | apply Kd.R_alloc | apply Kd.R_drewN | apply Kd.R_drew)); exact HO278.out))
     (case aS => exact (below_size (by repeat (first | (with_reducible first | exact HB.out | apply below_alloc | apply pw_below_drewN | apply below_drew1 | refine below_set ?_ GE274.out | refine below_set ?_ GE275.out | refine below_set ?_ GE282.out) | exact HB.out))))
     (case aL => have := LMc2.out; omega)
     intro v280 w9 ho hb hg hat
     rw [← Ny279.out] at ho
     have n0_ := aM (blk_grown (g := gb274) (o := .cells #[.int .i64 a0_0, .int .i64 a0_1, .string a0_2, .slice A0_3 l0_3.length c0_3, .slice A0_4 l0_4.length c0_4] 25 (0, 0)) (by (with_reducible repeat (first | refine blk_drewN ?_ _ | refine blk_drew ?_ | refine blk_alloc ?_ _)); exact BK274.out) hg (Kd.R_ne HO278.out BK274.out (by decide)))
     have n1_ := aM (blk_grown (g := gb275) (o := .cells #[.int .i64 0, .int .i64 0, .string (⟨#[]⟩ : ByteArray), .slice none 0 0, .slice none 0 0] 36 (0, 0)) (by (with_reducible repeat (first | refine blk_drewN ?_ _ | refine blk_drew ?_ | refine blk_alloc ?_ _)); exact BK275.out) hg (Kd.R_ne HO278.out BK275.out (by decide)))
     have n2_ := aM (blk_grown (g := gb282) (o := .cells #[.int .i64 0, .int .i64 0, .string (⟨#[]⟩ : ByteArray), .slice none 0 0, .slice none 0 0] 36 (0, 0)) (by (with_reducible repeat (first | refine blk_drewN ?_ _ | refine blk_drew ?_ | refine blk_alloc ?_ _)); exact BK282.out) hg (Kd.R_ne HO278.out BK282.out (by decide)))
     have n3_ := aM (hb)
     have n4_ := aM (ho)
     clear BK274 BK275 BK282 HB HO278; have BK274 := n0_; have BK275 := n1_; have BK282 := n2_; have HB := n3_; have HO281 := n4_; clear n0_ n1_ n2_ n3_ n4_ ho hb hg hat
     obtain ⟨Ao10, co10, eo10⟩ := Kd.R_slice HO281.out
     (first | subst eo10 | (injection eo10 with f1_ f2_ f3_; have f4_ := f1_.symm; have f5_ := f3_.symm; clear f1_ f2_ f3_; subst f4_; subst f5_))
     refine hK.out _ _ ⟨(blk_cell BK274.out 0).trans rfl, (blk_cell BK274.out 1).trans rfl, (blk_cell BK274.out 2).trans rfl, (blk_cell BK274.out 3).trans rfl, (blk_cell BK274.out 4).trans rfl⟩ (fun hHeld => ?_)
     clear hK K
     refine norm_ (a' := ?_) ?_ ?_
     rotate_left
     ·show Act.put _ (some 14) _ = _
      simp only [Act.put, sA, sB, sC, i64_w, i32_w]; rfl
     refine pure_ (i := 10) (N := some 15) (v := ?_) (a' := ?_) #[true, true, true, true, true, true, true, true, true, true, true, true, false] rfl rfl (any_of HT_.out (by kernel_rfl)) (fun _ _ _ h => h) (Or.inl ⟨by rfl, ?_⟩) ?_ ?_
     rotate_left
     ·intro w'; go_simp; with_reducible rfl
     rotate_left
     ·simp only [Act.put, sA, sB, sC, i64_w, i32_w]; rfl
     exact norm_ (by simp only [putAll, Act.put, sA, sB, sC]) (hCont (v277, .slice Ao10 y279.length co10, gb282) _ ⟨hHeld, (by (with_reducible repeat (first | apply Kd.R_alloc | apply Kd.R_drewN | apply Kd.R_drew)); exact HO281.out), (by (with_reducible repeat (first | refine blk_drewN ?_ _ | refine blk_drew ?_ | refine blk_alloc ?_ _)); exact BK274.out), (by (with_reducible repeat (first | refine blk_drewN ?_ _ | refine blk_drew ?_ | refine blk_alloc ?_ _)); exact BK275.out), (by (with_reducible repeat (first | refine blk_drewN ?_ _ | refine blk_drew ?_ | refine blk_alloc ?_ _)); exact BK282.out), GW282.out, GE282.out, NB274_282.out, NB282_274.out, NB275_282.out, NB282_275.out, (by repeat (first | (with_reducible first | exact HB.out | apply below_alloc | apply pw_below_drewN | apply below_drew1 | refine below_set ?_ GE274.out | refine below_set ?_ GE275.out | refine below_set ?_ GE282.out) | exact HB.out))⟩)
   ·skip
    refine box_step ?hg (N := 3) ?hd (cs := #[.int .i64 0, .int .i64 0, .string (⟨#[]⟩ : ByteArray), .slice none 0 0, .slice none 0 0]) (t := 36) ?hr ?_; (case hd => rfl); (case hg => rfl); (case hr => first | (go_simp; done) | (go_simp; rfl))
    intro gb282 hg w6 hbox hb
    have n0_ := aM (blk_below (g := gb274) (o := .cells #[.int .i64 a0_0, .int .i64 a0_1, .string a0_2, .slice A0_3 l0_3.length c0_3, .slice A0_4 l0_4.length c0_4] 25 (0, 0)) (by (with_reducible repeat (first | refine blk_drewN ?_ _ | refine blk_drew ?_ | refine blk_alloc ?_ _)); exact BK274.out) hb)
    have n1_ := aM (blk_below (g := gb275) (o := .cells #[.int .i64 0, .int .i64 0, .string (⟨#[]⟩ : ByteArray), .slice none 0 0, .slice none 0 0] 36 (0, 0)) (by (with_reducible repeat (first | refine blk_drewN ?_ _ | refine blk_drew ?_ | refine blk_alloc ?_ _)); exact BK275.out) hb)
    have n2_ := aM (below_step (by repeat (first | (with_reducible first | exact HB.out | apply below_alloc | apply pw_below_drewN | apply below_drew1 | refine below_set ?_ GE274.out | refine below_set ?_ GE275.out) | exact HB.out)) hb)
    have n3_ := aM (hbox)
    have n4_ := aM ((by rw [hg]; exact (below_size (by repeat (first | (with_reducible first | exact HB.out | apply below_alloc | apply pw_below_drewN | apply below_drew1 | refine below_set ?_ GE274.out | refine below_set ?_ GE275.out) | exact HB.out))) : w.heap.size ≤ gb282))
    have n5_ := aM ((by rw [hg]; exact (below_size (by repeat (first | (with_reducible first | exact HB.out | apply below_alloc | apply pw_below_drewN | apply below_drew1 | refine below_set ?_ GE274.out | refine below_set ?_ GE275.out) | exact HB.out))) : w.heap.size ≤ gb282))
    have n6_ := aM ((by rw [hg]; exact Nat.ne_of_lt (blk_lt (g := gb274) (o := .cells #[.int .i64 a0_0, .int .i64 a0_1, .string a0_2, .slice A0_3 l0_3.length c0_3, .slice A0_4 l0_4.length c0_4] 25 (0, 0)) (by (with_reducible repeat (first | refine blk_drewN ?_ _ | refine blk_drew ?_ | refine blk_alloc ?_ _)); exact BK274.out)) : gb274 ≠ gb282))
    have n7_ := aM ((by rw [hg]; exact Nat.ne_of_gt (blk_lt (g := gb274) (o := .cells #[.int .i64 a0_0, .int .i64 a0_1, .string a0_2, .slice A0_3 l0_3.length c0_3, .slice A0_4 l0_4.length c0_4] 25 (0, 0)) (by (with_reducible repeat (first | refine blk_drewN ?_ _ | refine blk_drew ?_ | refine blk_alloc ?_ _)); exact BK274.out)) : gb282 ≠ gb274))
    have n8_ := aM ((by rw [hg]; exact Nat.ne_of_lt (blk_lt (g := gb275) (o := .cells #[.int .i64 0, .int .i64 0, .string (⟨#[]⟩ : ByteArray), .slice none 0 0, .slice none 0 0] 36 (0, 0)) (by (with_reducible repeat (first | refine blk_drewN ?_ _ | refine blk_drew ?_ | refine blk_alloc ?_ _)); exact BK275.out)) : gb275 ≠ gb282))
    have n9_ := aM ((by rw [hg]; exact Nat.ne_of_gt (blk_lt (g := gb275) (o := .cells #[.int .i64 0, .int .i64 0, .string (⟨#[]⟩ : ByteArray), .slice none 0 0, .slice none 0 0] 36 (0, 0)) (by (with_reducible repeat (first | refine blk_drewN ?_ _ | refine blk_drew ?_ | refine blk_alloc ?_ _)); exact BK275.out)) : gb282 ≠ gb275))
    clear BK274 BK275 HB; have BK274 := n0_; have BK275 := n1_; have HB := n2_; have BK282 := n3_; have GW282 := n4_; have GE282 := n5_; have NB274_282 := n6_; have NB282_274 := n7_; have NB275_282 := n8_; have NB282_275 := n9_; clear n0_ n1_ n2_ n3_ n4_ n5_ n6_ n7_ n8_ n9_ hb hbox hg
    refine hK.out _ _ ⟨(blk_cell BK274.out 0).trans rfl, (blk_cell BK274.out 1).trans rfl, (blk_cell BK274.out 2).trans rfl, (blk_cell BK274.out 3).trans rfl, (blk_cell BK274.out 4).trans rfl⟩ (fun hHeld => ?_)
    clear hK K
    refine norm_ (a' := ?_) ?_ ?_
    rotate_left
    ·show Act.put _ (some 3) _ = _
     simp only [Act.put, sA, sB, sC, i64_w, i32_w]; rfl
    refine one_ (i := 6) (N := some 11) #[true, true, true, true, true, true, true, true, true, false, false, true, false] rfl rfl (one_of HT_.out (by kernel_rfl)) (by decide) (fun K hK => ?_)
    refine Kd.R_lit_step Kd.string _ 9 ?hg (N := 11) ?hd (xs := ([] : List ByteArray)) (inner := []) (ok := fun _ => True) (okp := fun _ => True) ?hr ?hp (fun _ hk => hk) trivial (Below.refl _ _) (Nat.le_refl _) (by simp) ?_; (case hd => rfl); (case hg => rfl); (case hr => first | (go_simp; done) | (go_simp; rfl)); (case hp => exact (Reps.none _ _))
    intro v277 w7 ho8 hb hg_ hnew_; clear hg_ hnew_
    (first | rw [← Ny276.out] at ho8 | (simp only [Int.reduceToNat] at ho8; rw [← Ny276.out] at ho8))
    have n0_ := aM (Kd.R_lower ho8 (below_size (by repeat (first | (with_reducible first | exact HB.out | apply below_alloc | apply pw_below_drewN | apply below_drew1 | refine below_set ?_ GE274.out | refine below_set ?_ GE275.out | refine below_set ?_ GE282.out) | exact HB.out))))
    have n1_ := aM (blk_below (g := gb274) (o := .cells #[.int .i64 a0_0, .int .i64 a0_1, .string a0_2, .slice A0_3 l0_3.length c0_3, .slice A0_4 l0_4.length c0_4] 25 (0, 0)) (by (with_reducible repeat (first | refine blk_drewN ?_ _ | refine blk_drew ?_ | refine blk_alloc ?_ _)); exact BK274.out) hb)
    have n2_ := aM (blk_below (g := gb275) (o := .cells #[.int .i64 0, .int .i64 0, .string (⟨#[]⟩ : ByteArray), .slice none 0 0, .slice none 0 0] 36 (0, 0)) (by (with_reducible repeat (first | refine blk_drewN ?_ _ | refine blk_drew ?_ | refine blk_alloc ?_ _)); exact BK275.out) hb)
    have n3_ := aM (blk_below (g := gb282) (o := .cells #[.int .i64 0, .int .i64 0, .string (⟨#[]⟩ : ByteArray), .slice none 0 0, .slice none 0 0] 36 (0, 0)) (by (with_reducible repeat (first | refine blk_drewN ?_ _ | refine blk_drew ?_ | refine blk_alloc ?_ _)); exact BK282.out) hb)
    have n4_ := aM (below_step (by repeat (first | (with_reducible first | exact HB.out | apply below_alloc | apply pw_below_drewN | apply below_drew1 | refine below_set ?_ GE274.out | refine below_set ?_ GE275.out | refine below_set ?_ GE282.out) | exact HB.out)) hb)
    clear BK274 BK275 BK282 HB; have HO278 := n0_; have BK274 := n1_; have BK275 := n2_; have BK282 := n3_; have HB := n4_; clear n0_ n1_ n2_ n3_ n4_ hb ho8
    refine hK.out _ _ ⟨(blk_cell BK274.out 0).trans rfl, (blk_cell BK274.out 1).trans rfl, (blk_cell BK274.out 2).trans rfl, (blk_cell BK274.out 3).trans rfl, (blk_cell BK274.out 4).trans rfl⟩ (fun hHeld => ?_)
    clear hK K
    refine norm_ (a' := ?_) ?_ ?_
    rotate_left
    ·show Act.put _ (some 11) _ = _
     simp only [Act.put, sA, sB, sC, i64_w, i32_w]; rfl
    refine one_ (i := 9) (N := some 14) #[true, true, true, true, true, true, true, true, true, true, false, true, false] rfl rfl (one_of HT_.out (by kernel_rfl)) (by decide) (fun K hK => ?_)
    refine Kd.R_append_rows_step Kd.string (w0 := w) w.heap.size (by rfl) (.tmp 11) (.tmp 13) 22 9 (.string ⟨#[]⟩) 16 rfl Try.underlying22 info9 rfl (by decide) (by omega) v277 y276 l0_3 _ _ _ (fun _ => True) (fun _ => False) rfl rfl ?aO ?aR (fun _ _ h => h) (fun _ h => h.elim) ?aF ?aB ?aS ?aL ?_
    (case aR => repeat (first | exact (Kd.C_below HR0_3.out HB.out) | (with_reducible refine Kd.C_alloc ?_ _) | (with_reducible refine Kd.C_drewN ?_ _) | (with_reducible refine Kd.C_drew ?_)))
    (case aB => exact (by repeat (first | (with_reducible first | exact HB.out | apply below_alloc | apply pw_below_drewN | apply below_drew1 | refine below_set ?_ GE274.out | refine below_set ?_ GE275.out | refine below_set ?_ GE282.out) | exact HB.out)))
    (case aF => exact (fun _ _ => trivial))
    (case aO => exact (by (with_reducible repeat (first | apply Kd.R_alloc | apply Kd.R_drewN | apply Kd.R_drew)); exact HO278.out))
    (case aS => exact (below_size (by repeat (first | (with_reducible first | exact HB.out | apply below_alloc | apply pw_below_drewN | apply below_drew1 | refine below_set ?_ GE274.out | refine below_set ?_ GE275.out | refine below_set ?_ GE282.out) | exact HB.out))))
    (case aL => have := LMc2.out; omega)
    intro v280 w9 ho hb hg hat
    rw [← Ny279.out] at ho
    have n0_ := aM (blk_grown (g := gb274) (o := .cells #[.int .i64 a0_0, .int .i64 a0_1, .string a0_2, .slice A0_3 l0_3.length c0_3, .slice A0_4 l0_4.length c0_4] 25 (0, 0)) (by (with_reducible repeat (first | refine blk_drewN ?_ _ | refine blk_drew ?_ | refine blk_alloc ?_ _)); exact BK274.out) hg (Kd.R_ne HO278.out BK274.out (by decide)))
    have n1_ := aM (blk_grown (g := gb275) (o := .cells #[.int .i64 0, .int .i64 0, .string (⟨#[]⟩ : ByteArray), .slice none 0 0, .slice none 0 0] 36 (0, 0)) (by (with_reducible repeat (first | refine blk_drewN ?_ _ | refine blk_drew ?_ | refine blk_alloc ?_ _)); exact BK275.out) hg (Kd.R_ne HO278.out BK275.out (by decide)))
    have n2_ := aM (blk_grown (g := gb282) (o := .cells #[.int .i64 0, .int .i64 0, .string (⟨#[]⟩ : ByteArray), .slice none 0 0, .slice none 0 0] 36 (0, 0)) (by (with_reducible repeat (first | refine blk_drewN ?_ _ | refine blk_drew ?_ | refine blk_alloc ?_ _)); exact BK282.out) hg (Kd.R_ne HO278.out BK282.out (by decide)))
    have n3_ := aM (hb)
    have n4_ := aM (ho)
    clear BK274 BK275 BK282 HB HO278; have BK274 := n0_; have BK275 := n1_; have BK282 := n2_; have HB := n3_; have HO281 := n4_; clear n0_ n1_ n2_ n3_ n4_ ho hb hg hat
    obtain ⟨Ao10, co10, eo10⟩ := Kd.R_slice HO281.out
    (first | subst eo10 | (injection eo10 with f1_ f2_ f3_; have f4_ := f1_.symm; have f5_ := f3_.symm; clear f1_ f2_ f3_; subst f4_; subst f5_))
    refine hK.out _ _ ⟨(blk_cell BK274.out 0).trans rfl, (blk_cell BK274.out 1).trans rfl, (blk_cell BK274.out 2).trans rfl, (blk_cell BK274.out 3).trans rfl, (blk_cell BK274.out 4).trans rfl⟩ (fun hHeld => ?_)
    clear hK K
    refine norm_ (a' := ?_) ?_ ?_
    rotate_left
    ·show Act.put _ (some 14) _ = _
     simp only [Act.put, sA, sB, sC, i64_w, i32_w]; rfl
    refine pure_ (i := 10) (N := some 15) (v := ?_) (a' := ?_) #[true, true, true, true, true, true, true, true, true, true, true, true, false] rfl rfl (any_of HT_.out (by kernel_rfl)) (fun _ _ _ h => h) (Or.inl ⟨by rfl, ?_⟩) ?_ ?_
    rotate_left
    ·intro w'; go_simp; with_reducible rfl
    rotate_left
    ·simp only [Act.put, sA, sB, sC, i64_w, i32_w]; rfl
    exact norm_ (by simp only [putAll, Act.put, sA, sB, sC]) (hCont (v277, .slice Ao10 y279.length co10, gb282) _ ⟨hHeld, (by (with_reducible repeat (first | apply Kd.R_alloc | apply Kd.R_drewN | apply Kd.R_drew)); exact HO281.out), (by (with_reducible repeat (first | refine blk_drewN ?_ _ | refine blk_drew ?_ | refine blk_alloc ?_ _)); exact BK274.out), (by (with_reducible repeat (first | refine blk_drewN ?_ _ | refine blk_drew ?_ | refine blk_alloc ?_ _)); exact BK275.out), (by (with_reducible repeat (first | refine blk_drewN ?_ _ | refine blk_drew ?_ | refine blk_alloc ?_ _)); exact BK282.out), GW282.out, GE282.out, NB274_282.out, NB282_274.out, NB275_282.out, NB282_275.out, (by repeat (first | (with_reducible first | exact HB.out | apply below_alloc | apply pw_below_drewN | apply below_drew1 | refine below_set ?_ GE274.out | refine below_set ?_ GE275.out | refine below_set ?_ GE282.out) | exact HB.out))⟩)
  rintro ⟨v277, v280, gb282⟩ w11 ⟨hS_, h0_, h1_, h2_, h3_, h4_, h5_, h6_, h7_, h8_, h9_, h10_⟩
  have n0_ : Aside0 (Kd.R Kd.string 9 w11 w.heap.size (fun _ => True) v280 y279) := ⟨h0_⟩
  have n1_ : Aside0 (w11.heap[gb274]? = some (.cells #[.int .i64 a0_0, .int .i64 a0_1, .string a0_2, .slice A0_3 l0_3.length c0_3, .slice A0_4 l0_4.length c0_4] 25 (0, 0))) := ⟨h1_⟩
  have n2_ : Aside0 (w11.heap[gb275]? = some (.cells #[.int .i64 0, .int .i64 0, .string (⟨#[]⟩ : ByteArray), .slice none 0 0, .slice none 0 0] 36 (0, 0))) := ⟨h2_⟩
  have n3_ : Aside0 (w11.heap[gb282]? = some (.cells #[.int .i64 0, .int .i64 0, .string (⟨#[]⟩ : ByteArray), .slice none 0 0, .slice none 0 0] 36 (0, 0))) := ⟨h3_⟩
  have n4_ : Aside0 (w.heap.size ≤ gb282) := ⟨h4_⟩
  have n5_ : Aside0 (w.heap.size ≤ gb282) := ⟨h5_⟩
  have n6_ : Aside0 (gb274 ≠ gb282) := ⟨h6_⟩
  have n7_ : Aside0 (gb282 ≠ gb274) := ⟨h7_⟩
  have n8_ : Aside0 (gb275 ≠ gb282) := ⟨h8_⟩
  have n9_ : Aside0 (gb282 ≠ gb275) := ⟨h9_⟩
  have n10_ : Aside0 (Below w.heap.size w w11) := ⟨h10_⟩
  clear BK274 BK275 HB h0_ h1_ h2_ h3_ h4_ h5_ h6_ h7_ h8_ h9_ h10_; have HO281 := n0_; have BK274 := n1_; have BK275 := n2_; have BK282 := n3_; have GW282 := n4_; have GE282 := n5_; have NB274_282 := n6_; have NB282_274 := n7_; have NB275_282 := n8_; have NB282_275 := n9_; have HB := n10_; clear n0_ n1_ n2_ n3_ n4_ n5_ n6_ n7_ n8_ n9_ n10_
  have hHeld : w11.cell? ⟨gb274, 0, none⟩ = some (.int .i64 a0_0) ∧ w11.cell? ⟨gb274, 1, none⟩ = some (.int .i64 a0_1) ∧ w11.cell? ⟨gb274, 2, none⟩ = some (.string a0_2) ∧ w11.cell? ⟨gb274, 3, none⟩ = some (.slice A0_3 l0_3.length c0_3) ∧ w11.cell? ⟨gb274, 4, none⟩ = some (.slice A0_4 l0_4.length c0_4) := hS_
  obtain ⟨Ao12, co12, eo12⟩ := Kd.R_slice HO281.out
  (first | subst eo12 | (injection eo12 with f1_ f2_ f3_; have f4_ := f1_.symm; have f5_ := f3_.symm; clear f1_ f2_ f3_; subst f4_; subst f5_))
  refine norm_ (a' := ?_) ?_ ?_
  rotate_left
  ·simp only [putAll, Act.put, sA, sB, sC]
   rfl
  refine one_ (i := 12) (N := none) #[true, true, true, true, true, true, true, true, true, true, true, true, true] rfl rfl (one_of HT_.out (by kernel_rfl)) (by decide) (fun K hK => ?_)
  have hs13 : w11.cell? ⟨gb282, 0, none⟩ = some (.int .i64 0) := (blk_cell BK282.out 0).trans rfl
  have hfs13 := blk_frozen BK282.out 0
  have hns13_0 := NB274_282.out
  have hns13_1 := NB275_282.out
  have hms13_0 := NB282_274.out
  have hms13_1 := NB282_275.out
  have hs14 : w11.cell? ⟨gb282, 1, none⟩ = some (.int .i64 0) := (blk_cell BK282.out 1).trans rfl
  have hfs14 := blk_frozen BK282.out 1
  have hns14_0 := NB274_282.out
  have hns14_1 := NB275_282.out
  have hms14_0 := NB282_274.out
  have hms14_1 := NB282_275.out
  have hs15 : w11.cell? ⟨gb282, 2, none⟩ = some (.string (⟨#[]⟩ : ByteArray)) := (blk_cell BK282.out 2).trans rfl
  have hfs15 := blk_frozen BK282.out 2
  have hns15_0 := NB274_282.out
  have hns15_1 := NB275_282.out
  have hms15_0 := NB282_274.out
  have hms15_1 := NB282_275.out
  have hs16 : w11.cell? ⟨gb282, 3, none⟩ = some (.slice none 0 0) := (blk_cell BK282.out 3).trans rfl
  have hfs16 := blk_frozen BK282.out 3
  have hns16_0 := NB274_282.out
  have hns16_1 := NB275_282.out
  have hms16_0 := NB282_274.out
  have hms16_1 := NB282_275.out
  have hs17 : w11.cell? ⟨gb282, 4, none⟩ = some (.slice none 0 0) := (blk_cell BK282.out 4).trans rfl
  have hfs17 := blk_frozen BK282.out 4
  have hns17_0 := NB274_282.out
  have hns17_1 := NB275_282.out
  have hms17_0 := NB282_274.out
  have hms17_1 := NB282_275.out
  refine skip_ (w1 := ?_) (by rfl) rfl ?_ ?_
  rotate_left
  ·go_simp; rfl
  refine hK.out _ _ ⟨((cell_far (p := ⟨gb282, _, none⟩) NB274_282.out _).trans (((cell_far (p := ⟨gb282, _, none⟩) NB274_282.out _).trans (((cell_far (p := ⟨gb282, _, none⟩) NB274_282.out _).trans (((cell_far (p := ⟨gb282, _, none⟩) NB274_282.out _).trans (((cell_far (p := ⟨gb282, _, none⟩) NB274_282.out _).trans (hHeld.1)))))))))), ((cell_far (p := ⟨gb282, _, none⟩) NB274_282.out _).trans (((cell_far (p := ⟨gb282, _, none⟩) NB274_282.out _).trans (((cell_far (p := ⟨gb282, _, none⟩) NB274_282.out _).trans (((cell_far (p := ⟨gb282, _, none⟩) NB274_282.out _).trans (((cell_far (p := ⟨gb282, _, none⟩) NB274_282.out _).trans (hHeld.2.1)))))))))), ((cell_far (p := ⟨gb282, _, none⟩) NB274_282.out _).trans (((cell_far (p := ⟨gb282, _, none⟩) NB274_282.out _).trans (((cell_far (p := ⟨gb282, _, none⟩) NB274_282.out _).trans (((cell_far (p := ⟨gb282, _, none⟩) NB274_282.out _).trans (((cell_far (p := ⟨gb282, _, none⟩) NB274_282.out _).trans (hHeld.2.2.1)))))))))), ((cell_far (p := ⟨gb282, _, none⟩) NB274_282.out _).trans (((cell_far (p := ⟨gb282, _, none⟩) NB274_282.out _).trans (((cell_far (p := ⟨gb282, _, none⟩) NB274_282.out _).trans (((cell_far (p := ⟨gb282, _, none⟩) NB274_282.out _).trans (((cell_far (p := ⟨gb282, _, none⟩) NB274_282.out _).trans (hHeld.2.2.2.1)))))))))), ((cell_far (p := ⟨gb282, _, none⟩) NB274_282.out _).trans (((cell_far (p := ⟨gb282, _, none⟩) NB274_282.out _).trans (((cell_far (p := ⟨gb282, _, none⟩) NB274_282.out _).trans (((cell_far (p := ⟨gb282, _, none⟩) NB274_282.out _).trans (((cell_far (p := ⟨gb282, _, none⟩) NB274_282.out _).trans (hHeld.2.2.2.2))))))))))⟩ (fun hHeld => ?_)
  clear hK K
  refine done_ (done_of HT_.out (by kernel_rfl)) ?_
  try go_wp2
  go_loopg [4] k (fun kq v4 w' => ∃ (x4_1 : Int) (x283004_1 : List (S36)) (u283004 : Value), v4 = .int .i64 x4_1 ∧ Aside0 (laws_to.l0 kq x4_1 a0_0 a0_1 a0_2 l0_3 l0_4 a0_0 a0_1 a0_2 y279 x283004_1 = some (r1, r2, r3, r4, r5)) ∧ Aside0 (kq ≤ k) ∧ Aside0 (Kd.R Kd.string 9 w' w.heap.size (fun _ => True) (.slice Ao12 y279.length co12) y279) ∧ Aside0 (Kd.R k36 36 w' w.heap.size (fun k_ => some k_ ≠ ((.slice Ao12 y279.length co12) : Value).ownBlock ∧ k_ ≠ gb275 ∧ k_ ≠ gb282) u283004 x283004_1) ∧ Aside0 (w'.heap[gb274]? = some (.cells #[.int .i64 a0_0, .int .i64 a0_1, .string a0_2, (.slice A0_3 l0_3.length c0_3), (.slice A0_4 l0_4.length c0_4)] 25 (0, 0))) ∧ Aside0 (w'.heap[gb275]? = some (.cells #[.int .i64 0, .int .i64 0, .string (⟨#[]⟩ : ByteArray), (.slice none 0 0), (.slice none 0 0)] 36 (0, 0))) ∧ Aside0 (w'.heap[gb282]? = some (.cells #[.int .i64 a0_0, .int .i64 a0_1, .string a0_2, (.slice Ao12 y279.length co12), u283004] 36 (0, 0))) ∧ Aside0 (Below w.heap.size w w'))
  case atStart => exact ⟨(0), (([] : List (S36))), (.slice none 0 0), (by first | rfl | (simp; done) | (simp [*]; done)), H', ⟨Nat.le_refl _⟩, ⟨by (with_reducible repeat (first | apply Kd.R_alloc | apply Kd.R_drewN | apply Kd.R_drew)); exact Kd.R_mono (Kd.R_far (p := ⟨gb282, 4, none⟩) (Kd.R_far (p := ⟨gb282, 3, none⟩) (Kd.R_far (p := ⟨gb282, 2, none⟩) (Kd.R_far (p := ⟨gb282, 1, none⟩) (Kd.R_far (p := ⟨gb282, 0, none⟩) (Kd.R_types HO281.out BK282.out (by decide)) (fun _ hk => hk.2) (.int .i64 a0_0)) (fun _ hk => hk.2) (.int .i64 a0_1)) (fun _ hk => hk.2) (.string a0_2)) (fun _ hk => hk.2) (.slice Ao12 y279.length co12)) (fun _ hk => hk.2) (.slice none 0 0)) (fun _ hk => trivial)⟩, ⟨by first | exact Kd.R_nil _ _ _ _ _ | exact Kd.N_nil _ _ _ _ _ | exact Kd.V_nil _ _ _ _ _ | exact Kd.Q_nil _ _ _ _ _ | exact Kd.S_nil _ _ _ _ _⟩, ⟨by (with_reducible repeat (first | refine blk_drewN ?_ _ | refine blk_drew ?_ | refine blk_alloc ?_ _)); refine blk_far ?_ NB274_282.out _; (with_reducible repeat (first | refine blk_drewN ?_ _ | refine blk_drew ?_ | refine blk_alloc ?_ _)); refine blk_far ?_ NB274_282.out _; (with_reducible repeat (first | refine blk_drewN ?_ _ | refine blk_drew ?_ | refine blk_alloc ?_ _)); refine blk_far ?_ NB274_282.out _; (with_reducible repeat (first | refine blk_drewN ?_ _ | refine blk_drew ?_ | refine blk_alloc ?_ _)); refine blk_far ?_ NB274_282.out _; (with_reducible repeat (first | refine blk_drewN ?_ _ | refine blk_drew ?_ | refine blk_alloc ?_ _)); refine blk_far ?_ NB274_282.out _; (with_reducible repeat (first | refine blk_drewN ?_ _ | refine blk_drew ?_ | refine blk_alloc ?_ _)); exact BK274.out⟩, ⟨by (with_reducible repeat (first | refine blk_drewN ?_ _ | refine blk_drew ?_ | refine blk_alloc ?_ _)); refine blk_far ?_ NB275_282.out _; (with_reducible repeat (first | refine blk_drewN ?_ _ | refine blk_drew ?_ | refine blk_alloc ?_ _)); refine blk_far ?_ NB275_282.out _; (with_reducible repeat (first | refine blk_drewN ?_ _ | refine blk_drew ?_ | refine blk_alloc ?_ _)); refine blk_far ?_ NB275_282.out _; (with_reducible repeat (first | refine blk_drewN ?_ _ | refine blk_drew ?_ | refine blk_alloc ?_ _)); refine blk_far ?_ NB275_282.out _; (with_reducible repeat (first | refine blk_drewN ?_ _ | refine blk_drew ?_ | refine blk_alloc ?_ _)); refine blk_far ?_ NB275_282.out _; (with_reducible repeat (first | refine blk_drewN ?_ _ | refine blk_drew ?_ | refine blk_alloc ?_ _)); exact BK275.out⟩, ⟨by (with_reducible repeat (first | refine blk_drewN ?_ _ | refine blk_drew ?_ | refine blk_alloc ?_ _)); refine blk_put (cs := #[.int .i64 a0_0, .int .i64 a0_1, .string a0_2, .slice Ao12 y279.length co12, .slice none 0 0]) ?_ 4 _ rfl; (with_reducible repeat (first | refine blk_drewN ?_ _ | refine blk_drew ?_ | refine blk_alloc ?_ _)); refine blk_put (cs := #[.int .i64 a0_0, .int .i64 a0_1, .string a0_2, .slice none 0 0, .slice none 0 0]) ?_ 3 _ rfl; (with_reducible repeat (first | refine blk_drewN ?_ _ | refine blk_drew ?_ | refine blk_alloc ?_ _)); refine blk_put (cs := #[.int .i64 a0_0, .int .i64 a0_1, .string (⟨#[]⟩ : ByteArray), .slice none 0 0, .slice none 0 0]) ?_ 2 _ rfl; (with_reducible repeat (first | refine blk_drewN ?_ _ | refine blk_drew ?_ | refine blk_alloc ?_ _)); refine blk_put (cs := #[.int .i64 a0_0, .int .i64 0, .string (⟨#[]⟩ : ByteArray), .slice none 0 0, .slice none 0 0]) ?_ 1 _ rfl; (with_reducible repeat (first | refine blk_drewN ?_ _ | refine blk_drew ?_ | refine blk_alloc ?_ _)); refine blk_put (cs := #[.int .i64 0, .int .i64 0, .string (⟨#[]⟩ : ByteArray), .slice none 0 0, .slice none 0 0]) ?_ 0 _ rfl; (with_reducible repeat (first | refine blk_drewN ?_ _ | refine blk_drew ?_ | refine blk_alloc ?_ _)); exact BK282.out⟩, ⟨by repeat (first | (with_reducible first | exact HB.out | apply below_alloc | apply pw_below_drewN | apply below_drew1 | refine below_set ?_ GE274.out | refine below_set ?_ GE275.out | refine below_set ?_ GE282.out) | exact HB.out)⟩⟩
  case round =>
   clear H'
   try clear c1
   try clear c2
   try clear p2
   try clear c13
   obtain ⟨x4_1, x283004_1, u283004, rfl, HA, HK1, HO_283003, HO_283004, BK274, BK275, BK282, HB⟩ := hrel
   cases gk with
   | zero => exact absurd HA.out (by simp [laws_to.l0])
   | succ k1 =>
    have H := HA.out
    clear HA
    simp only [laws_to.l0] at H
    by_cases c18 : x4_1 < (l0_4.length : Int)
    ·rw [if_pos c18] at H
     have c18b0 : decide (x4_1 < (l0_4.length : Int)) = true := decide_eq_true c18
     clear c18
     by_cases c19 : 0 ≤ x4_1
     ·rw [if_pos c19] at H
      have c19b0 : decide (0 ≤ x4_1) = true := decide_eq_true c19
      clear c19
      replace H := Option.bind_eq_some_iff.mp H
      obtain ⟨⟨t284, t285, t286, t287, t290⟩, A200, H⟩ := H
      replace H : (if x283004_1.length < 1759218604441 then (laws_to.l0 k1 (wrap64 (x4_1 + 1)) a0_0 a0_1 a0_2 l0_3 l0_4 a0_0 a0_1 a0_2 y279 (x283004_1 ++ [(⟨t284, t285, t286, t287, t290⟩ : S36)])) else (none)) = some (r1, r2, r3, r4, r5) := H
      have A20 := aM A200
      clear A200
      by_cases c21 : x283004_1.length < 1759218604441
      ·rw [if_pos c21] at H
       have LMc21 := aM c21
       clear c21
       obtain ⟨y293, hy293⟩ : ∃ y_ : List (S36), y_ = (x283004_1 ++ [(⟨t284, t285, t286, t287, t290⟩ : S36)]) := ⟨_, rfl⟩
       replace H : (laws_to.l0 k1 (wrap64 (x4_1 + 1)) a0_0 a0_1 a0_2 l0_3 l0_4 a0_0 a0_1 a0_2 y279 y293) = some (r1, r2, r3, r4, r5) := by first | (rw [hy293]; with_reducible exact H) | (have H2_ := (Option.bind_some _ _).symm.trans H; rw [hy293]; with_reducible exact H2_) | (have H2_ := (Option.bind_some _ _).symm.trans H; with_reducible exact H2_) | with_reducible exact H | (rw [hy293]; exact H) | exact H
       have Ny293 := aM hy293
       clear hy293
       have H' := aM H
       clear H
       have hnb22 := NB274_275.out
       have hnc22 := NB275_274.out
       have hnb23 := NB274_282.out
       have hnc23 := NB282_274.out
       have hcz24_0 : wr.cell? ⟨gb274, 0, none⟩ = some (.int .i64 a0_0) := (blk_cell BK274.out 0).trans rfl
       have hcz24_1 : wr.cell? ⟨gb274, 1, none⟩ = some (.int .i64 a0_1) := (blk_cell BK274.out 1).trans rfl
       have hcz24_2 : wr.cell? ⟨gb274, 2, none⟩ = some (.string a0_2) := (blk_cell BK274.out 2).trans rfl
       have hcz24_3 : wr.cell? ⟨gb274, 3, none⟩ = some (.slice A0_3 l0_3.length c0_3) := (blk_cell BK274.out 3).trans rfl
       have hcz24_4 : wr.cell? ⟨gb274, 4, none⟩ = some (.slice A0_4 l0_4.length c0_4) := (blk_cell BK274.out 4).trans rfl
       have hfz24_0 := blk_frozen BK274.out 0
       have hfz24_1 := blk_frozen BK274.out 1
       have hfz24_2 := blk_frozen BK274.out 2
       have hfz24_3 := blk_frozen BK274.out 3
       have hfz24_4 := blk_frozen BK274.out 4
       try go_wp2
       have n0_ := aM (Kd.R_drew HO_283003.out)
       have n1_ := aM (Kd.R_drew HO_283004.out)
       have n2_ := aM (blk_drew BK274.out)
       have n3_ := aM (blk_drew BK275.out)
       have n4_ := aM (blk_drew BK282.out)
       have n5_ := aM (below_drew1 HB.out)
       clear HO_283003 HO_283004 BK274 BK275 BK282 HB; have HO_283003 := n0_; have HO_283004 := n1_; have BK274 := n2_; have BK275 := n3_; have BK282 := n4_; have HB := n5_; clear n0_ n1_ n2_ n3_ n4_ n5_
       have p283 : 0 ≤ (x4_1 : Int) := of_decide_eq_true (by first | (with_reducible assumption) | assumption)
       have q283 : x4_1 < (l0_4.length : Int) := of_decide_eq_true (by first | (with_reducible assumption) | assumption)
       obtain ⟨ad283, A283_3, c283_3, A283_4, c283_4, e283, hx283_0, hx283_1, hx283_2, hx283_3, hx283_4, hl283_3, hi283_3, hl283_4, hi283_4⟩ := at_T25 HR0_4.out x4_1 p283 q283
       have hw283_4 := hx283_4
       have hw283_3 := hx283_3
       have hw283_2 := hx283_2
       have hw283_1 := hx283_1
       have hw283_0 := hx283_0
       cases e283
       replace hx283_0 := (HB.out.cell (World.block_lt_of_cell? w _ hx283_0)).trans hx283_0
       replace hx283_1 := (HB.out.cell (World.block_lt_of_cell? w _ hx283_1)).trans hx283_1
       replace hx283_2 := (HB.out.cell (World.block_lt_of_cell? w _ hx283_2)).trans hx283_2
       replace hx283_3 := (HB.out.cell (World.block_lt_of_cell? w _ hx283_3)).trans hx283_3
       replace hx283_4 := (HB.out.cell (World.block_lt_of_cell? w _ hx283_4)).trans hx283_4
       have HR283_3 := aM hi283_3
       have HC283_3 := aM hl283_3
       clear hi283_3 hl283_3
       have HR283_4 := aM hi283_4
       have HC283_4 := aM hl283_4
       clear hi283_4 hl283_4
       replace p283 := eq_true p283
       replace q283 := eq_true q283
       refine start_ (n := 12) (S := fun w' => w'.cell? ⟨gb282, 0, none⟩ = some (.int .i64 a0_0) ∧ w'.cell? ⟨gb282, 1, none⟩ = some (.int .i64 a0_1) ∧ w'.cell? ⟨gb282, 2, none⟩ = some (.string a0_2) ∧ w'.cell? ⟨gb282, 3, none⟩ = some (.slice Ao12 y279.length co12) ∧ w'.cell? ⟨gb282, 4, none⟩ = some (u283004) ∧ w'.cell? ⟨gb274, 0, none⟩ = some (.int .i64 a0_0) ∧ w'.cell? ⟨gb274, 1, none⟩ = some (.int .i64 a0_1) ∧ w'.cell? ⟨gb274, 2, none⟩ = some (.string a0_2) ∧ w'.cell? ⟨gb274, 3, none⟩ = some (.slice A0_3 l0_3.length c0_3) ∧ w'.cell? ⟨gb274, 4, none⟩ = some (.slice (some ad283) l0_4.length c0_4) ∧ w'.cell? (ad283.add ((x4_1).toNat * 5)) = some (.int .i64 ((rd_T25 l0_4 x4_1).f0)) ∧ w'.cell? ⟨(ad283.add ((x4_1).toNat * 5)).block, (ad283.add ((x4_1).toNat * 5)).off + 1, none⟩ = some (.int .i64 ((rd_T25 l0_4 x4_1).f1)) ∧ w'.cell? ⟨(ad283.add ((x4_1).toNat * 5)).block, (ad283.add ((x4_1).toNat * 5)).off + 2, none⟩ = some (.string ((rd_T25 l0_4 x4_1).f2)) ∧ w'.cell? ⟨(ad283.add ((x4_1).toNat * 5)).block, (ad283.add ((x4_1).toNat * 5)).off + 3, none⟩ = some (.slice A283_3 ((rd_T25 l0_4 x4_1).f3).length c283_3) ∧ w'.cell? ⟨(ad283.add ((x4_1).toNat * 5)).block, (ad283.add ((x4_1).toNat * 5)).off + 4, none⟩ = some (.slice A283_4 ((rd_T25 l0_4 x4_1).f4).length c283_4)) (ds := [11]) #[false, false, false, false, false, false, false, false, false, false, false, false] (by kernel_rfl) rfl rfl ⟨(blk_cell BK282.out 0).trans rfl, (blk_cell BK282.out 1).trans rfl, (blk_cell BK282.out 2).trans rfl, (blk_cell BK282.out 3).trans rfl, (blk_cell BK282.out 4).trans rfl, (blk_cell BK274.out 0).trans rfl, (blk_cell BK274.out 1).trans rfl, (blk_cell BK274.out 2).trans rfl, (blk_cell BK274.out 3).trans rfl, (blk_cell BK274.out 4).trans rfl, ((HB.out.cell (World.block_lt_of_cell? w _ hw283_0)).trans hw283_0), ((HB.out.cell (World.block_lt_of_cell? w _ hw283_1)).trans hw283_1), ((HB.out.cell (World.block_lt_of_cell? w _ hw283_2)).trans hw283_2), ((HB.out.cell (World.block_lt_of_cell? w _ hw283_3)).trans hw283_3), ((HB.out.cell (World.block_lt_of_cell? w _ hw283_4)).trans hw283_4)⟩ (fun hHeld => ?_); refine with_tabW laws_to.tab5 laws_to.bits5 (fun HT_ HW_ => ?_)
       generalize wr.drew = w25 at HO_283003 HO_283004 BK274 BK275 BK282 HB HR283_3 HR283_4 hx283_0 hx283_1 hx283_2 hx283_3 hx283_4 hHeld ⊢
       refine pure_ (i := 0) (N := some 23) (v := ?_) (a' := ?_) #[true, false, false, false, false, false, false, false, false, false, false, false] rfl rfl (any_of HT_.out (by kernel_rfl)) (fun _ _ _ h => h) (Or.inl ⟨by rfl, ?_⟩) ?_ ?_
       rotate_left
       ·intro w'; go_simp; with_reducible rfl
       rotate_left
       ·simp only [Act.put, sA, sB, sC, i64_w, i32_w]; rfl
       refine pure_ (i := 2) (N := some 25) (v := ?_) (a' := ?_) #[true, false, true, false, false, false, false, false, false, false, false, false] rfl rfl (any_of HT_.out (by kernel_rfl)) (fun _ _ _ h => h) (Or.inl ⟨by rfl, ?_⟩) ?_ ?_
       rotate_left
       ·intro w'; go_simp; with_reducible rfl
       rotate_left
       ·simp only [Act.put, sA, sB, sC, i64_w, i32_w]; rfl
       refine pure_ (i := 4) (N := some 27) (v := ?_) (a' := ?_) #[true, false, true, false, true, false, false, false, false, false, false, false] rfl rfl (any_of HT_.out (by kernel_rfl)) (fun _ _ _ h => h) (Or.inl ⟨by rfl, ?_⟩) ?_ ?_
       rotate_left
       ·intro w'; go_simp; with_reducible rfl
       rotate_left
       ·simp only [Act.put, sA, sB, sC, i64_w, i32_w]; rfl
       refine take_ (i := 1) (N := some 24) (v := ?_) (a' := ?_) #[true, true, true, false, true, false, false, false, false, false, false, false] rfl rfl (take_ofW HT_.out HW_.out (by kernel_rfl)) (fun _ _ _ h => h) (Or.inl ⟨by rfl, ?_⟩) hHeld ?_ ?_
       rotate_left
       ·rintro w' ⟨s0, s1, s2, s3, s4, s5, s6, s7, s8, s9, s10, s11, s12, s13, s14⟩
        go_simp; with_reducible rfl
       rotate_left
       ·simp only [Act.put, sA, sB, sC, i64_w, i32_w]; rfl
       refine take_ (i := 3) (N := some 26) (v := ?_) (a' := ?_) #[true, true, true, true, true, false, false, false, false, false, false, false] rfl rfl (take_ofW HT_.out HW_.out (by kernel_rfl)) (fun _ _ _ h => h) (Or.inl ⟨by rfl, ?_⟩) hHeld ?_ ?_
       rotate_left
       ·rintro w' ⟨s0, s1, s2, s3, s4, s5, s6, s7, s8, s9, s10, s11, s12, s13, s14⟩
        go_simp; with_reducible rfl
       rotate_left
       ·simp only [Act.put, sA, sB, sC, i64_w, i32_w]; rfl
       refine pure_ (i := 5) (N := some 28) (v := ?_) (a' := ?_) #[true, true, true, true, true, true, false, false, false, false, false, false] rfl rfl (any_of HT_.out (by kernel_rfl)) (fun _ _ _ h => h) (Or.inl ⟨by rfl, ?_⟩) ?_ ?_
       rotate_left
       ·intro w'; go_simp; with_reducible rfl
       rotate_left
       ·simp only [Act.put, sA, sB, sC, i64_w, i32_w]; rfl
       refine take_ (i := 6) (N := some 29) (v := ?_) (a' := ?_) #[true, true, true, true, true, true, true, false, false, false, false, false] rfl rfl (take_ofW HT_.out HW_.out (by kernel_rfl)) (fun _ _ _ h => h) (Or.inl ⟨by rfl, ?_⟩) hHeld ?_ ?_
       rotate_left
       ·rintro w' ⟨s0, s1, s2, s3, s4, s5, s6, s7, s8, s9, s10, s11, s12, s13, s14⟩
        go_simp; with_reducible rfl
       rotate_left
       ·simp only [Act.put, sA, sB, sC, i64_w, i32_w]; rfl
       refine one_ (i := 7) (N := some 30) #[true, true, true, true, true, true, true, true, false, false, false, false] rfl rfl (one_of HT_.out (by kernel_rfl)) (by decide) (fun K hK => ?_)
       refine goes_ Try.func13 (by kernel_rfl) rfl #[.agg #[.int .i64 ((rd_T25 l0_4 x4_1).f0), .int .i64 ((rd_T25 l0_4 x4_1).f1), .string ((rd_T25 l0_4 x4_1).f2), .slice A283_3 ((rd_T25 l0_4 x4_1).f3).length c283_3, .slice A283_4 ((rd_T25 l0_4 x4_1).f4).length c283_4]] (by rfl) rfl rfl (by (try simp only [List.map_toArray, List.map_cons, List.map_nil]); first | done | rfl | (simp only [List.length_drop, List.length_take]; rfl)) ?_
       with_reducible refine (ih k1 (by have := HK1.out; omega) ((rd_T25 l0_4 x4_1).f0) ((rd_T25 l0_4 x4_1).f1) ((rd_T25 l0_4 x4_1).f2) _ _ ((rd_T25 l0_4 x4_1).f3) _ _ ((rd_T25 l0_4 x4_1).f4) t284 t285 t286 t287 t290 _ ?side1 ?side2 ?side3 ?side4 A20.out).mono ?_
       (case side1 => repeat (first | exact (Kd.C_below HR283_3.out HB.out) | (with_reducible refine Kd.C_alloc ?_ _) | (with_reducible refine Kd.C_drewN ?_ _) | (with_reducible refine Kd.C_drew ?_)))
       (case side2 => exact HC283_3.out)
       (case side3 => repeat (first | exact (Kd.C_below HR283_4.out HB.out) | (with_reducible refine Kd.C_alloc ?_ _) | (with_reducible refine Kd.C_drewN ?_ _) | (with_reducible refine Kd.C_drew ?_)))
       (case side4 => exact HC283_4.out)
       rintro e w26 ⟨v288, v291, rfl, ho0, ho1, hb⟩
       refine ⟨_, rfl, ?_⟩
       have n0_ := aM (Kd.R_elder' (by (with_reducible repeat (first | apply Kd.R_alloc | apply Kd.R_drewN | apply Kd.R_drew)); exact HO_283003.out) (Kd.R_base ho0) hb)
       have n1_ := aM (Kd.R_mono (Kd.R_told (Kd.R_told (Kd.R_old (by (with_reducible repeat (first | apply Kd.R_alloc | apply Kd.R_drewN | apply Kd.R_drew)); exact HO_283004.out) hb) (Kd.R_base ho0)) (Kd.R_base ho1)) (fun _ h_ => h_.1))
       have n2_ := aM (Kd.R_lower (Kd.R_new' ho0 (Kd.R_lt (by (with_reducible repeat (first | apply Kd.R_alloc | apply Kd.R_drewN | apply Kd.R_drew)); exact HO_283003.out))) (below_size (by repeat (first | (with_reducible first | exact HB.out | apply below_alloc | apply pw_below_drewN | apply below_drew1 | refine below_set ?_ GE274.out | refine below_set ?_ GE275.out | refine below_set ?_ GE282.out) | exact HB.out))))
       have n3_ := aM (Kd.R_lower (Kd.R_newB (Kd.R_newB (Kd.R_new' (Kd.R_new' ho1 (Kd.R_lt (by (with_reducible repeat (first | apply Kd.R_alloc | apply Kd.R_drewN | apply Kd.R_drew)); exact HO_283003.out))) (Kd.R_lt (by (with_reducible repeat (first | apply Kd.R_alloc | apply Kd.R_drewN | apply Kd.R_drew)); exact HO_283004.out))) (g := gb275) (o := .cells #[.int .i64 0, .int .i64 0, .string (⟨#[]⟩ : ByteArray), .slice none 0 0, .slice none 0 0] 36 (0, 0)) (by (with_reducible repeat (first | refine blk_drewN ?_ _ | refine blk_drew ?_ | refine blk_alloc ?_ _)); exact BK275.out)) (g := gb282) (o := .cells #[.int .i64 a0_0, .int .i64 a0_1, .string a0_2, .slice Ao12 y279.length co12, u283004] 36 (0, 0)) (by (with_reducible repeat (first | refine blk_drewN ?_ _ | refine blk_drew ?_ | refine blk_alloc ?_ _)); exact BK282.out)) (below_size (by repeat (first | (with_reducible first | exact HB.out | apply below_alloc | apply pw_below_drewN | apply below_drew1 | refine below_set ?_ GE274.out | refine below_set ?_ GE275.out | refine below_set ?_ GE282.out) | exact HB.out))))
       have n4_ := aM (blk_below (g := gb274) (o := .cells #[.int .i64 a0_0, .int .i64 a0_1, .string a0_2, .slice A0_3 l0_3.length c0_3, .slice (some ad283) l0_4.length c0_4] 25 (0, 0)) (by (with_reducible repeat (first | refine blk_drewN ?_ _ | refine blk_drew ?_ | refine blk_alloc ?_ _)); exact BK274.out) hb)
       have n5_ := aM (blk_below (g := gb275) (o := .cells #[.int .i64 0, .int .i64 0, .string (⟨#[]⟩ : ByteArray), .slice none 0 0, .slice none 0 0] 36 (0, 0)) (by (with_reducible repeat (first | refine blk_drewN ?_ _ | refine blk_drew ?_ | refine blk_alloc ?_ _)); exact BK275.out) hb)
       have n6_ := aM (blk_below (g := gb282) (o := .cells #[.int .i64 a0_0, .int .i64 a0_1, .string a0_2, .slice Ao12 y279.length co12, u283004] 36 (0, 0)) (by (with_reducible repeat (first | refine blk_drewN ?_ _ | refine blk_drew ?_ | refine blk_alloc ?_ _)); exact BK282.out) hb)
       have n7_ := aM (below_step (by repeat (first | (with_reducible first | exact HB.out | apply below_alloc | apply pw_below_drewN | apply below_drew1 | refine below_set ?_ GE274.out | refine below_set ?_ GE275.out | refine below_set ?_ GE282.out) | exact HB.out)) hb)
       clear HO_283003 HO_283004 BK274 BK275 BK282 HB; have HO_283003 := n0_; have HO_283004 := n1_; have HO289 := n2_; have HO292 := n3_; have BK274 := n4_; have BK275 := n5_; have BK282 := n6_; have HB := n7_; clear n0_ n1_ n2_ n3_ n4_ n5_ n6_ n7_
       (try clear hb)
       (try clear hb2)
       (try clear hk)
       (try clear hi)
       (try clear ho0)
       (try clear ho1)
       obtain ⟨Ao28, co28, eo28⟩ := Kd.R_slice HO289.out
       (first | subst eo28 | (injection eo28 with f1_ f2_ f3_; have f4_ := f1_.symm; have f5_ := f3_.symm; clear f1_ f2_ f3_; subst f4_; subst f5_))
       obtain ⟨Ao29, co29, eo29⟩ := Kd.R_slice HO292.out
       (first | subst eo29 | (injection eo29 with f1_ f2_ f3_; have f4_ := f1_.symm; have f5_ := f3_.symm; clear f1_ f2_ f3_; subst f4_; subst f5_))
       refine hK.out _ _ ⟨(blk_cell BK282.out 0).trans rfl, (blk_cell BK282.out 1).trans rfl, (blk_cell BK282.out 2).trans rfl, (blk_cell BK282.out 3).trans rfl, (blk_cell BK282.out 4).trans rfl, (blk_cell BK274.out 0).trans rfl, (blk_cell BK274.out 1).trans rfl, (blk_cell BK274.out 2).trans rfl, (blk_cell BK274.out 3).trans rfl, (blk_cell BK274.out 4).trans rfl, ((HB.out.cell (World.block_lt_of_cell? w _ hw283_0)).trans hw283_0), ((HB.out.cell (World.block_lt_of_cell? w _ hw283_1)).trans hw283_1), ((HB.out.cell (World.block_lt_of_cell? w _ hw283_2)).trans hw283_2), ((HB.out.cell (World.block_lt_of_cell? w _ hw283_3)).trans hw283_3), ((HB.out.cell (World.block_lt_of_cell? w _ hw283_4)).trans hw283_4)⟩ (fun hHeld => ?_)
       clear hK K
       refine norm_ (a' := ?_) ?_ ?_
       rotate_left
       ·show Act.put _ (some 30) _ = _
        simp only [Act.put, sA, sB, sC, i64_w, i32_w]; rfl
       refine one_ (i := 8) (N := some 31) #[true, true, true, true, true, true, true, true, true, false, false, false] rfl rfl (one_of HT_.out (by kernel_rfl)) (by decide) (fun K hK => ?_)
       refine value_ (w1 := ?_) (v := ?_) (by rfl) rfl ?_ ?_
       rotate_left 2
       ·go_simp; constructor
        ·rfl
        ·rfl
       refine hK.out _ _ ⟨(blk_cell (blk_alloc BK282.out _) 0).trans rfl, (blk_cell (blk_alloc BK282.out _) 1).trans rfl, (blk_cell (blk_alloc BK282.out _) 2).trans rfl, (blk_cell (blk_alloc BK282.out _) 3).trans rfl, (blk_cell (blk_alloc BK282.out _) 4).trans rfl, (blk_cell (blk_alloc BK274.out _) 0).trans rfl, (blk_cell (blk_alloc BK274.out _) 1).trans rfl, (blk_cell (blk_alloc BK274.out _) 2).trans rfl, (blk_cell (blk_alloc BK274.out _) 3).trans rfl, (blk_cell (blk_alloc BK274.out _) 4).trans rfl, (World.cell?_alloc_lt _ _ _ (World.block_lt_of_cell? _ _ (((HB.out.cell (World.block_lt_of_cell? w _ hw283_0)).trans hw283_0)))).trans (((HB.out.cell (World.block_lt_of_cell? w _ hw283_0)).trans hw283_0)), (World.cell?_alloc_lt _ _ _ (World.block_lt_of_cell? _ _ (((HB.out.cell (World.block_lt_of_cell? w _ hw283_1)).trans hw283_1)))).trans (((HB.out.cell (World.block_lt_of_cell? w _ hw283_1)).trans hw283_1)), (World.cell?_alloc_lt _ _ _ (World.block_lt_of_cell? _ _ (((HB.out.cell (World.block_lt_of_cell? w _ hw283_2)).trans hw283_2)))).trans (((HB.out.cell (World.block_lt_of_cell? w _ hw283_2)).trans hw283_2)), (World.cell?_alloc_lt _ _ _ (World.block_lt_of_cell? _ _ (((HB.out.cell (World.block_lt_of_cell? w _ hw283_3)).trans hw283_3)))).trans (((HB.out.cell (World.block_lt_of_cell? w _ hw283_3)).trans hw283_3)), (World.cell?_alloc_lt _ _ _ (World.block_lt_of_cell? _ _ (((HB.out.cell (World.block_lt_of_cell? w _ hw283_4)).trans hw283_4)))).trans (((HB.out.cell (World.block_lt_of_cell? w _ hw283_4)).trans hw283_4))⟩ (fun hHeld => ?_)
       clear hK K
       refine norm_ (a' := ?_) ?_ ?_
       rotate_left
       ·show Act.put _ (some 31) _ = _
        simp only [Act.put, sA, sB, sC, i64_w, i32_w]; rfl
       refine one_ (i := 9) (N := some 32) #[true, true, true, true, true, true, true, true, true, true, false, false] rfl rfl (one_of HT_.out (by kernel_rfl)) (by decide) (fun K hK => ?_)
       refine Kd.R_append_step k36 (w0 := w) w.heap.size (by rfl) (.tmp 24) (.tmp 31) 34 36 (.agg #[(.int .i64 0), (.int .i64 0), (.string ⟨#[]⟩), (.slice none 0 0), (.slice none 0 0)]) 80 rfl Try.underlying34 info36 rfl (by decide) (by omega) u283004 x283004_1 (⟨t284, t285, t286, t287, t290⟩ : S36) [.int .i64 t284, .int .i64 t285, .string t286, .slice Ao28 t287.length co28, .slice Ao29 t290.length co29] (fun k_ => some k_ ≠ (.slice Ao12 y279.length co12 : Value).ownBlock ∧ k_ ≠ gb275 ∧ k_ ≠ gb282) (fun k_ => ((fun k_ => some k_ ≠ (.slice Ao12 y279.length co12 : Value).ownBlock ∧ k_ ≠ gb275 ∧ k_ ≠ gb282)) k_ ∧ some k_ ≠ (u283004 : Value).ownBlock) rfl rfl ?aP (fun _ hk => hk) ?aF ?aO ?aB ?aS ?aL ?_
       (case aP => exact k36_mkM _ _ _ (⟨t284, t285, t286, t287, t290⟩ : S36) (Kd.R_mono (Kd.R_types (Kd.R_types (Kd.R_apart' (HO289.out) (Kd.R_typed HO_283004.out) (by decide)) BK275.out (by decide)) BK282.out (by decide)) (fun k_ hk => ⟨⟨hk.1.1.1.2, ⟨hk.1.2, hk.2⟩⟩, hk.1.1.2⟩)) (Kd.R_mono (HO292.out) (fun k_ hk => ⟨⟨hk.1.1.1.2, ⟨hk.1.2, hk.2⟩⟩, hk.1.1.2⟩)))
       (case aB => exact (by repeat (first | (with_reducible first | exact HB.out | apply below_alloc | apply pw_below_drewN | apply below_drew1 | refine below_set ?_ GE274.out | refine below_set ?_ GE275.out | refine below_set ?_ GE282.out) | exact HB.out)))
       (case aF => exact (fun k_ hk => ⟨Kd.fresh' (Kd.R_lt (by (with_reducible repeat (first | apply Kd.R_alloc | apply Kd.R_drewN | apply Kd.R_drew)); exact HO_283003.out)) k_ hk, Kd.freshB (g := gb275) (o := .cells #[.int .i64 0, .int .i64 0, .string (⟨#[]⟩ : ByteArray), .slice none 0 0, .slice none 0 0] 36 (0, 0)) (by (with_reducible repeat (first | refine blk_drewN ?_ _ | refine blk_drew ?_ | refine blk_alloc ?_ _)); exact BK275.out) k_ hk, Kd.freshB (g := gb282) (o := .cells #[.int .i64 a0_0, .int .i64 a0_1, .string a0_2, .slice Ao12 y279.length co12, u283004] 36 (0, 0)) (by (with_reducible repeat (first | refine blk_drewN ?_ _ | refine blk_drew ?_ | refine blk_alloc ?_ _)); exact BK282.out) k_ hk⟩))
       (case aO => exact (by (with_reducible repeat (first | apply Kd.R_alloc | apply Kd.R_drewN | apply Kd.R_drew)); exact Kd.R_mono HO_283004.out (fun _ hk => ⟨hk.1.1.1, ⟨hk.1.1.2.1, hk.1.1.2.2⟩⟩)))
       (case aS => exact (below_size (by repeat (first | (with_reducible first | exact HB.out | apply below_alloc | apply pw_below_drewN | apply below_drew1 | refine below_set ?_ GE274.out | refine below_set ?_ GE275.out | refine below_set ?_ GE282.out) | exact HB.out))))
       (case aL => have := LMc21.out; omega)
       intro v294 w27 ho hb hg hat
       rw [← Ny293.out] at ho
       have n0_ := aM (Kd.R_over' (by (with_reducible repeat (first | apply Kd.R_alloc | apply Kd.R_drewN | apply Kd.R_drew)); exact HO_283003.out) (Kd.R_typed (by (with_reducible repeat (first | apply Kd.R_alloc | apply Kd.R_drewN | apply Kd.R_drew)); exact HO_283004.out)) (by decide) hg)
       have n1_ := aM (blk_grown (g := gb274) (o := .cells #[.int .i64 a0_0, .int .i64 a0_1, .string a0_2, .slice A0_3 l0_3.length c0_3, .slice (some ad283) l0_4.length c0_4] 25 (0, 0)) (by (with_reducible repeat (first | refine blk_drewN ?_ _ | refine blk_drew ?_ | refine blk_alloc ?_ _)); exact BK274.out) hg (Kd.R_ne HO_283004.out BK274.out (by decide)))
       have n2_ := aM (blk_grown (g := gb275) (o := .cells #[.int .i64 0, .int .i64 0, .string (⟨#[]⟩ : ByteArray), .slice none 0 0, .slice none 0 0] 36 (0, 0)) (by (with_reducible repeat (first | refine blk_drewN ?_ _ | refine blk_drew ?_ | refine blk_alloc ?_ _)); exact BK275.out) hg (Kd.R_away HO_283004.out (fun _ hk => hk.1.1.2.1)))
       have n3_ := aM (blk_grown (g := gb282) (o := .cells #[.int .i64 a0_0, .int .i64 a0_1, .string a0_2, .slice Ao12 y279.length co12, u283004] 36 (0, 0)) (by (with_reducible repeat (first | refine blk_drewN ?_ _ | refine blk_drew ?_ | refine blk_alloc ?_ _)); exact BK282.out) hg (Kd.R_away HO_283004.out (fun _ hk => hk.1.1.2.2)))
       have n4_ := aM (hb)
       have n5_ := aM (ho)
       clear HO_283003 BK274 BK275 BK282 HB HO_283004 HO289 HO292; have HO_283003 := n0_; have BK274 := n1_; have BK275 := n2_; have BK282 := n3_; have HB := n4_; have HO295 := n5_; clear n0_ n1_ n2_ n3_ n4_ n5_ ho hb hg hat
       obtain ⟨Ao30, co30, eo30⟩ := Kd.R_slice HO295.out
       (first | subst eo30 | (injection eo30 with f1_ f2_ f3_; have f4_ := f1_.symm; have f5_ := f3_.symm; clear f1_ f2_ f3_; subst f4_; subst f5_))
       refine hK.out _ _ ⟨(blk_cell BK282.out 0).trans rfl, (blk_cell BK282.out 1).trans rfl, (blk_cell BK282.out 2).trans rfl, (blk_cell BK282.out 3).trans rfl, (blk_cell BK282.out 4).trans rfl, (blk_cell BK274.out 0).trans rfl, (blk_cell BK274.out 1).trans rfl, (blk_cell BK274.out 2).trans rfl, (blk_cell BK274.out 3).trans rfl, (blk_cell BK274.out 4).trans rfl, ((HB.out.cell (World.block_lt_of_cell? w _ hw283_0)).trans hw283_0), ((HB.out.cell (World.block_lt_of_cell? w _ hw283_1)).trans hw283_1), ((HB.out.cell (World.block_lt_of_cell? w _ hw283_2)).trans hw283_2), ((HB.out.cell (World.block_lt_of_cell? w _ hw283_3)).trans hw283_3), ((HB.out.cell (World.block_lt_of_cell? w _ hw283_4)).trans hw283_4)⟩ (fun hHeld => ?_)
       clear hK K
       refine norm_ (a' := ?_) ?_ ?_
       rotate_left
       ·show Act.put _ (some 32) _ = _
        simp only [Act.put, sA, sB, sC, i64_w, i32_w]; rfl
       refine pure_ (i := 10) (N := some 33) (v := ?_) (a' := ?_) #[true, true, true, true, true, true, true, true, true, true, true, false] rfl rfl (any_of HT_.out (by kernel_rfl)) (fun _ _ _ h => h) (Or.inl ⟨by rfl, ?_⟩) ?_ ?_
       rotate_left
       ·intro w'; go_simp; with_reducible rfl
       rotate_left
       ·simp only [Act.put, sA, sB, sC, i64_w, i32_w]; rfl
       refine last_ (i := 11) (N := none) #[true, true, true, true, true, true, true, true, true, true, true, true] rfl rfl (one_of HT_.out (by kernel_rfl)) (by decide) (fun K hK => ?_)
       have hs31 : w27.cell? ⟨gb282, 4, none⟩ = some (u283004) := (blk_cell BK282.out 4).trans rfl
       have hfs31 := blk_frozen BK282.out 4
       have hns31_0 := NB274_282.out
       have hns31_1 := NB275_282.out
       have hms31_0 := NB282_274.out
       have hms31_1 := NB282_275.out
       refine skip_ (w1 := ?_) (by rfl) rfl ?_ ?_
       rotate_left
       ·go_simp; rfl
       refine hK.out _ _ ?_
       clear hK K
       refine done_ (done_of HT_.out (by kernel_rfl)) ?_
       try go_wp2
       go_roundg k1
       case measure => have := HK1.out; omega
       case rel => exact ⟨(wrap64 (x4_1 + 1)), (y293), (.slice Ao30 y293.length co30), (by first | rfl | (simp; done) | (simp [*]; done)), H', ⟨by have := HK1.out; omega⟩, ⟨by (with_reducible repeat (first | apply Kd.R_alloc | apply Kd.R_drewN | apply Kd.R_drew)); exact Kd.R_mono (Kd.R_far (p := ⟨gb282, 4, none⟩) (Kd.R_types HO_283003.out BK282.out (by decide)) (fun _ hk => hk.2) (.slice Ao30 y293.length co30)) (fun _ hk => trivial)⟩, ⟨by (with_reducible repeat (first | apply Kd.R_alloc | apply Kd.R_drewN | apply Kd.R_drew)); exact Kd.R_mono (Kd.R_far (p := ⟨gb282, 4, none⟩) (Kd.R_mono HO295.out (fun k_ hk => (⟨hk, hk.2.2⟩ : _ ∧ k_ ≠ gb282))) (fun _ hk => hk.2) (.slice Ao30 y293.length co30)) (fun _ hk => ⟨hk.1.1, ⟨hk.1.2.1, hk.1.2.2⟩⟩)⟩, ⟨by (with_reducible repeat (first | refine blk_drewN ?_ _ | refine blk_drew ?_ | refine blk_alloc ?_ _)); refine blk_far ?_ NB274_282.out _; (with_reducible repeat (first | refine blk_drewN ?_ _ | refine blk_drew ?_ | refine blk_alloc ?_ _)); exact BK274.out⟩, ⟨by (with_reducible repeat (first | refine blk_drewN ?_ _ | refine blk_drew ?_ | refine blk_alloc ?_ _)); refine blk_far ?_ NB275_282.out _; (with_reducible repeat (first | refine blk_drewN ?_ _ | refine blk_drew ?_ | refine blk_alloc ?_ _)); exact BK275.out⟩, ⟨by (with_reducible repeat (first | refine blk_drewN ?_ _ | refine blk_drew ?_ | refine blk_alloc ?_ _)); refine blk_put (cs := #[.int .i64 a0_0, .int .i64 a0_1, .string a0_2, .slice Ao12 y279.length co12, u283004]) ?_ 4 _ rfl; (with_reducible repeat (first | refine blk_drewN ?_ _ | refine blk_drew ?_ | refine blk_alloc ?_ _)); exact BK282.out⟩, ⟨by repeat (first | (with_reducible first | exact HB.out | apply below_alloc | apply pw_below_drewN | apply below_drew1 | refine below_set ?_ GE274.out | refine below_set ?_ GE275.out | refine below_set ?_ GE282.out) | exact HB.out)⟩⟩
      ·rw [if_neg c21] at H
       exact absurd H (by simp)
     ·rw [if_neg c19] at H
      exact absurd H (by simp)
    ·rw [if_neg c18] at H
     have c18b0 : decide (x4_1 < (l0_4.length : Int)) = false := decide_eq_false c18
     clear c18
     simp only [Option.some.injEq, Prod.mk.injEq] at H
     obtain ⟨rfl, rfl, rfl, rfl, rfl⟩ := H
     have hnb32 := NB274_275.out
     have hnc32 := NB275_274.out
     have hnb33 := NB274_282.out
     have hnc33 := NB282_274.out
     have hcz34_0 : wr.cell? ⟨gb274, 0, none⟩ = some (.int .i64 a0_0) := (blk_cell BK274.out 0).trans rfl
     have hcz34_1 : wr.cell? ⟨gb274, 1, none⟩ = some (.int .i64 a0_1) := (blk_cell BK274.out 1).trans rfl
     have hcz34_2 : wr.cell? ⟨gb274, 2, none⟩ = some (.string a0_2) := (blk_cell BK274.out 2).trans rfl
     have hcz34_3 : wr.cell? ⟨gb274, 3, none⟩ = some (.slice A0_3 l0_3.length c0_3) := (blk_cell BK274.out 3).trans rfl
     have hcz34_4 : wr.cell? ⟨gb274, 4, none⟩ = some (.slice A0_4 l0_4.length c0_4) := (blk_cell BK274.out 4).trans rfl
     have hfz34_0 := blk_frozen BK274.out 0
     have hfz34_1 := blk_frozen BK274.out 1
     have hfz34_2 := blk_frozen BK274.out 2
     have hfz34_3 := blk_frozen BK274.out 3
     have hfz34_4 := blk_frozen BK274.out 4
     have hnb35 := NB282_275.out
     have hnc35 := NB275_282.out
     have hcz36_0 : wr.cell? ⟨gb282, 0, none⟩ = some (.int .i64 a0_0) := (blk_cell BK282.out 0).trans rfl
     have hcz36_1 : wr.cell? ⟨gb282, 1, none⟩ = some (.int .i64 a0_1) := (blk_cell BK282.out 1).trans rfl
     have hcz36_2 : wr.cell? ⟨gb282, 2, none⟩ = some (.string a0_2) := (blk_cell BK282.out 2).trans rfl
     have hcz36_3 : wr.cell? ⟨gb282, 3, none⟩ = some (.slice Ao12 y279.length co12) := (blk_cell BK282.out 3).trans rfl
     have hcz36_4 : wr.cell? ⟨gb282, 4, none⟩ = some (u283004) := (blk_cell BK282.out 4).trans rfl
     have hfz36_0 := blk_frozen BK282.out 0
     have hfz36_1 := blk_frozen BK282.out 1
     have hfz36_2 := blk_frozen BK282.out 2
     have hfz36_3 := blk_frozen BK282.out 3
     have hfz36_4 := blk_frozen BK282.out 4
     have hcz37_0 : wr.cell? ⟨gb275, 0, none⟩ = some (.int .i64 0) := (blk_cell BK275.out 0).trans rfl
     have hcz37_1 : wr.cell? ⟨gb275, 1, none⟩ = some (.int .i64 0) := (blk_cell BK275.out 1).trans rfl
     have hcz37_2 : wr.cell? ⟨gb275, 2, none⟩ = some (.string (⟨#[]⟩ : ByteArray)) := (blk_cell BK275.out 2).trans rfl
     have hcz37_3 : wr.cell? ⟨gb275, 3, none⟩ = some (.slice none 0 0) := (blk_cell BK275.out 3).trans rfl
     have hcz37_4 : wr.cell? ⟨gb275, 4, none⟩ = some (.slice none 0 0) := (blk_cell BK275.out 4).trans rfl
     have hfz37_0 := blk_frozen BK275.out 0
     have hfz37_1 := blk_frozen BK275.out 1
     have hfz37_2 := blk_frozen BK275.out 2
     have hfz37_3 := blk_frozen BK275.out 3
     have hfz37_4 := blk_frozen BK275.out 4
     obtain ⟨Ao38, co38, eo38⟩ := Kd.R_slice HO_283004.out
     subst eo38
     go_wp2
     refine bodyPost_ret (results_cell_row rfl _ _ gb275 36 #[.int .i64 a0_0, .int .i64 a0_1, .string a0_2, .slice Ao12 y279.length co12, .slice Ao38 x283004_1.length co38] (0, 0) _ rfl (by (with_reducible repeat (first | refine blk_drewN ?_ _ | refine blk_drew ?_ | refine blk_alloc ?_ _)); refine blk_put (cs := #[.int .i64 a0_0, .int .i64 a0_1, .string a0_2, .slice Ao12 y279.length co12, .slice none 0 0]) ?_ 4 _ rfl; (with_reducible repeat (first | refine blk_drewN ?_ _ | refine blk_drew ?_ | refine blk_alloc ?_ _)); refine blk_put (cs := #[.int .i64 a0_0, .int .i64 a0_1, .string a0_2, .slice none 0 0, .slice none 0 0]) ?_ 3 _ rfl; (with_reducible repeat (first | refine blk_drewN ?_ _ | refine blk_drew ?_ | refine blk_alloc ?_ _)); refine blk_put (cs := #[.int .i64 a0_0, .int .i64 a0_1, .string (⟨#[]⟩ : ByteArray), .slice none 0 0, .slice none 0 0]) ?_ 2 _ rfl; (with_reducible repeat (first | refine blk_drewN ?_ _ | refine blk_drew ?_ | refine blk_alloc ?_ _)); refine blk_put (cs := #[.int .i64 a0_0, .int .i64 0, .string (⟨#[]⟩ : ByteArray), .slice none 0 0, .slice none 0 0]) ?_ 1 _ rfl; (with_reducible repeat (first | refine blk_drewN ?_ _ | refine blk_drew ?_ | refine blk_alloc ?_ _)); refine blk_put (cs := #[.int .i64 0, .int .i64 0, .string (⟨#[]⟩ : ByteArray), .slice none 0 0, .slice none 0 0]) ?_ 0 _ rfl; (with_reducible repeat (first | refine blk_drewN ?_ _ | refine blk_drew ?_ | refine blk_alloc ?_ _)); exact BK275.out) Try.underlying36 rfl (by kernel_rfl)) rfl ?_
     exact ⟨_, _, by first | rfl | (simp [errW_none, errW_some] <;> rfl) | (simp [*, errW_none, errW_some] <;> rfl), by (with_reducible repeat (first | apply Kd.R_alloc | apply Kd.R_drewN | apply Kd.R_drew)); exact Kd.R_mono (Kd.R_far (p := ⟨gb275, 4, none⟩) (Kd.R_far (p := ⟨gb275, 3, none⟩) (Kd.R_far (p := ⟨gb275, 2, none⟩) (Kd.R_far (p := ⟨gb275, 1, none⟩) (Kd.R_far (p := ⟨gb275, 0, none⟩) (Kd.R_types HO_283003.out BK275.out (by decide)) (fun _ hk => hk.2) (.int .i64 a0_0)) (fun _ hk => hk.2) (.int .i64 a0_1)) (fun _ hk => hk.2) (.string a0_2)) (fun _ hk => hk.2) (.slice Ao12 y279.length co12)) (fun _ hk => hk.2) (.slice Ao38 x283004_1.length co38)) (fun _ hk => trivial), by (with_reducible repeat (first | apply Kd.R_alloc | apply Kd.R_drewN | apply Kd.R_drew)); exact Kd.R_mono (Kd.R_far (p := ⟨gb275, 4, none⟩) (Kd.R_far (p := ⟨gb275, 3, none⟩) (Kd.R_far (p := ⟨gb275, 2, none⟩) (Kd.R_far (p := ⟨gb275, 1, none⟩) (Kd.R_far (p := ⟨gb275, 0, none⟩) (Kd.R_mono HO_283004.out (fun k_ hk => (⟨hk, hk.2.1⟩ : _ ∧ k_ ≠ gb275))) (fun _ hk => hk.2) (.int .i64 a0_0)) (fun _ hk => hk.2) (.int .i64 a0_1)) (fun _ hk => hk.2) (.string a0_2)) (fun _ hk => hk.2) (.slice Ao12 y279.length co12)) (fun _ hk => hk.2) (.slice Ao38 x283004_1.length co38)) (fun _ hk => hk.1.1), by repeat (first | (with_reducible first | exact HB.out | apply below_alloc | apply pw_below_drewN | apply below_drew1 | refine below_set ?_ GE274.out | refine below_set ?_ GE275.out | refine below_set ?_ GE282.out) | exact HB.out)⟩
 ·rw [if_neg c2] at H
  exact absurd H (by simp)
end Go.Proofs.Ytaembebbaejfiaa.PS
namespace Go.Proofs.Ytaembebbaejfiaa.Tr
open Go.RowKit Go.Proofs.YtaembebbaejfiaaW.PrintWords Go.Proofs.YtaembebbaejfiaaW.PrintLast Go.Proofs.Ytaembebbaejfiaa.Str Go.Proofs.Ytaembebbaejfiaa.Kit Go.Proofs.Ytaembebbaejfiaa.MapV Go.Proofs.Ytaembebbaejfiaa.Frame Go.Proofs.Ytaembebbaejfiaa.PS
open Go.Proofs.Ytaembebbaejfiaa.Val (place placeI placeB placeI_hit placeI_end)
set_option linter.unusedVariables false
set_option linter.unusedSimpArgs false
inductive SmallS : VS → Prop
 | mk (x : VS) (ht : x.f2.size ≤ 140737488355328) (hk : ∀ s, s ∈ x.f3 → s.size ≤ maxLen) (hkl : x.f3.length ≤ 8796093022000) (hvl : x.f4.length ≤ 1759218604400) (hv : ∀ v, v ∈ x.f4 → SmallS v) : SmallS x
def leaf (k n : Int) (t : BA) : VS := ⟨k, n, t, [], []⟩
def fitW : List BA → List VS → List BA → List VS → List BA × List VS
 | k :: ks, v :: vs, K, V => fitW ks vs (withK K k) (withV K V k v)
 | _, _, K, V => (K, V)
end Go.Proofs.Ytaembebbaejfiaa.Tr
namespace Go.Proofs.Ytaembebbaejfiaa.Tr
open Go.RowKit Go.Proofs.YtaembebbaejfiaaW.PrintWords Go.Proofs.YtaembebbaejfiaaW.PrintLast Go.Proofs.Ytaembebbaejfiaa.Str Go.Proofs.Ytaembebbaejfiaa.Kit Go.Proofs.Ytaembebbaejfiaa.MapV Go.Proofs.Ytaembebbaejfiaa.Frame Go.Proofs.Ytaembebbaejfiaa.PS
open Go.Proofs.Ytaembebbaejfiaa.Val (place placeI placeB placeI_hit placeI_end)
set_option linter.unusedVariables false
set_option linter.unusedSimpArgs false
mutual
def toI : VS → VI
 | ⟨k, n, t, ks, vs⟩ => ⟨k, n, t, ks, toL vs⟩
def toL : List VS → List VI
 | [] => []
 | v :: r => toI v :: toL r
end
theorem toL_map : ∀ vs, toL vs = vs.map toI
 | [] => by simp [toL]
 | v :: r => by simp [toL, toL_map r]
theorem toL_length (vs : List VS) : (toL vs).length = vs.length := by rw [toL_map, List.length_map]
theorem etaI (x : VI) : (⟨x.f0, x.f1, x.f2, x.f3, x.f4⟩ : VI) = x := by cases x; rfl
theorem toI_eq (x : VS) : toI x = ⟨x.f0, x.f1, x.f2, x.f3, toL x.f4⟩ := by cases x; simp [toI]
theorem toL_drop {vs : List VS} {i : Nat} (h : i < vs.length) : (toL vs).drop i = toI vs[i] :: (toL vs).drop (i + 1) := by
 rw [List.drop_eq_getElem_cons (by rw [toL_length]; exact h)]
 simp only [toL_map, List.getElem_map]
def tupI (x : VI) : Int × Int × BA × List BA × List VI := (x.f0, x.f1, x.f2, x.f3, x.f4)
def ToEv (x : VS) : Prop := Ev (fun k => laws_to.f k x.f0 x.f1 x.f2 x.f3 x.f4) (tupI (toI x))
theorem ev_to_l0 (a b : Int) (c : BA) (ks : List BA) (vs : List VS) (p q : Int) (r : BA) (rk : List BA) (hvl : vs.length ≤ 1759218604400) (hch : ∀ v, v ∈ vs → ToEv v) : ∀ (d i : Nat) (acc : List VI), i + d = vs.length → acc.length = i →
  Ev (fun k => laws_to.l0 k (i : Int) a b c ks vs p q r rk acc) (p, q, r, rk, acc ++ (toL vs).drop i) := by
 intro d
 induction d with
 | zero =>
  intro i acc hi ha
  refine ev_step (fun k => ?_) (Ev.now _)
  simp only [laws_to.l0]
  rw [if_neg (by omega), List.drop_eq_nil_of_le (by rw [toL_length]; omega), List.append_nil]
 | succ d ih =>
  intro i acc hi ha
  have hlt : i < vs.length := by omega
  refine ev_step (f := fun k => (laws_to.f k vs[i].f0 vs[i].f1 vs[i].f2 vs[i].f3 vs[i].f4).bind fun bt => laws_to.l0 k ((i + 1 : Nat) : Int) a b c ks vs p q r rk (acc ++ [(⟨bt.1, bt.2.1, bt.2.2.1, bt.2.2.2.1, bt.2.2.2.2⟩ : VI)])) (fun k => ?_) ?_
  ·simp only [laws_to.l0]
   rw [if_pos (by omega), if_pos (by omega), rdS hlt]
   refine congrArg _ (funext fun bt => ?_)
   rw [if_pos (by omega), wrapS i (by omega)]
  ·refine ev_bind (hch vs[i] (List.getElem_mem hlt)) ?_
   have := ih (i + 1) (acc ++ [toI vs[i]]) (by omega) (by simp [ha])
   rw [List.append_assoc, List.singleton_append, ← toL_drop hlt] at this
   simp only [tupI, etaI]
   exact this
theorem ev_to : ∀ x : VS, SmallS x → ToEv x := by
 intro x hx
 induction hx with
 | mk x ht hk hkl hvl hv ih =>
  obtain ⟨k, n, t, ks, vs⟩ := x
  have hkl' : ks.length ≤ 8796093022000 := hkl
  have h := ev_to_l0 k n t ks vs k n t ks hvl ih vs.length 0 [] (by omega) rfl
  rw [List.drop_zero, List.nil_append] at h
  unfold ToEv
  rw [toI_eq]
  refine ev_step (fun j => ?_) h
  simp only [laws_to.f, Option.bind_some, List.nil_append, List.length_nil, Nat.zero_add]
  rw [if_pos (by omega)]
  rfl
theorem small_to : ∀ x : VS, SmallS x → Small (toI x) := by
 intro x hx
 induction hx with
 | mk x ht hk hkl hvl hv ih =>
  rw [toI_eq]
  refine Small.mk _ hk hkl (by show (toL x.f4).length ≤ _; rw [toL_length]; exact hvl) (fun v hv' => ?_)
  have hv2 : v ∈ x.f4.map toI := by rw [← toL_map]; exact hv'
  obtain ⟨u, hu, rfl⟩ := List.mem_map.1 hv2
  exact ih u hu
theorem withK_mem {ks : List BA} {key s : BA} (h : s ∈ withK ks key) : s ∈ ks ∨ s = key := by
 unfold withK at h
 split at h
 ·exact .inl h
 ·rcases List.mem_append.1 h with h | h
  ·exact .inl (List.mem_of_mem_take h)
  ·rcases List.mem_append.1 h with h | h
   ·exact .inr (by simpa using h)
   ·exact .inl (List.mem_of_mem_drop h)
theorem withV_mem {α : Type} {ks : List BA} {vs : List α} {key : BA} {x v : α} (h : v ∈ withV ks vs key x) : v ∈ vs ∨ v = x := by
 unfold withV at h
 split at h
 ·exact List.mem_or_eq_of_mem_set h
 ·rcases List.mem_append.1 h with h | h
  ·exact .inl (List.mem_of_mem_take h)
  ·rcases List.mem_append.1 h with h | h
   ·exact .inr (by simpa using h)
   ·exact .inl (List.mem_of_mem_drop h)
def RiseK (ks : List BA) : Prop := ks.Pairwise (fun a b => lb a < lb b)
theorem place_cons_lt {x key : BA} {r : List BA} (h : lb x < lb key) : placeI (x :: r) key = placeI r key + 1 ∧ placeB (x :: r) key = placeB r key := by
 have h1 : placeI (x :: r) key = placeI r key + 1 := by
  unfold placeI
  rw [List.takeWhile_cons_of_pos (by simpa using h), List.length_cons]
 refine ⟨h1, ?_⟩
 unfold placeB
 rw [h1, List.getElem?_cons_succ]
theorem place_cons_ge {x key : BA} {r : List BA} (h : ¬ lb x < lb key) : placeI (x :: r) key = 0 ∧ placeB (x :: r) key = (x.toList == key.toList) := by
 have h1 : placeI (x :: r) key = 0 := by
  unfold placeI
  rw [List.takeWhile_cons_of_neg (by simpa using h)]
  rfl
 refine ⟨h1, ?_⟩
 unfold placeB
 rw [h1, List.getElem?_cons_zero]
theorem withK_rises : ∀ {ks : List BA} {key : BA}, RiseK ks → RiseK (withK ks key)
 | [], key, _ => by
  have : withK [] key = [key] := rfl
  rw [this]
  simp [RiseK]
 | x :: r, key, h => by
  obtain ⟨h1, h2⟩ := List.pairwise_cons.1 h
  by_cases hl : lb x < lb key
  ·obtain ⟨e1, e2⟩ := place_cons_lt (r := r) hl
   have e : withK (x :: r) key = x :: withK r key := by
    unfold withK
    rw [e1, e2]
    split
    ·rfl
    ·rfl
   rw [e]
   refine List.pairwise_cons.2 ⟨fun s hs => ?_, withK_rises h2⟩
   rcases withK_mem hs with hs | rfl
   ·exact h1 s hs
   ·exact hl
  ·obtain ⟨e1, e2⟩ := place_cons_ge (r := r) hl
   by_cases he : x.toList = key.toList
   ·have e : withK (x :: r) key = x :: r := by
     unfold withK
     rw [e2, if_pos (by simpa using he)]
    rw [e]
    exact h
   ·have hne : lb x ≠ lb key := fun e => he (by rw [toList_lb, toList_lb, e])
    have hgt : lb key < lb x := by
     rcases lt_total (lb x) (lb key) with e | e | e
     ·exact absurd e hl
     ·exact absurd e hne
     ·exact e
    have e : withK (x :: r) key = key :: x :: r := by
     unfold withK
     rw [e1, e2, if_neg (by simpa using he)]
     rfl
    rw [e]
    refine List.pairwise_cons.2 ⟨fun s hs => ?_, h⟩
    rcases List.mem_cons.1 hs with rfl | hs
    ·exact hgt
    ·exact lt_trans hgt (h1 s hs)
theorem fitW_facts : ∀ (ks : List BA) (vs : List VS) (K : List BA) (V : List VS), K.length = V.length → RiseK K →
  (fitW ks vs K V).1.length = (fitW ks vs K V).2.length ∧ RiseK (fitW ks vs K V).1 ∧ (fitW ks vs K V).1.length ≤ K.length + ks.length ∧ (fitW ks vs K V).2.length ≤ V.length + vs.length ∧ (∀ s, s ∈ (fitW ks vs K V).1 → s ∈ K ∨ s ∈ ks) ∧ (∀ v, v ∈ (fitW ks vs K V).2 → v ∈ V ∨ v ∈ vs)
 | [], vs, K, V, hl, hr => ⟨hl, hr, by simp [fitW], by simp [fitW], fun s h => .inl h, fun v h => .inl h⟩
 | k :: ks, [], K, V, hl, hr => ⟨hl, hr, by simp [fitW], by simp [fitW], fun s h => .inl h, fun v h => .inl h⟩
 | k :: ks, v :: vs, K, V, hl, hr => by
  have hlv := withV_length (key := k) (x := v) hl
  have hlk := withK_length (ks := K) (key := k)
  obtain ⟨a, b, c, d, e, f⟩ := fitW_facts ks vs (withK K k) (withV K V k v) hlv.symm (withK_rises hr)
  refine ⟨a, b, ?_, ?_, fun s hs => ?_, fun u hu => ?_⟩
  ·show (fitW ks vs (withK K k) (withV K V k v)).1.length ≤ _
   rw [List.length_cons]
   omega
  ·show (fitW ks vs (withK K k) (withV K V k v)).2.length ≤ _
   rw [List.length_cons]
   omega
  ·rcases e s hs with h | h
   ·rcases withK_mem h with h | rfl
    ·exact .inl h
    ·exact .inr (by simp)
   ·exact .inr (by simp [h])
  ·rcases f u hu with h | h
   ·rcases withV_mem h with h | rfl
    ·exact .inl h
    ·exact .inr (by simp)
   ·exact .inr (by simp [h])
inductive Fitted : VS → Prop
 | mk (x : VS) (hl : x.f3.length = x.f4.length ∨ x.f3 = []) (hr : RiseK x.f3) (h5 : x.f0 ≠ 5 → x.f3 = []) (hm : x.f0 = 5 → x.f3.length = x.f4.length) (hv : ∀ v, v ∈ x.f4 → Fitted v) : Fitted x
theorem leaf_small (k n : Int) (t : BA) (ht : t.size ≤ 140737488355328) : SmallS (leaf k n t) := .mk _ ht (fun s h => by cases h) (Nat.zero_le _) (Nat.zero_le _) (fun v h => by cases h)
theorem fitM_id {α : Type} : ∀ {l : List (Bs × α)}, Rises l → fitM l = l := by
 intro l
 have go : ∀ (r f : List (Bs × α)), Rises (f ++ r) → r.foldl (fun f p => mput f p.1 p.2) f = f ++ r := by
  intro r
  induction r with
  | nil => intro f _; simp
  | cons p r ih =>
   intro f h
   have hp : mput f p.1 p.2 = f ++ [p] := by
    have h1 := mput_ins (key := p.1) (v := p.2) f.length (f := f) ((List.pairwise_append.1 h).1) (fun j hj _ => (List.pairwise_append.1 h).2.2 _ (List.getElem_mem hj) p (by simp)) (Nat.le_refl _) (fun h => absurd h (Nat.lt_irrefl _))
    rw [h1, List.take_length, List.drop_length]
   rw [List.foldl_cons, hp, ih (f ++ [p]) (by simpa using h)]
   simp
 intro h
 have := go l [] (by simpa using h)
 simpa [fitM] using this
theorem pairs_rise {α : Type} {ks : List BA} : ∀ {ys : List α}, RiseK ks → Rises ((ks.map lb).zip ys) := by
 induction ks with
 | nil => intro ys _; exact List.Pairwise.nil
 | cons x r ih =>
  intro ys h
  cases ys with
  | nil => exact List.Pairwise.nil
  | cons y ys =>
   obtain ⟨h1, h2⟩ := List.pairwise_cons.1 h
   rw [List.map_cons, List.zip_cons_cons]
   refine List.pairwise_cons.2 ⟨fun p hp => ?_, ih h2⟩
   obtain ⟨a, b⟩ := p
   obtain ⟨s, hs, rfl⟩ := List.mem_map.1 (List.of_mem_zip hp).1
   exact h1 s hs
end Go.Proofs.Ytaembebbaejfiaa.Tr
namespace Go.Proofs.Ytaembebbaejfiaa.PS
open Go.RowKit Go.Proofs.YtaembebbaejfiaaW.PrintWords Go.Proofs.YtaembebbaejfiaaW.PrintLast Go.Proofs.YtaembebbaejfiaaW.PrintMore
attribute [local go_sem] max2_int min2_int max_two min_two max_three min_three max_four min_four 
set_option linter.unusedVariables false
set_option linter.unusedSimpArgs false
mutual
def laws_from.l0 : Nat → Int → Int → Int → ByteArray → List ByteArray → List (S36) → Int → Int → ByteArray → List ByteArray → List (S25) → Option (Int × Int × ByteArray × List ByteArray × (List (S25)))
 | 0, _, _, _, _, _, _, _, _, _, _, _ => none
 | k + 1, x4, x304000, x304001, x304002, x304003, x304004, x312000, x312001, x312002, x312003, x312004 => if x4 < (x304004.length : Int) then (if 0 ≤ x4 then ((laws_from.f k ((rd_T36 x304004 x4).f0) ((rd_T36 x304004 x4).f1) ((rd_T36 x304004 x4).f2) ((rd_T36 x304004 x4).f3) ((rd_T36 x304004 x4).f4)).bind fun bt313 => (if x312004.length < 1759218604441 then (laws_from.l0 k (wrap64 (x4 + 1)) x304000 x304001 x304002 x304003 x304004 x312000 x312001 x312002 x312003 (x312004 ++ [(⟨bt313.1, bt313.2.1, bt313.2.2.1, bt313.2.2.2.1, bt313.2.2.2.2⟩ : S25)])) else (none))) else (none)) else (some (x312000, x312001, x312002, x312003, x312004))
def laws_from.f : Nat → Int → Int → ByteArray → List ByteArray → List (S36) → Option (Int × Int × ByteArray × List ByteArray × (List (S25)))
 | 0, _, _, _, _, _ => none
 | k + 1, a0_0, a0_1, a0_2, l0_3, l0_4 => (some (([] : List ByteArray) : List ByteArray)).bind fun y305 => (if y305.length + l0_3.length < 8796093022208 then (laws_from.l0 k 0 a0_0 a0_1 a0_2 l0_3 l0_4 a0_0 a0_1 a0_2 (y305 ++ l0_3) ([] : List (S25))) else (none))
end
def laws_from.T1 : Bool × List (List Nat × List Nat) := (true, [([], []), ([0], [0]), ([], []), ([2], [2]), ([], []), ([4], [4]), ([], []), ([], []), ([7], [7]), ([6, 8], [6, 8]), ([1, 3, 5, 9], [1, 3, 5, 9]), ([], []), ([11, 10, 9, 0, 1, 2, 3, 4, 5, 6, 7, 8, 9, 10, 11], [10, 11])])
def laws_from.B1 : List Nat := [0, 1, 0, 4, 0, 16, 0, 0, 128, 448, 1023, 0, 4095]
theorem laws_from.tab1 : rtab .any (opsOf Try.f19 1) = laws_from.T1 := by kernel_rfl
theorem laws_from.bits1 : waitsOk laws_from.T1.2 laws_from.B1 = true := by kernel_rfl
def laws_from.T5 : Bool × List (List Nat × List Nat) := (true, [([], []), ([0], [0]), ([], []), ([2], [2]), ([], []), ([3, 4], [3, 4]), ([5], [5]), ([6], [6]), ([7], [7]), ([1, 8, 7], [1, 8]), ([0, 1, 2, 3, 4, 5, 6, 7, 8, 9], []), ([10, 9, 9, 0, 1, 2, 3, 4, 5, 6, 7, 8, 9], [9, 10])])
def laws_from.B5 : List Nat := [0, 1, 0, 4, 0, 28, 60, 124, 252, 511, 1023, 2047]
theorem laws_from.tab5 : rtab .any (opsOf Try.f19 5) = laws_from.T5 := by kernel_rfl
theorem laws_from.bits5 : waitsOk laws_from.T5.2 laws_from.B5 = true := by kernel_rfl
set_option maxHeartbeats 8000000 in
set_option maxRecDepth 100000 in
theorem laws_from.calls (k : Nat) : ∀ (a0_0 : Int) (a0_1 : Int) (a0_2 : ByteArray) (A0_3 : Option Addr) (c0_3 : Nat) (l0_3 : List ByteArray) (A0_4 : Option Addr) (c0_4 : Nat) (l0_4 : List (S36)) (r1 : Int) (r2 : Int) (r3 : ByteArray) (r4 : List ByteArray) (r5 : List (S25)) (w : World) (hr0_3 : Kd.C Kd.string w A0_3 l0_3.length l0_3) (hc0_3 : l0_3.length ≤ c0_3) (hr0_4 : Kd.C k36 w A0_4 l0_4.length l0_4) (hc0_4 : l0_4.length ≤ c0_4) (h : laws_from.f k a0_0 a0_1 a0_2 l0_3 l0_4 = some (r1, r2, r3, r4, r5)),
  Calls Try.prog 19 #[.agg #[.int .i64 a0_0, .int .i64 a0_1, .string a0_2, .slice A0_3 l0_3.length c0_3, .slice A0_4 l0_4.length c0_4]] w fun e w' => ∃ v3_ v4_ : Value, e = .returned (.agg #[.int .i64 r1, .int .i64 r2, .string r3, v3_, v4_]) ∧ Kd.R Kd.string 9 w' w.heap.size (fun _ => True) v3_ r4 ∧ Kd.R k25 25 w' w.heap.size (fun k_ => some k_ ≠ (v3_ : Value).ownBlock) v4_ r5 ∧ Below w.heap.size w w' := by
 induction k using Nat.strongRecOn with
 | _ k ih =>
 intro a0_0 a0_1 a0_2 A0_3 c0_3 l0_3 A0_4 c0_4 l0_4 r1 r2 r3 r4 r5 w hr0_3 hc0_3 hr0_4 hc0_4 h
 cases k with
 | zero => exact absurd h (by simp [laws_from.f])
 | succ k =>
 simp only [laws_from.f] at h
 have hu36 := Try.underlying36
 have hu25 := Try.underlying25
 have HR0_3 := aM hr0_3
 have HC0_3 := aM hc0_3
 clear hr0_3 hc0_3
 have HR0_4 := aM hr0_4
 have HC0_4 := aM hc0_4
 clear hr0_4 hc0_4
 have HB := aM (Below.refl w.heap.size w)
 have H : ((some (([] : List ByteArray) : List ByteArray)).bind fun y305 => (if y305.length + l0_3.length < 8796093022208 then (laws_from.l0 k 0 a0_0 a0_1 a0_2 l0_3 l0_4 a0_0 a0_1 a0_2 (y305 ++ l0_3) ([] : List (S25))) else (none))) = some (r1, r2, r3, r4, r5) := h
 clear h
 obtain ⟨y305, hy305⟩ : ∃ y_ : List ByteArray, y_ = (([] : List ByteArray)) := ⟨_, rfl⟩
 replace H : (if y305.length + l0_3.length < 8796093022208 then (laws_from.l0 k 0 a0_0 a0_1 a0_2 l0_3 l0_4 a0_0 a0_1 a0_2 (y305 ++ l0_3) ([] : List (S25))) else (none)) = some (r1, r2, r3, r4, r5) := by first | (rw [hy305]; with_reducible exact H) | (have H2_ := (Option.bind_some _ _).symm.trans H; rw [hy305]; with_reducible exact H2_) | (have H2_ := (Option.bind_some _ _).symm.trans H; with_reducible exact H2_) | with_reducible exact H | (rw [hy305]; exact H) | exact H
 have Ny305 := aM hy305
 clear hy305
 by_cases c2 : y305.length + l0_3.length < 8796093022208
 ·rw [if_pos c2] at H
  have LMc2 := aM c2
  clear c2
  obtain ⟨y308, hy308⟩ : ∃ y_ : List ByteArray, y_ = (y305 ++ l0_3) := ⟨_, rfl⟩
  replace H : (laws_from.l0 k 0 a0_0 a0_1 a0_2 l0_3 l0_4 a0_0 a0_1 a0_2 y308 ([] : List (S25))) = some (r1, r2, r3, r4, r5) := by first | (rw [hy308]; with_reducible exact H) | (have H2_ := (Option.bind_some _ _).symm.trans H; rw [hy308]; with_reducible exact H2_) | (have H2_ := (Option.bind_some _ _).symm.trans H; with_reducible exact H2_) | with_reducible exact H | (rw [hy308]; exact H) | exact H
  have Ny308 := aM hy308
  clear hy308
  have H' := aM H
  clear H
  go_enter Try.func19, Try.ntmps19
  try go_wp2_with (first | ((with_reducible refine gate_dst (N := 1) rfl ?_); refine box_event ?hg (N := 1) ?hd (cs := #[.int .i64 a0_0, .int .i64 a0_1, .string a0_2, .slice A0_3 l0_3.length c0_3, .slice A0_4 l0_4.length c0_4]) (t := 36) ?hr ?_; (case hd => rfl); (case hg => rfl); (case hr => first | (go_simp; done) | (go_simp; rfl)); intro gb303 hg w3 hbox hb; have n0_ := aM (below_step (by repeat (first | (with_reducible first | exact HB.out | apply below_alloc | apply pw_below_drewN | apply below_drew1) | exact HB.out)) hb); have n1_ := aM (hbox); have n2_ := aM ((by rw [hg]; exact (below_size (by repeat (first | (with_reducible first | exact HB.out | apply below_alloc | apply pw_below_drewN | apply below_drew1) | exact HB.out))) : w.heap.size ≤ gb303)); have n3_ := aM ((by rw [hg]; exact (below_size (by repeat (first | (with_reducible first | exact HB.out | apply below_alloc | apply pw_below_drewN | apply below_drew1) | exact HB.out))) : w.heap.size ≤ gb303)); clear HB; have HB := n0_; have BK303 := n1_; have GW303 := n2_; have GE303 := n3_; clear n0_ n1_ n2_ n3_; clear hb hbox hg) | ((with_reducible refine gate_dst (N := 2) rfl ?_); refine box_event ?hg (N := 2) ?hd (cs := #[.int .i64 0, .int .i64 0, .string (⟨#[]⟩ : ByteArray), .slice none 0 0, .slice none 0 0]) (t := 25) ?hr ?_; (case hd => rfl); (case hg => rfl); (case hr => first | (go_simp; done) | (go_simp; rfl)); intro gb304 hg w4 hbox hb; have n0_ := aM (blk_below (g := gb303) (o := .cells #[.int .i64 a0_0, .int .i64 a0_1, .string a0_2, .slice A0_3 l0_3.length c0_3, .slice A0_4 l0_4.length c0_4] 36 (0, 0)) (by (with_reducible repeat (first | refine blk_drewN ?_ _ | refine blk_drew ?_ | refine blk_alloc ?_ _)); exact BK303.out) hb); have n1_ := aM (below_step (by repeat (first | (with_reducible first | exact HB.out | apply below_alloc | apply pw_below_drewN | apply below_drew1 | refine below_set ?_ GE303.out) | exact HB.out)) hb); have n2_ := aM (hbox); have n3_ := aM ((by rw [hg]; exact (below_size (by repeat (first | (with_reducible first | exact HB.out | apply below_alloc | apply pw_below_drewN | apply below_drew1 | refine below_set ?_ GE303.out) | exact HB.out))) : w.heap.size ≤ gb304)); have n4_ := aM ((by rw [hg]; exact (below_size (by repeat (first | (with_reducible first | exact HB.out | apply below_alloc | apply pw_below_drewN | apply below_drew1 | refine below_set ?_ GE303.out) | exact HB.out))) : w.heap.size ≤ gb304)); have n5_ := aM ((by rw [hg]; exact Nat.ne_of_lt (blk_lt (g := gb303) (o := .cells #[.int .i64 a0_0, .int .i64 a0_1, .string a0_2, .slice A0_3 l0_3.length c0_3, .slice A0_4 l0_4.length c0_4] 36 (0, 0)) (by (with_reducible repeat (first | refine blk_drewN ?_ _ | refine blk_drew ?_ | refine blk_alloc ?_ _)); exact BK303.out)) : gb303 ≠ gb304)); have n6_ := aM ((by rw [hg]; exact Nat.ne_of_gt (blk_lt (g := gb303) (o := .cells #[.int .i64 a0_0, .int .i64 a0_1, .string a0_2, .slice A0_3 l0_3.length c0_3, .slice A0_4 l0_4.length c0_4] 36 (0, 0)) (by (with_reducible repeat (first | refine blk_drewN ?_ _ | refine blk_drew ?_ | refine blk_alloc ?_ _)); exact BK303.out)) : gb304 ≠ gb303)); clear BK303; clear HB; have BK303 := n0_; have HB := n1_; have BK304 := n2_; have GW304 := n3_; have GE304 := n4_; have NB303_304 := n5_; have NB304_303 := n6_; clear n0_ n1_ n2_ n3_ n4_ n5_ n6_; clear hb hbox hg))
  have n0_ := aM (blk_drew BK303.out)
  have n1_ := aM (blk_drew BK304.out)
  have n2_ := aM (below_drew1 HB.out)
  clear BK303 BK304 HB; have BK303 := n0_; have BK304 := n1_; have HB := n2_; clear n0_ n1_ n2_
  refine start_ (n := 13) (S := fun w' => w'.cell? ⟨gb303, 0, none⟩ = some (.int .i64 a0_0) ∧ w'.cell? ⟨gb303, 1, none⟩ = some (.int .i64 a0_1) ∧ w'.cell? ⟨gb303, 2, none⟩ = some (.string a0_2) ∧ w'.cell? ⟨gb303, 3, none⟩ = some (.slice A0_3 l0_3.length c0_3) ∧ w'.cell? ⟨gb303, 4, none⟩ = some (.slice A0_4 l0_4.length c0_4)) (ds := []) #[false, false, false, false, false, false, false, false, false, false, false, false, false] (by kernel_rfl) rfl rfl ⟨(blk_cell BK303.out 0).trans rfl, (blk_cell BK303.out 1).trans rfl, (blk_cell BK303.out 2).trans rfl, (blk_cell BK303.out 3).trans rfl, (blk_cell BK303.out 4).trans rfl⟩ (fun hHeld => ?_); refine with_tabW laws_from.tab1 laws_from.bits1 (fun HT_ HW_ => ?_)
  generalize w4.drew = w5 at BK303 BK304 HB hHeld ⊢
  refine pure_ (i := 0) (N := some 5) (v := ?_) (a' := ?_) #[true, false, false, false, false, false, false, false, false, false, false, false, false] rfl rfl (any_of HT_.out (by kernel_rfl)) (fun _ _ _ h => h) (Or.inl ⟨by rfl, ?_⟩) ?_ ?_
  rotate_left
  ·intro w'; go_simp; with_reducible rfl
  rotate_left
  ·simp only [Act.put, sA, sB, sC, i64_w, i32_w]; rfl
  refine pure_ (i := 2) (N := some 7) (v := ?_) (a' := ?_) #[true, false, true, false, false, false, false, false, false, false, false, false, false] rfl rfl (any_of HT_.out (by kernel_rfl)) (fun _ _ _ h => h) (Or.inl ⟨by rfl, ?_⟩) ?_ ?_
  rotate_left
  ·intro w'; go_simp; with_reducible rfl
  rotate_left
  ·simp only [Act.put, sA, sB, sC, i64_w, i32_w]; rfl
  refine pure_ (i := 4) (N := some 9) (v := ?_) (a' := ?_) #[true, false, true, false, true, false, false, false, false, false, false, false, false] rfl rfl (any_of HT_.out (by kernel_rfl)) (fun _ _ _ h => h) (Or.inl ⟨by rfl, ?_⟩) ?_ ?_
  rotate_left
  ·intro w'; go_simp; with_reducible rfl
  rotate_left
  ·simp only [Act.put, sA, sB, sC, i64_w, i32_w]; rfl
  refine pure_ (i := 7) (N := some 12) (v := ?_) (a' := ?_) #[true, false, true, false, true, false, false, true, false, false, false, false, false] rfl rfl (any_of HT_.out (by kernel_rfl)) (fun _ _ _ h => h) (Or.inl ⟨by rfl, ?_⟩) ?_ ?_
  rotate_left
  ·intro w'; go_simp; with_reducible rfl
  rotate_left
  ·simp only [Act.put, sA, sB, sC, i64_w, i32_w]; rfl
  refine take_ (i := 1) (N := some 6) (v := ?_) (a' := ?_) #[true, true, true, false, true, false, false, true, false, false, false, false, false] rfl rfl (take_ofW HT_.out HW_.out (by kernel_rfl)) (fun _ _ _ h => h) (Or.inl ⟨by rfl, ?_⟩) hHeld ?_ ?_
  rotate_left
  ·rintro w' ⟨s0, s1, s2, s3, s4⟩
   go_simp; with_reducible rfl
  rotate_left
  ·simp only [Act.put, sA, sB, sC, i64_w, i32_w]; rfl
  refine take_ (i := 3) (N := some 8) (v := ?_) (a' := ?_) #[true, true, true, true, true, false, false, true, false, false, false, false, false] rfl rfl (take_ofW HT_.out HW_.out (by kernel_rfl)) (fun _ _ _ h => h) (Or.inl ⟨by rfl, ?_⟩) hHeld ?_ ?_
  rotate_left
  ·rintro w' ⟨s0, s1, s2, s3, s4⟩
   go_simp; with_reducible rfl
  rotate_left
  ·simp only [Act.put, sA, sB, sC, i64_w, i32_w]; rfl
  refine take_ (i := 5) (N := some 10) (v := ?_) (a' := ?_) #[true, true, true, true, true, true, false, true, false, false, false, false, false] rfl rfl (take_ofW HT_.out HW_.out (by kernel_rfl)) (fun _ _ _ h => h) (Or.inl ⟨by rfl, ?_⟩) hHeld ?_ ?_
  rotate_left
  ·rintro w' ⟨s0, s1, s2, s3, s4⟩
   go_simp; with_reducible rfl
  rotate_left
  ·simp only [Act.put, sA, sB, sC, i64_w, i32_w]; rfl
  refine take_ (i := 8) (N := some 13) (v := ?_) (a' := ?_) #[true, true, true, true, true, true, false, true, true, false, false, false, false] rfl rfl (take_ofW HT_.out HW_.out (by kernel_rfl)) (fun _ _ _ h => h) (Or.inl ⟨by rfl, ?_⟩) hHeld ?_ ?_
  rotate_left
  ·rintro w' ⟨s0, s1, s2, s3, s4⟩
   go_simp; with_reducible rfl
  rotate_left
  ·simp only [Act.put, sA, sB, sC, i64_w, i32_w]; rfl
  refine join_ (σ := Value × Value × Nat) 1 #[true, true, true, true, true, true, true, true, true, true, true, true, false] (fun s_ => [(11, s_.1), (14, s_.2.1), (3, .pointer (some ⟨s_.2.2, 0, none⟩)), (15, .agg #[.int .i64 a0_0, .int .i64 a0_1, .string a0_2, s_.2.1, .slice none 0 0])]) (fun s_ w' => (w'.cell? ⟨gb303, 0, none⟩ = some (.int .i64 a0_0) ∧ w'.cell? ⟨gb303, 1, none⟩ = some (.int .i64 a0_1) ∧ w'.cell? ⟨gb303, 2, none⟩ = some (.string a0_2) ∧ w'.cell? ⟨gb303, 3, none⟩ = some (.slice A0_3 l0_3.length c0_3) ∧ w'.cell? ⟨gb303, 4, none⟩ = some (.slice A0_4 l0_4.length c0_4)) ∧ (Kd.R Kd.string 9 w' w.heap.size (fun _ => True) s_.2.1 y308) ∧ (w'.heap[gb303]? = some (.cells #[.int .i64 a0_0, .int .i64 a0_1, .string a0_2, .slice A0_3 l0_3.length c0_3, .slice A0_4 l0_4.length c0_4] 36 (0, 0))) ∧ (w'.heap[gb304]? = some (.cells #[.int .i64 0, .int .i64 0, .string (⟨#[]⟩ : ByteArray), .slice none 0 0, .slice none 0 0] 25 (0, 0))) ∧ (w'.heap[s_.2.2]? = some (.cells #[.int .i64 0, .int .i64 0, .string (⟨#[]⟩ : ByteArray), .slice none 0 0, .slice none 0 0] 25 (0, 0))) ∧ (w.heap.size ≤ s_.2.2) ∧ (w.heap.size ≤ s_.2.2) ∧ (gb303 ≠ s_.2.2) ∧ (s_.2.2 ≠ gb303) ∧ (gb304 ≠ s_.2.2) ∧ (s_.2.2 ≠ gb304) ∧ (Below w.heap.size w w')) ?_ ?_
  rotate_left
  ·intro hCont
   refine two_ (i := 6) (j := 11) (Ni := some 11) (Nj := some 3) #[true, true, true, true, true, true, true, true, true, false, false, false, false] #[true, true, true, true, true, true, false, true, true, false, false, true, false] rfl rfl rfl rfl (two_of HT_.out (by kernel_rfl)) (by decide) (by decide) (fun K hK => ?_) (fun K hK => ?_)
   ·skip
    refine Kd.R_lit_step Kd.string _ 9 ?hg (N := 11) ?hd (xs := ([] : List ByteArray)) (inner := []) (ok := fun _ => True) (okp := fun _ => True) ?hr ?hp (fun _ hk => hk) trivial (Below.refl _ _) (Nat.le_refl _) (by simp) ?_; (case hd => rfl); (case hg => rfl); (case hr => first | (go_simp; done) | (go_simp; rfl)); (case hp => exact (Reps.none _ _))
    intro v306 w6 ho7 hb hg_ hnew_; clear hg_ hnew_
    (first | rw [← Ny305.out] at ho7 | (simp only [Int.reduceToNat] at ho7; rw [← Ny305.out] at ho7))
    have n0_ := aM (Kd.R_lower ho7 (below_size (by repeat (first | (with_reducible first | exact HB.out | apply below_alloc | apply pw_below_drewN | apply below_drew1 | refine below_set ?_ GE303.out | refine below_set ?_ GE304.out) | exact HB.out))))
    have n1_ := aM (blk_below (g := gb303) (o := .cells #[.int .i64 a0_0, .int .i64 a0_1, .string a0_2, .slice A0_3 l0_3.length c0_3, .slice A0_4 l0_4.length c0_4] 36 (0, 0)) (by (with_reducible repeat (first | refine blk_drewN ?_ _ | refine blk_drew ?_ | refine blk_alloc ?_ _)); exact BK303.out) hb)
    have n2_ := aM (blk_below (g := gb304) (o := .cells #[.int .i64 0, .int .i64 0, .string (⟨#[]⟩ : ByteArray), .slice none 0 0, .slice none 0 0] 25 (0, 0)) (by (with_reducible repeat (first | refine blk_drewN ?_ _ | refine blk_drew ?_ | refine blk_alloc ?_ _)); exact BK304.out) hb)
    have n3_ := aM (below_step (by repeat (first | (with_reducible first | exact HB.out | apply below_alloc | apply pw_below_drewN | apply below_drew1 | refine below_set ?_ GE303.out | refine below_set ?_ GE304.out) | exact HB.out)) hb)
    clear BK303 BK304 HB; have HO307 := n0_; have BK303 := n1_; have BK304 := n2_; have HB := n3_; clear n0_ n1_ n2_ n3_ hb ho7
    refine hK.out _ _ ⟨(blk_cell BK303.out 0).trans rfl, (blk_cell BK303.out 1).trans rfl, (blk_cell BK303.out 2).trans rfl, (blk_cell BK303.out 3).trans rfl, (blk_cell BK303.out 4).trans rfl⟩ (fun hHeld => ?_)
    clear hK K
    refine norm_ (a' := ?_) ?_ ?_
    rotate_left
    ·show Act.put _ (some 11) _ = _
     simp only [Act.put, sA, sB, sC, i64_w, i32_w]; rfl
    refine two_ (i := 9) (j := 11) (Ni := some 14) (Nj := some 3) #[true, true, true, true, true, true, true, true, true, true, false, false, false] #[true, true, true, true, true, true, true, true, true, false, false, true, false] rfl rfl rfl rfl (two_of HT_.out (by kernel_rfl)) (by decide) (by decide) (fun K hK => ?_) (fun K hK => ?_)
    ·skip
     refine Kd.R_append_rows_step Kd.string (w0 := w) w.heap.size (by rfl) (.tmp 11) (.tmp 13) 22 9 (.string ⟨#[]⟩) 16 rfl Try.underlying22 info9 rfl (by decide) (by omega) v306 y305 l0_3 _ _ _ (fun _ => True) (fun _ => False) rfl rfl ?aO ?aR (fun _ _ h => h) (fun _ h => h.elim) ?aF ?aB ?aS ?aL ?_
     (case aR => repeat (first | exact (Kd.C_below HR0_3.out HB.out) | (with_reducible refine Kd.C_alloc ?_ _) | (with_reducible refine Kd.C_drewN ?_ _) | (with_reducible refine Kd.C_drew ?_)))
     (case aB => exact (by repeat (first | (with_reducible first | exact HB.out | apply below_alloc | apply pw_below_drewN | apply below_drew1 | refine below_set ?_ GE303.out | refine below_set ?_ GE304.out) | exact HB.out)))
     (case aF => exact (fun _ _ => trivial))
     (case aO => exact (by (with_reducible repeat (first | apply Kd.R_alloc | apply Kd.R_drewN | apply Kd.R_drew)); exact HO307.out))
     (case aS => exact (below_size (by repeat (first | (with_reducible first | exact HB.out | apply below_alloc | apply pw_below_drewN | apply below_drew1 | refine below_set ?_ GE303.out | refine below_set ?_ GE304.out) | exact HB.out))))
     (case aL => have := LMc2.out; omega)
     intro v309 w8 ho hb hg hat
     rw [← Ny308.out] at ho
     have n0_ := aM (blk_grown (g := gb303) (o := .cells #[.int .i64 a0_0, .int .i64 a0_1, .string a0_2, .slice A0_3 l0_3.length c0_3, .slice A0_4 l0_4.length c0_4] 36 (0, 0)) (by (with_reducible repeat (first | refine blk_drewN ?_ _ | refine blk_drew ?_ | refine blk_alloc ?_ _)); exact BK303.out) hg (Kd.R_ne HO307.out BK303.out (by decide)))
     have n1_ := aM (blk_grown (g := gb304) (o := .cells #[.int .i64 0, .int .i64 0, .string (⟨#[]⟩ : ByteArray), .slice none 0 0, .slice none 0 0] 25 (0, 0)) (by (with_reducible repeat (first | refine blk_drewN ?_ _ | refine blk_drew ?_ | refine blk_alloc ?_ _)); exact BK304.out) hg (Kd.R_ne HO307.out BK304.out (by decide)))
     have n2_ := aM (hb)
     have n3_ := aM (ho)
     clear BK303 BK304 HB HO307; have BK303 := n0_; have BK304 := n1_; have HB := n2_; have HO310 := n3_; clear n0_ n1_ n2_ n3_ ho hb hg hat
     obtain ⟨Ao9, co9, eo9⟩ := Kd.R_slice HO310.out
     (first | subst eo9 | (injection eo9 with f1_ f2_ f3_; have f4_ := f1_.symm; have f5_ := f3_.symm; clear f1_ f2_ f3_; subst f4_; subst f5_))
     refine hK.out _ _ ⟨(blk_cell BK303.out 0).trans rfl, (blk_cell BK303.out 1).trans rfl, (blk_cell BK303.out 2).trans rfl, (blk_cell BK303.out 3).trans rfl, (blk_cell BK303.out 4).trans rfl⟩ (fun hHeld => ?_)
     clear hK K
     refine norm_ (a' := ?_) ?_ ?_
     rotate_left
     ·show Act.put _ (some 14) _ = _
      simp only [Act.put, sA, sB, sC, i64_w, i32_w]; rfl
     refine pure_ (i := 10) (N := some 15) (v := ?_) (a' := ?_) #[true, true, true, true, true, true, true, true, true, true, true, false, false] rfl rfl (any_of HT_.out (by kernel_rfl)) (fun _ _ _ h => h) (Or.inl ⟨by rfl, ?_⟩) ?_ ?_
     rotate_left
     ·intro w'; go_simp; with_reducible rfl
     rotate_left
     ·simp only [Act.put, sA, sB, sC, i64_w, i32_w]; rfl
     refine one_ (i := 11) (N := some 3) #[true, true, true, true, true, true, true, true, true, true, true, true, false] rfl rfl (one_of HT_.out (by kernel_rfl)) (by decide) (fun K hK => ?_)
     refine box_step ?hg (N := 3) ?hd (cs := #[.int .i64 0, .int .i64 0, .string (⟨#[]⟩ : ByteArray), .slice none 0 0, .slice none 0 0]) (t := 25) ?hr ?_; (case hd => rfl); (case hg => rfl); (case hr => first | (go_simp; done) | (go_simp; rfl))
     intro gb311 hg w10 hbox hb
     have n0_ := aM (Kd.R_below (by (with_reducible repeat (first | apply Kd.R_alloc | apply Kd.R_drewN | apply Kd.R_drew)); exact HO310.out) hb)
     have n1_ := aM (blk_below (g := gb303) (o := .cells #[.int .i64 a0_0, .int .i64 a0_1, .string a0_2, .slice A0_3 l0_3.length c0_3, .slice A0_4 l0_4.length c0_4] 36 (0, 0)) (by (with_reducible repeat (first | refine blk_drewN ?_ _ | refine blk_drew ?_ | refine blk_alloc ?_ _)); exact BK303.out) hb)
     have n2_ := aM (blk_below (g := gb304) (o := .cells #[.int .i64 0, .int .i64 0, .string (⟨#[]⟩ : ByteArray), .slice none 0 0, .slice none 0 0] 25 (0, 0)) (by (with_reducible repeat (first | refine blk_drewN ?_ _ | refine blk_drew ?_ | refine blk_alloc ?_ _)); exact BK304.out) hb)
     have n3_ := aM (below_step (by repeat (first | (with_reducible first | exact HB.out | apply below_alloc | apply pw_below_drewN | apply below_drew1 | refine below_set ?_ GE303.out | refine below_set ?_ GE304.out) | exact HB.out)) hb)
     have n4_ := aM (hbox)
     have n5_ := aM ((by rw [hg]; exact (below_size (by repeat (first | (with_reducible first | exact HB.out | apply below_alloc | apply pw_below_drewN | apply below_drew1 | refine below_set ?_ GE303.out | refine below_set ?_ GE304.out) | exact HB.out))) : w.heap.size ≤ gb311))
     have n6_ := aM ((by rw [hg]; exact (below_size (by repeat (first | (with_reducible first | exact HB.out | apply below_alloc | apply pw_below_drewN | apply below_drew1 | refine below_set ?_ GE303.out | refine below_set ?_ GE304.out) | exact HB.out))) : w.heap.size ≤ gb311))
     have n7_ := aM ((by rw [hg]; exact Nat.ne_of_lt (blk_lt (g := gb303) (o := .cells #[.int .i64 a0_0, .int .i64 a0_1, .string a0_2, .slice A0_3 l0_3.length c0_3, .slice A0_4 l0_4.length c0_4] 36 (0, 0)) (by (with_reducible repeat (first | refine blk_drewN ?_ _ | refine blk_drew ?_ | refine blk_alloc ?_ _)); exact BK303.out)) : gb303 ≠ gb311))
     have n8_ := aM ((by rw [hg]; exact Nat.ne_of_gt (blk_lt (g := gb303) (o := .cells #[.int .i64 a0_0, .int .i64 a0_1, .string a0_2, .slice A0_3 l0_3.length c0_3, .slice A0_4 l0_4.length c0_4] 36 (0, 0)) (by (with_reducible repeat (first | refine blk_drewN ?_ _ | refine blk_drew ?_ | refine blk_alloc ?_ _)); exact BK303.out)) : gb311 ≠ gb303))
     have n9_ := aM ((by rw [hg]; exact Nat.ne_of_lt (blk_lt (g := gb304) (o := .cells #[.int .i64 0, .int .i64 0, .string (⟨#[]⟩ : ByteArray), .slice none 0 0, .slice none 0 0] 25 (0, 0)) (by (with_reducible repeat (first | refine blk_drewN ?_ _ | refine blk_drew ?_ | refine blk_alloc ?_ _)); exact BK304.out)) : gb304 ≠ gb311))
     have n10_ := aM ((by rw [hg]; exact Nat.ne_of_gt (blk_lt (g := gb304) (o := .cells #[.int .i64 0, .int .i64 0, .string (⟨#[]⟩ : ByteArray), .slice none 0 0, .slice none 0 0] 25 (0, 0)) (by (with_reducible repeat (first | refine blk_drewN ?_ _ | refine blk_drew ?_ | refine blk_alloc ?_ _)); exact BK304.out)) : gb311 ≠ gb304))
     clear HO310 BK303 BK304 HB; have HO310 := n0_; have BK303 := n1_; have BK304 := n2_; have HB := n3_; have BK311 := n4_; have GW311 := n5_; have GE311 := n6_; have NB303_311 := n7_; have NB311_303 := n8_; have NB304_311 := n9_; have NB311_304 := n10_; clear n0_ n1_ n2_ n3_ n4_ n5_ n6_ n7_ n8_ n9_ n10_ hb hbox hg
     refine hK.out _ _ ⟨(blk_cell BK303.out 0).trans rfl, (blk_cell BK303.out 1).trans rfl, (blk_cell BK303.out 2).trans rfl, (blk_cell BK303.out 3).trans rfl, (blk_cell BK303.out 4).trans rfl⟩ (fun hHeld => ?_)
     clear hK K
     refine norm_ (a' := ?_) ?_ ?_
     rotate_left
     ·show Act.put _ (some 3) _ = _
      simp only [Act.put, sA, sB, sC, i64_w, i32_w]; rfl
     exact norm_ (by simp only [putAll, Act.put, sA, sB, sC]) (hCont (v306, .slice Ao9 y308.length co9, gb311) _ ⟨hHeld, (by (with_reducible repeat (first | apply Kd.R_alloc | apply Kd.R_drewN | apply Kd.R_drew)); exact HO310.out), (by (with_reducible repeat (first | refine blk_drewN ?_ _ | refine blk_drew ?_ | refine blk_alloc ?_ _)); exact BK303.out), (by (with_reducible repeat (first | refine blk_drewN ?_ _ | refine blk_drew ?_ | refine blk_alloc ?_ _)); exact BK304.out), (by (with_reducible repeat (first | refine blk_drewN ?_ _ | refine blk_drew ?_ | refine blk_alloc ?_ _)); exact BK311.out), GW311.out, GE311.out, NB303_311.out, NB311_303.out, NB304_311.out, NB311_304.out, (by repeat (first | (with_reducible first | exact HB.out | apply below_alloc | apply pw_below_drewN | apply below_drew1 | refine below_set ?_ GE303.out | refine below_set ?_ GE304.out | refine below_set ?_ GE311.out) | exact HB.out))⟩)
    ·skip
     refine box_step ?hg (N := 3) ?hd (cs := #[.int .i64 0, .int .i64 0, .string (⟨#[]⟩ : ByteArray), .slice none 0 0, .slice none 0 0]) (t := 25) ?hr ?_; (case hd => rfl); (case hg => rfl); (case hr => first | (go_simp; done) | (go_simp; rfl))
     intro gb311 hg w8 hbox hb
     have n0_ := aM (Kd.R_below (by (with_reducible repeat (first | apply Kd.R_alloc | apply Kd.R_drewN | apply Kd.R_drew)); exact HO307.out) hb)
     have n1_ := aM (blk_below (g := gb303) (o := .cells #[.int .i64 a0_0, .int .i64 a0_1, .string a0_2, .slice A0_3 l0_3.length c0_3, .slice A0_4 l0_4.length c0_4] 36 (0, 0)) (by (with_reducible repeat (first | refine blk_drewN ?_ _ | refine blk_drew ?_ | refine blk_alloc ?_ _)); exact BK303.out) hb)
     have n2_ := aM (blk_below (g := gb304) (o := .cells #[.int .i64 0, .int .i64 0, .string (⟨#[]⟩ : ByteArray), .slice none 0 0, .slice none 0 0] 25 (0, 0)) (by (with_reducible repeat (first | refine blk_drewN ?_ _ | refine blk_drew ?_ | refine blk_alloc ?_ _)); exact BK304.out) hb)
     have n3_ := aM (below_step (by repeat (first | (with_reducible first | exact HB.out | apply below_alloc | apply pw_below_drewN | apply below_drew1 | refine below_set ?_ GE303.out | refine below_set ?_ GE304.out) | exact HB.out)) hb)
     have n4_ := aM (hbox)
     have n5_ := aM ((by rw [hg]; exact (below_size (by repeat (first | (with_reducible first | exact HB.out | apply below_alloc | apply pw_below_drewN | apply below_drew1 | refine below_set ?_ GE303.out | refine below_set ?_ GE304.out) | exact HB.out))) : w.heap.size ≤ gb311))
     have n6_ := aM ((by rw [hg]; exact (below_size (by repeat (first | (with_reducible first | exact HB.out | apply below_alloc | apply pw_below_drewN | apply below_drew1 | refine below_set ?_ GE303.out | refine below_set ?_ GE304.out) | exact HB.out))) : w.heap.size ≤ gb311))
     have n7_ := aM ((by rw [hg]; exact Nat.ne_of_lt (blk_lt (g := gb303) (o := .cells #[.int .i64 a0_0, .int .i64 a0_1, .string a0_2, .slice A0_3 l0_3.length c0_3, .slice A0_4 l0_4.length c0_4] 36 (0, 0)) (by (with_reducible repeat (first | refine blk_drewN ?_ _ | refine blk_drew ?_ | refine blk_alloc ?_ _)); exact BK303.out)) : gb303 ≠ gb311))
     have n8_ := aM ((by rw [hg]; exact Nat.ne_of_gt (blk_lt (g := gb303) (o := .cells #[.int .i64 a0_0, .int .i64 a0_1, .string a0_2, .slice A0_3 l0_3.length c0_3, .slice A0_4 l0_4.length c0_4] 36 (0, 0)) (by (with_reducible repeat (first | refine blk_drewN ?_ _ | refine blk_drew ?_ | refine blk_alloc ?_ _)); exact BK303.out)) : gb311 ≠ gb303))
     have n9_ := aM ((by rw [hg]; exact Nat.ne_of_lt (blk_lt (g := gb304) (o := .cells #[.int .i64 0, .int .i64 0, .string (⟨#[]⟩ : ByteArray), .slice none 0 0, .slice none 0 0] 25 (0, 0)) (by (with_reducible repeat (first | refine blk_drewN ?_ _ | refine blk_drew ?_ | refine blk_alloc ?_ _)); exact BK304.out)) : gb304 ≠ gb311))
     have n10_ := aM ((by rw [hg]; exact Nat.ne_of_gt (blk_lt (g := gb304) (o := .cells #[.int .i64 0, .int .i64 0, .string (⟨#[]⟩ : ByteArray), .slice none 0 0, .slice none 0 0] 25 (0, 0)) (by (with_reducible repeat (first | refine blk_drewN ?_ _ | refine blk_drew ?_ | refine blk_alloc ?_ _)); exact BK304.out)) : gb311 ≠ gb304))
     clear HO307 BK303 BK304 HB; have HO307 := n0_; have BK303 := n1_; have BK304 := n2_; have HB := n3_; have BK311 := n4_; have GW311 := n5_; have GE311 := n6_; have NB303_311 := n7_; have NB311_303 := n8_; have NB304_311 := n9_; have NB311_304 := n10_; clear n0_ n1_ n2_ n3_ n4_ n5_ n6_ n7_ n8_ n9_ n10_ hb hbox hg
     refine hK.out _ _ ⟨(blk_cell BK303.out 0).trans rfl, (blk_cell BK303.out 1).trans rfl, (blk_cell BK303.out 2).trans rfl, (blk_cell BK303.out 3).trans rfl, (blk_cell BK303.out 4).trans rfl⟩ (fun hHeld => ?_)
     clear hK K
     refine norm_ (a' := ?_) ?_ ?_
     rotate_left
     ·show Act.put _ (some 3) _ = _
      simp only [Act.put, sA, sB, sC, i64_w, i32_w]; rfl
     refine one_ (i := 9) (N := some 14) #[true, true, true, true, true, true, true, true, true, true, false, true, false] rfl rfl (one_of HT_.out (by kernel_rfl)) (by decide) (fun K hK => ?_)
     refine Kd.R_append_rows_step Kd.string (w0 := w) w.heap.size (by rfl) (.tmp 11) (.tmp 13) 22 9 (.string ⟨#[]⟩) 16 rfl Try.underlying22 info9 rfl (by decide) (by omega) v306 y305 l0_3 _ _ _ (fun _ => True) (fun _ => False) rfl rfl ?aO ?aR (fun _ _ h => h) (fun _ h => h.elim) ?aF ?aB ?aS ?aL ?_
     (case aR => repeat (first | exact (Kd.C_below HR0_3.out HB.out) | (with_reducible refine Kd.C_alloc ?_ _) | (with_reducible refine Kd.C_drewN ?_ _) | (with_reducible refine Kd.C_drew ?_)))
     (case aB => exact (by repeat (first | (with_reducible first | exact HB.out | apply below_alloc | apply pw_below_drewN | apply below_drew1 | refine below_set ?_ GE303.out | refine below_set ?_ GE304.out | refine below_set ?_ GE311.out) | exact HB.out)))
     (case aF => exact (fun _ _ => trivial))
     (case aO => exact (by (with_reducible repeat (first | apply Kd.R_alloc | apply Kd.R_drewN | apply Kd.R_drew)); exact HO307.out))
     (case aS => exact (below_size (by repeat (first | (with_reducible first | exact HB.out | apply below_alloc | apply pw_below_drewN | apply below_drew1 | refine below_set ?_ GE303.out | refine below_set ?_ GE304.out | refine below_set ?_ GE311.out) | exact HB.out))))
     (case aL => have := LMc2.out; omega)
     intro v309 w9 ho hb hg hat
     rw [← Ny308.out] at ho
     have n0_ := aM (blk_grown (g := gb303) (o := .cells #[.int .i64 a0_0, .int .i64 a0_1, .string a0_2, .slice A0_3 l0_3.length c0_3, .slice A0_4 l0_4.length c0_4] 36 (0, 0)) (by (with_reducible repeat (first | refine blk_drewN ?_ _ | refine blk_drew ?_ | refine blk_alloc ?_ _)); exact BK303.out) hg (Kd.R_ne HO307.out BK303.out (by decide)))
     have n1_ := aM (blk_grown (g := gb304) (o := .cells #[.int .i64 0, .int .i64 0, .string (⟨#[]⟩ : ByteArray), .slice none 0 0, .slice none 0 0] 25 (0, 0)) (by (with_reducible repeat (first | refine blk_drewN ?_ _ | refine blk_drew ?_ | refine blk_alloc ?_ _)); exact BK304.out) hg (Kd.R_ne HO307.out BK304.out (by decide)))
     have n2_ := aM (blk_grown (g := gb311) (o := .cells #[.int .i64 0, .int .i64 0, .string (⟨#[]⟩ : ByteArray), .slice none 0 0, .slice none 0 0] 25 (0, 0)) (by (with_reducible repeat (first | refine blk_drewN ?_ _ | refine blk_drew ?_ | refine blk_alloc ?_ _)); exact BK311.out) hg (Kd.R_ne HO307.out BK311.out (by decide)))
     have n3_ := aM (hb)
     have n4_ := aM (ho)
     clear BK303 BK304 BK311 HB HO307; have BK303 := n0_; have BK304 := n1_; have BK311 := n2_; have HB := n3_; have HO310 := n4_; clear n0_ n1_ n2_ n3_ n4_ ho hb hg hat
     obtain ⟨Ao10, co10, eo10⟩ := Kd.R_slice HO310.out
     (first | subst eo10 | (injection eo10 with f1_ f2_ f3_; have f4_ := f1_.symm; have f5_ := f3_.symm; clear f1_ f2_ f3_; subst f4_; subst f5_))
     refine hK.out _ _ ⟨(blk_cell BK303.out 0).trans rfl, (blk_cell BK303.out 1).trans rfl, (blk_cell BK303.out 2).trans rfl, (blk_cell BK303.out 3).trans rfl, (blk_cell BK303.out 4).trans rfl⟩ (fun hHeld => ?_)
     clear hK K
     refine norm_ (a' := ?_) ?_ ?_
     rotate_left
     ·show Act.put _ (some 14) _ = _
      simp only [Act.put, sA, sB, sC, i64_w, i32_w]; rfl
     refine pure_ (i := 10) (N := some 15) (v := ?_) (a' := ?_) #[true, true, true, true, true, true, true, true, true, true, true, true, false] rfl rfl (any_of HT_.out (by kernel_rfl)) (fun _ _ _ h => h) (Or.inl ⟨by rfl, ?_⟩) ?_ ?_
     rotate_left
     ·intro w'; go_simp; with_reducible rfl
     rotate_left
     ·simp only [Act.put, sA, sB, sC, i64_w, i32_w]; rfl
     exact norm_ (by simp only [putAll, Act.put, sA, sB, sC]) (hCont (v306, .slice Ao10 y308.length co10, gb311) _ ⟨hHeld, (by (with_reducible repeat (first | apply Kd.R_alloc | apply Kd.R_drewN | apply Kd.R_drew)); exact HO310.out), (by (with_reducible repeat (first | refine blk_drewN ?_ _ | refine blk_drew ?_ | refine blk_alloc ?_ _)); exact BK303.out), (by (with_reducible repeat (first | refine blk_drewN ?_ _ | refine blk_drew ?_ | refine blk_alloc ?_ _)); exact BK304.out), (by (with_reducible repeat (first | refine blk_drewN ?_ _ | refine blk_drew ?_ | refine blk_alloc ?_ _)); exact BK311.out), GW311.out, GE311.out, NB303_311.out, NB311_303.out, NB304_311.out, NB311_304.out, (by repeat (first | (with_reducible first | exact HB.out | apply below_alloc | apply pw_below_drewN | apply below_drew1 | refine below_set ?_ GE303.out | refine below_set ?_ GE304.out | refine below_set ?_ GE311.out) | exact HB.out))⟩)
   ·skip
    refine box_step ?hg (N := 3) ?hd (cs := #[.int .i64 0, .int .i64 0, .string (⟨#[]⟩ : ByteArray), .slice none 0 0, .slice none 0 0]) (t := 25) ?hr ?_; (case hd => rfl); (case hg => rfl); (case hr => first | (go_simp; done) | (go_simp; rfl))
    intro gb311 hg w6 hbox hb
    have n0_ := aM (blk_below (g := gb303) (o := .cells #[.int .i64 a0_0, .int .i64 a0_1, .string a0_2, .slice A0_3 l0_3.length c0_3, .slice A0_4 l0_4.length c0_4] 36 (0, 0)) (by (with_reducible repeat (first | refine blk_drewN ?_ _ | refine blk_drew ?_ | refine blk_alloc ?_ _)); exact BK303.out) hb)
    have n1_ := aM (blk_below (g := gb304) (o := .cells #[.int .i64 0, .int .i64 0, .string (⟨#[]⟩ : ByteArray), .slice none 0 0, .slice none 0 0] 25 (0, 0)) (by (with_reducible repeat (first | refine blk_drewN ?_ _ | refine blk_drew ?_ | refine blk_alloc ?_ _)); exact BK304.out) hb)
    have n2_ := aM (below_step (by repeat (first | (with_reducible first | exact HB.out | apply below_alloc | apply pw_below_drewN | apply below_drew1 | refine below_set ?_ GE303.out | refine below_set ?_ GE304.out) | exact HB.out)) hb)
    have n3_ := aM (hbox)
    have n4_ := aM ((by rw [hg]; exact (below_size (by repeat (first | (with_reducible first | exact HB.out | apply below_alloc | apply pw_below_drewN | apply below_drew1 | refine below_set ?_ GE303.out | refine below_set ?_ GE304.out) | exact HB.out))) : w.heap.size ≤ gb311))
    have n5_ := aM ((by rw [hg]; exact (below_size (by repeat (first | (with_reducible first | exact HB.out | apply below_alloc | apply pw_below_drewN | apply below_drew1 | refine below_set ?_ GE303.out | refine below_set ?_ GE304.out) | exact HB.out))) : w.heap.size ≤ gb311))
    have n6_ := aM ((by rw [hg]; exact Nat.ne_of_lt (blk_lt (g := gb303) (o := .cells #[.int .i64 a0_0, .int .i64 a0_1, .string a0_2, .slice A0_3 l0_3.length c0_3, .slice A0_4 l0_4.length c0_4] 36 (0, 0)) (by (with_reducible repeat (first | refine blk_drewN ?_ _ | refine blk_drew ?_ | refine blk_alloc ?_ _)); exact BK303.out)) : gb303 ≠ gb311))
    have n7_ := aM ((by rw [hg]; exact Nat.ne_of_gt (blk_lt (g := gb303) (o := .cells #[.int .i64 a0_0, .int .i64 a0_1, .string a0_2, .slice A0_3 l0_3.length c0_3, .slice A0_4 l0_4.length c0_4] 36 (0, 0)) (by (with_reducible repeat (first | refine blk_drewN ?_ _ | refine blk_drew ?_ | refine blk_alloc ?_ _)); exact BK303.out)) : gb311 ≠ gb303))
    have n8_ := aM ((by rw [hg]; exact Nat.ne_of_lt (blk_lt (g := gb304) (o := .cells #[.int .i64 0, .int .i64 0, .string (⟨#[]⟩ : ByteArray), .slice none 0 0, .slice none 0 0] 25 (0, 0)) (by (with_reducible repeat (first | refine blk_drewN ?_ _ | refine blk_drew ?_ | refine blk_alloc ?_ _)); exact BK304.out)) : gb304 ≠ gb311))
    have n9_ := aM ((by rw [hg]; exact Nat.ne_of_gt (blk_lt (g := gb304) (o := .cells #[.int .i64 0, .int .i64 0, .string (⟨#[]⟩ : ByteArray), .slice none 0 0, .slice none 0 0] 25 (0, 0)) (by (with_reducible repeat (first | refine blk_drewN ?_ _ | refine blk_drew ?_ | refine blk_alloc ?_ _)); exact BK304.out)) : gb311 ≠ gb304))
    clear BK303 BK304 HB; have BK303 := n0_; have BK304 := n1_; have HB := n2_; have BK311 := n3_; have GW311 := n4_; have GE311 := n5_; have NB303_311 := n6_; have NB311_303 := n7_; have NB304_311 := n8_; have NB311_304 := n9_; clear n0_ n1_ n2_ n3_ n4_ n5_ n6_ n7_ n8_ n9_ hb hbox hg
    refine hK.out _ _ ⟨(blk_cell BK303.out 0).trans rfl, (blk_cell BK303.out 1).trans rfl, (blk_cell BK303.out 2).trans rfl, (blk_cell BK303.out 3).trans rfl, (blk_cell BK303.out 4).trans rfl⟩ (fun hHeld => ?_)
    clear hK K
    refine norm_ (a' := ?_) ?_ ?_
    rotate_left
    ·show Act.put _ (some 3) _ = _
     simp only [Act.put, sA, sB, sC, i64_w, i32_w]; rfl
    refine one_ (i := 6) (N := some 11) #[true, true, true, true, true, true, true, true, true, false, false, true, false] rfl rfl (one_of HT_.out (by kernel_rfl)) (by decide) (fun K hK => ?_)
    refine Kd.R_lit_step Kd.string _ 9 ?hg (N := 11) ?hd (xs := ([] : List ByteArray)) (inner := []) (ok := fun _ => True) (okp := fun _ => True) ?hr ?hp (fun _ hk => hk) trivial (Below.refl _ _) (Nat.le_refl _) (by simp) ?_; (case hd => rfl); (case hg => rfl); (case hr => first | (go_simp; done) | (go_simp; rfl)); (case hp => exact (Reps.none _ _))
    intro v306 w7 ho8 hb hg_ hnew_; clear hg_ hnew_
    (first | rw [← Ny305.out] at ho8 | (simp only [Int.reduceToNat] at ho8; rw [← Ny305.out] at ho8))
    have n0_ := aM (Kd.R_lower ho8 (below_size (by repeat (first | (with_reducible first | exact HB.out | apply below_alloc | apply pw_below_drewN | apply below_drew1 | refine below_set ?_ GE303.out | refine below_set ?_ GE304.out | refine below_set ?_ GE311.out) | exact HB.out))))
    have n1_ := aM (blk_below (g := gb303) (o := .cells #[.int .i64 a0_0, .int .i64 a0_1, .string a0_2, .slice A0_3 l0_3.length c0_3, .slice A0_4 l0_4.length c0_4] 36 (0, 0)) (by (with_reducible repeat (first | refine blk_drewN ?_ _ | refine blk_drew ?_ | refine blk_alloc ?_ _)); exact BK303.out) hb)
    have n2_ := aM (blk_below (g := gb304) (o := .cells #[.int .i64 0, .int .i64 0, .string (⟨#[]⟩ : ByteArray), .slice none 0 0, .slice none 0 0] 25 (0, 0)) (by (with_reducible repeat (first | refine blk_drewN ?_ _ | refine blk_drew ?_ | refine blk_alloc ?_ _)); exact BK304.out) hb)
    have n3_ := aM (blk_below (g := gb311) (o := .cells #[.int .i64 0, .int .i64 0, .string (⟨#[]⟩ : ByteArray), .slice none 0 0, .slice none 0 0] 25 (0, 0)) (by (with_reducible repeat (first | refine blk_drewN ?_ _ | refine blk_drew ?_ | refine blk_alloc ?_ _)); exact BK311.out) hb)
    have n4_ := aM (below_step (by repeat (first | (with_reducible first | exact HB.out | apply below_alloc | apply pw_below_drewN | apply below_drew1 | refine below_set ?_ GE303.out | refine below_set ?_ GE304.out | refine below_set ?_ GE311.out) | exact HB.out)) hb)
    clear BK303 BK304 BK311 HB; have HO307 := n0_; have BK303 := n1_; have BK304 := n2_; have BK311 := n3_; have HB := n4_; clear n0_ n1_ n2_ n3_ n4_ hb ho8
    refine hK.out _ _ ⟨(blk_cell BK303.out 0).trans rfl, (blk_cell BK303.out 1).trans rfl, (blk_cell BK303.out 2).trans rfl, (blk_cell BK303.out 3).trans rfl, (blk_cell BK303.out 4).trans rfl⟩ (fun hHeld => ?_)
    clear hK K
    refine norm_ (a' := ?_) ?_ ?_
    rotate_left
    ·show Act.put _ (some 11) _ = _
     simp only [Act.put, sA, sB, sC, i64_w, i32_w]; rfl
    refine one_ (i := 9) (N := some 14) #[true, true, true, true, true, true, true, true, true, true, false, true, false] rfl rfl (one_of HT_.out (by kernel_rfl)) (by decide) (fun K hK => ?_)
    refine Kd.R_append_rows_step Kd.string (w0 := w) w.heap.size (by rfl) (.tmp 11) (.tmp 13) 22 9 (.string ⟨#[]⟩) 16 rfl Try.underlying22 info9 rfl (by decide) (by omega) v306 y305 l0_3 _ _ _ (fun _ => True) (fun _ => False) rfl rfl ?aO ?aR (fun _ _ h => h) (fun _ h => h.elim) ?aF ?aB ?aS ?aL ?_
    (case aR => repeat (first | exact (Kd.C_below HR0_3.out HB.out) | (with_reducible refine Kd.C_alloc ?_ _) | (with_reducible refine Kd.C_drewN ?_ _) | (with_reducible refine Kd.C_drew ?_)))
    (case aB => exact (by repeat (first | (with_reducible first | exact HB.out | apply below_alloc | apply pw_below_drewN | apply below_drew1 | refine below_set ?_ GE303.out | refine below_set ?_ GE304.out | refine below_set ?_ GE311.out) | exact HB.out)))
    (case aF => exact (fun _ _ => trivial))
    (case aO => exact (by (with_reducible repeat (first | apply Kd.R_alloc | apply Kd.R_drewN | apply Kd.R_drew)); exact HO307.out))
    (case aS => exact (below_size (by repeat (first | (with_reducible first | exact HB.out | apply below_alloc | apply pw_below_drewN | apply below_drew1 | refine below_set ?_ GE303.out | refine below_set ?_ GE304.out | refine below_set ?_ GE311.out) | exact HB.out))))
    (case aL => have := LMc2.out; omega)
    intro v309 w9 ho hb hg hat
    rw [← Ny308.out] at ho
    have n0_ := aM (blk_grown (g := gb303) (o := .cells #[.int .i64 a0_0, .int .i64 a0_1, .string a0_2, .slice A0_3 l0_3.length c0_3, .slice A0_4 l0_4.length c0_4] 36 (0, 0)) (by (with_reducible repeat (first | refine blk_drewN ?_ _ | refine blk_drew ?_ | refine blk_alloc ?_ _)); exact BK303.out) hg (Kd.R_ne HO307.out BK303.out (by decide)))
    have n1_ := aM (blk_grown (g := gb304) (o := .cells #[.int .i64 0, .int .i64 0, .string (⟨#[]⟩ : ByteArray), .slice none 0 0, .slice none 0 0] 25 (0, 0)) (by (with_reducible repeat (first | refine blk_drewN ?_ _ | refine blk_drew ?_ | refine blk_alloc ?_ _)); exact BK304.out) hg (Kd.R_ne HO307.out BK304.out (by decide)))
    have n2_ := aM (blk_grown (g := gb311) (o := .cells #[.int .i64 0, .int .i64 0, .string (⟨#[]⟩ : ByteArray), .slice none 0 0, .slice none 0 0] 25 (0, 0)) (by (with_reducible repeat (first | refine blk_drewN ?_ _ | refine blk_drew ?_ | refine blk_alloc ?_ _)); exact BK311.out) hg (Kd.R_ne HO307.out BK311.out (by decide)))
    have n3_ := aM (hb)
    have n4_ := aM (ho)
    clear BK303 BK304 BK311 HB HO307; have BK303 := n0_; have BK304 := n1_; have BK311 := n2_; have HB := n3_; have HO310 := n4_; clear n0_ n1_ n2_ n3_ n4_ ho hb hg hat
    obtain ⟨Ao10, co10, eo10⟩ := Kd.R_slice HO310.out
    (first | subst eo10 | (injection eo10 with f1_ f2_ f3_; have f4_ := f1_.symm; have f5_ := f3_.symm; clear f1_ f2_ f3_; subst f4_; subst f5_))
    refine hK.out _ _ ⟨(blk_cell BK303.out 0).trans rfl, (blk_cell BK303.out 1).trans rfl, (blk_cell BK303.out 2).trans rfl, (blk_cell BK303.out 3).trans rfl, (blk_cell BK303.out 4).trans rfl⟩ (fun hHeld => ?_)
    clear hK K
    refine norm_ (a' := ?_) ?_ ?_
    rotate_left
    ·show Act.put _ (some 14) _ = _
     simp only [Act.put, sA, sB, sC, i64_w, i32_w]; rfl
    refine pure_ (i := 10) (N := some 15) (v := ?_) (a' := ?_) #[true, true, true, true, true, true, true, true, true, true, true, true, false] rfl rfl (any_of HT_.out (by kernel_rfl)) (fun _ _ _ h => h) (Or.inl ⟨by rfl, ?_⟩) ?_ ?_
    rotate_left
    ·intro w'; go_simp; with_reducible rfl
    rotate_left
    ·simp only [Act.put, sA, sB, sC, i64_w, i32_w]; rfl
    exact norm_ (by simp only [putAll, Act.put, sA, sB, sC]) (hCont (v306, .slice Ao10 y308.length co10, gb311) _ ⟨hHeld, (by (with_reducible repeat (first | apply Kd.R_alloc | apply Kd.R_drewN | apply Kd.R_drew)); exact HO310.out), (by (with_reducible repeat (first | refine blk_drewN ?_ _ | refine blk_drew ?_ | refine blk_alloc ?_ _)); exact BK303.out), (by (with_reducible repeat (first | refine blk_drewN ?_ _ | refine blk_drew ?_ | refine blk_alloc ?_ _)); exact BK304.out), (by (with_reducible repeat (first | refine blk_drewN ?_ _ | refine blk_drew ?_ | refine blk_alloc ?_ _)); exact BK311.out), GW311.out, GE311.out, NB303_311.out, NB311_303.out, NB304_311.out, NB311_304.out, (by repeat (first | (with_reducible first | exact HB.out | apply below_alloc | apply pw_below_drewN | apply below_drew1 | refine below_set ?_ GE303.out | refine below_set ?_ GE304.out | refine below_set ?_ GE311.out) | exact HB.out))⟩)
  rintro ⟨v306, v309, gb311⟩ w11 ⟨hS_, h0_, h1_, h2_, h3_, h4_, h5_, h6_, h7_, h8_, h9_, h10_⟩
  have n0_ : Aside0 (Kd.R Kd.string 9 w11 w.heap.size (fun _ => True) v309 y308) := ⟨h0_⟩
  have n1_ : Aside0 (w11.heap[gb303]? = some (.cells #[.int .i64 a0_0, .int .i64 a0_1, .string a0_2, .slice A0_3 l0_3.length c0_3, .slice A0_4 l0_4.length c0_4] 36 (0, 0))) := ⟨h1_⟩
  have n2_ : Aside0 (w11.heap[gb304]? = some (.cells #[.int .i64 0, .int .i64 0, .string (⟨#[]⟩ : ByteArray), .slice none 0 0, .slice none 0 0] 25 (0, 0))) := ⟨h2_⟩
  have n3_ : Aside0 (w11.heap[gb311]? = some (.cells #[.int .i64 0, .int .i64 0, .string (⟨#[]⟩ : ByteArray), .slice none 0 0, .slice none 0 0] 25 (0, 0))) := ⟨h3_⟩
  have n4_ : Aside0 (w.heap.size ≤ gb311) := ⟨h4_⟩
  have n5_ : Aside0 (w.heap.size ≤ gb311) := ⟨h5_⟩
  have n6_ : Aside0 (gb303 ≠ gb311) := ⟨h6_⟩
  have n7_ : Aside0 (gb311 ≠ gb303) := ⟨h7_⟩
  have n8_ : Aside0 (gb304 ≠ gb311) := ⟨h8_⟩
  have n9_ : Aside0 (gb311 ≠ gb304) := ⟨h9_⟩
  have n10_ : Aside0 (Below w.heap.size w w11) := ⟨h10_⟩
  clear BK303 BK304 HB h0_ h1_ h2_ h3_ h4_ h5_ h6_ h7_ h8_ h9_ h10_; have HO310 := n0_; have BK303 := n1_; have BK304 := n2_; have BK311 := n3_; have GW311 := n4_; have GE311 := n5_; have NB303_311 := n6_; have NB311_303 := n7_; have NB304_311 := n8_; have NB311_304 := n9_; have HB := n10_; clear n0_ n1_ n2_ n3_ n4_ n5_ n6_ n7_ n8_ n9_ n10_
  have hHeld : w11.cell? ⟨gb303, 0, none⟩ = some (.int .i64 a0_0) ∧ w11.cell? ⟨gb303, 1, none⟩ = some (.int .i64 a0_1) ∧ w11.cell? ⟨gb303, 2, none⟩ = some (.string a0_2) ∧ w11.cell? ⟨gb303, 3, none⟩ = some (.slice A0_3 l0_3.length c0_3) ∧ w11.cell? ⟨gb303, 4, none⟩ = some (.slice A0_4 l0_4.length c0_4) := hS_
  obtain ⟨Ao12, co12, eo12⟩ := Kd.R_slice HO310.out
  (first | subst eo12 | (injection eo12 with f1_ f2_ f3_; have f4_ := f1_.symm; have f5_ := f3_.symm; clear f1_ f2_ f3_; subst f4_; subst f5_))
  refine norm_ (a' := ?_) ?_ ?_
  rotate_left
  ·simp only [putAll, Act.put, sA, sB, sC]
   rfl
  refine one_ (i := 12) (N := none) #[true, true, true, true, true, true, true, true, true, true, true, true, true] rfl rfl (one_of HT_.out (by kernel_rfl)) (by decide) (fun K hK => ?_)
  have hs13 : w11.cell? ⟨gb311, 0, none⟩ = some (.int .i64 0) := (blk_cell BK311.out 0).trans rfl
  have hfs13 := blk_frozen BK311.out 0
  have hns13_0 := NB303_311.out
  have hns13_1 := NB304_311.out
  have hms13_0 := NB311_303.out
  have hms13_1 := NB311_304.out
  have hs14 : w11.cell? ⟨gb311, 1, none⟩ = some (.int .i64 0) := (blk_cell BK311.out 1).trans rfl
  have hfs14 := blk_frozen BK311.out 1
  have hns14_0 := NB303_311.out
  have hns14_1 := NB304_311.out
  have hms14_0 := NB311_303.out
  have hms14_1 := NB311_304.out
  have hs15 : w11.cell? ⟨gb311, 2, none⟩ = some (.string (⟨#[]⟩ : ByteArray)) := (blk_cell BK311.out 2).trans rfl
  have hfs15 := blk_frozen BK311.out 2
  have hns15_0 := NB303_311.out
  have hns15_1 := NB304_311.out
  have hms15_0 := NB311_303.out
  have hms15_1 := NB311_304.out
  have hs16 : w11.cell? ⟨gb311, 3, none⟩ = some (.slice none 0 0) := (blk_cell BK311.out 3).trans rfl
  have hfs16 := blk_frozen BK311.out 3
  have hns16_0 := NB303_311.out
  have hns16_1 := NB304_311.out
  have hms16_0 := NB311_303.out
  have hms16_1 := NB311_304.out
  have hs17 : w11.cell? ⟨gb311, 4, none⟩ = some (.slice none 0 0) := (blk_cell BK311.out 4).trans rfl
  have hfs17 := blk_frozen BK311.out 4
  have hns17_0 := NB303_311.out
  have hns17_1 := NB304_311.out
  have hms17_0 := NB311_303.out
  have hms17_1 := NB311_304.out
  refine skip_ (w1 := ?_) (by rfl) rfl ?_ ?_
  rotate_left
  ·go_simp; rfl
  refine hK.out _ _ ⟨((cell_far (p := ⟨gb311, _, none⟩) NB303_311.out _).trans (((cell_far (p := ⟨gb311, _, none⟩) NB303_311.out _).trans (((cell_far (p := ⟨gb311, _, none⟩) NB303_311.out _).trans (((cell_far (p := ⟨gb311, _, none⟩) NB303_311.out _).trans (((cell_far (p := ⟨gb311, _, none⟩) NB303_311.out _).trans (hHeld.1)))))))))), ((cell_far (p := ⟨gb311, _, none⟩) NB303_311.out _).trans (((cell_far (p := ⟨gb311, _, none⟩) NB303_311.out _).trans (((cell_far (p := ⟨gb311, _, none⟩) NB303_311.out _).trans (((cell_far (p := ⟨gb311, _, none⟩) NB303_311.out _).trans (((cell_far (p := ⟨gb311, _, none⟩) NB303_311.out _).trans (hHeld.2.1)))))))))), ((cell_far (p := ⟨gb311, _, none⟩) NB303_311.out _).trans (((cell_far (p := ⟨gb311, _, none⟩) NB303_311.out _).trans (((cell_far (p := ⟨gb311, _, none⟩) NB303_311.out _).trans (((cell_far (p := ⟨gb311, _, none⟩) NB303_311.out _).trans (((cell_far (p := ⟨gb311, _, none⟩) NB303_311.out _).trans (hHeld.2.2.1)))))))))), ((cell_far (p := ⟨gb311, _, none⟩) NB303_311.out _).trans (((cell_far (p := ⟨gb311, _, none⟩) NB303_311.out _).trans (((cell_far (p := ⟨gb311, _, none⟩) NB303_311.out _).trans (((cell_far (p := ⟨gb311, _, none⟩) NB303_311.out _).trans (((cell_far (p := ⟨gb311, _, none⟩) NB303_311.out _).trans (hHeld.2.2.2.1)))))))))), ((cell_far (p := ⟨gb311, _, none⟩) NB303_311.out _).trans (((cell_far (p := ⟨gb311, _, none⟩) NB303_311.out _).trans (((cell_far (p := ⟨gb311, _, none⟩) NB303_311.out _).trans (((cell_far (p := ⟨gb311, _, none⟩) NB303_311.out _).trans (((cell_far (p := ⟨gb311, _, none⟩) NB303_311.out _).trans (hHeld.2.2.2.2))))))))))⟩ (fun hHeld => ?_)
  clear hK K
  refine done_ (done_of HT_.out (by kernel_rfl)) ?_
  try go_wp2
  go_loopg [4] k (fun kq v4 w' => ∃ (x4_1 : Int) (x312004_1 : List (S25)) (u312004 : Value), v4 = .int .i64 x4_1 ∧ Aside0 (laws_from.l0 kq x4_1 a0_0 a0_1 a0_2 l0_3 l0_4 a0_0 a0_1 a0_2 y308 x312004_1 = some (r1, r2, r3, r4, r5)) ∧ Aside0 (kq ≤ k) ∧ Aside0 (Kd.R Kd.string 9 w' w.heap.size (fun _ => True) (.slice Ao12 y308.length co12) y308) ∧ Aside0 (Kd.R k25 25 w' w.heap.size (fun k_ => some k_ ≠ ((.slice Ao12 y308.length co12) : Value).ownBlock ∧ k_ ≠ gb304 ∧ k_ ≠ gb311) u312004 x312004_1) ∧ Aside0 (w'.heap[gb303]? = some (.cells #[.int .i64 a0_0, .int .i64 a0_1, .string a0_2, (.slice A0_3 l0_3.length c0_3), (.slice A0_4 l0_4.length c0_4)] 36 (0, 0))) ∧ Aside0 (w'.heap[gb304]? = some (.cells #[.int .i64 0, .int .i64 0, .string (⟨#[]⟩ : ByteArray), (.slice none 0 0), (.slice none 0 0)] 25 (0, 0))) ∧ Aside0 (w'.heap[gb311]? = some (.cells #[.int .i64 a0_0, .int .i64 a0_1, .string a0_2, (.slice Ao12 y308.length co12), u312004] 25 (0, 0))) ∧ Aside0 (Below w.heap.size w w'))
  case atStart => exact ⟨(0), (([] : List (S25))), (.slice none 0 0), (by first | rfl | (simp; done) | (simp [*]; done)), H', ⟨Nat.le_refl _⟩, ⟨by (with_reducible repeat (first | apply Kd.R_alloc | apply Kd.R_drewN | apply Kd.R_drew)); exact Kd.R_mono (Kd.R_far (p := ⟨gb311, 4, none⟩) (Kd.R_far (p := ⟨gb311, 3, none⟩) (Kd.R_far (p := ⟨gb311, 2, none⟩) (Kd.R_far (p := ⟨gb311, 1, none⟩) (Kd.R_far (p := ⟨gb311, 0, none⟩) (Kd.R_types HO310.out BK311.out (by decide)) (fun _ hk => hk.2) (.int .i64 a0_0)) (fun _ hk => hk.2) (.int .i64 a0_1)) (fun _ hk => hk.2) (.string a0_2)) (fun _ hk => hk.2) (.slice Ao12 y308.length co12)) (fun _ hk => hk.2) (.slice none 0 0)) (fun _ hk => trivial)⟩, ⟨by first | exact Kd.R_nil _ _ _ _ _ | exact Kd.N_nil _ _ _ _ _ | exact Kd.V_nil _ _ _ _ _ | exact Kd.Q_nil _ _ _ _ _ | exact Kd.S_nil _ _ _ _ _⟩, ⟨by (with_reducible repeat (first | refine blk_drewN ?_ _ | refine blk_drew ?_ | refine blk_alloc ?_ _)); refine blk_far ?_ NB303_311.out _; (with_reducible repeat (first | refine blk_drewN ?_ _ | refine blk_drew ?_ | refine blk_alloc ?_ _)); refine blk_far ?_ NB303_311.out _; (with_reducible repeat (first | refine blk_drewN ?_ _ | refine blk_drew ?_ | refine blk_alloc ?_ _)); refine blk_far ?_ NB303_311.out _; (with_reducible repeat (first | refine blk_drewN ?_ _ | refine blk_drew ?_ | refine blk_alloc ?_ _)); refine blk_far ?_ NB303_311.out _; (with_reducible repeat (first | refine blk_drewN ?_ _ | refine blk_drew ?_ | refine blk_alloc ?_ _)); refine blk_far ?_ NB303_311.out _; (with_reducible repeat (first | refine blk_drewN ?_ _ | refine blk_drew ?_ | refine blk_alloc ?_ _)); exact BK303.out⟩, ⟨by (with_reducible repeat (first | refine blk_drewN ?_ _ | refine blk_drew ?_ | refine blk_alloc ?_ _)); refine blk_far ?_ NB304_311.out _; (with_reducible repeat (first | refine blk_drewN ?_ _ | refine blk_drew ?_ | refine blk_alloc ?_ _)); refine blk_far ?_ NB304_311.out _; (with_reducible repeat (first | refine blk_drewN ?_ _ | refine blk_drew ?_ | refine blk_alloc ?_ _)); refine blk_far ?_ NB304_311.out _; (with_reducible repeat (first | refine blk_drewN ?_ _ | refine blk_drew ?_ | refine blk_alloc ?_ _)); refine blk_far ?_ NB304_311.out _; (with_reducible repeat (first | refine blk_drewN ?_ _ | refine blk_drew ?_ | refine blk_alloc ?_ _)); refine blk_far ?_ NB304_311.out _; (with_reducible repeat (first | refine blk_drewN ?_ _ | refine blk_drew ?_ | refine blk_alloc ?_ _)); exact BK304.out⟩, ⟨by (with_reducible repeat (first | refine blk_drewN ?_ _ | refine blk_drew ?_ | refine blk_alloc ?_ _)); refine blk_put (cs := #[.int .i64 a0_0, .int .i64 a0_1, .string a0_2, .slice Ao12 y308.length co12, .slice none 0 0]) ?_ 4 _ rfl; (with_reducible repeat (first | refine blk_drewN ?_ _ | refine blk_drew ?_ | refine blk_alloc ?_ _)); refine blk_put (cs := #[.int .i64 a0_0, .int .i64 a0_1, .string a0_2, .slice none 0 0, .slice none 0 0]) ?_ 3 _ rfl; (with_reducible repeat (first | refine blk_drewN ?_ _ | refine blk_drew ?_ | refine blk_alloc ?_ _)); refine blk_put (cs := #[.int .i64 a0_0, .int .i64 a0_1, .string (⟨#[]⟩ : ByteArray), .slice none 0 0, .slice none 0 0]) ?_ 2 _ rfl; (with_reducible repeat (first | refine blk_drewN ?_ _ | refine blk_drew ?_ | refine blk_alloc ?_ _)); refine blk_put (cs := #[.int .i64 a0_0, .int .i64 0, .string (⟨#[]⟩ : ByteArray), .slice none 0 0, .slice none 0 0]) ?_ 1 _ rfl; (with_reducible repeat (first | refine blk_drewN ?_ _ | refine blk_drew ?_ | refine blk_alloc ?_ _)); refine blk_put (cs := #[.int .i64 0, .int .i64 0, .string (⟨#[]⟩ : ByteArray), .slice none 0 0, .slice none 0 0]) ?_ 0 _ rfl; (with_reducible repeat (first | refine blk_drewN ?_ _ | refine blk_drew ?_ | refine blk_alloc ?_ _)); exact BK311.out⟩, ⟨by repeat (first | (with_reducible first | exact HB.out | apply below_alloc | apply pw_below_drewN | apply below_drew1 | refine below_set ?_ GE303.out | refine below_set ?_ GE304.out | refine below_set ?_ GE311.out) | exact HB.out)⟩⟩
  case round =>
   clear H'
   try clear c1
   try clear c2
   try clear p2
   obtain ⟨x4_1, x312004_1, u312004, rfl, HA, HK1, HO_312003, HO_312004, BK303, BK304, BK311, HB⟩ := hrel
   cases gk with
   | zero => exact absurd HA.out (by simp [laws_from.l0])
   | succ k1 =>
    have H := HA.out
    clear HA
    simp only [laws_from.l0] at H
    by_cases c18 : x4_1 < (l0_4.length : Int)
    ·rw [if_pos c18] at H
     have c18b0 : decide (x4_1 < (l0_4.length : Int)) = true := decide_eq_true c18
     clear c18
     by_cases c19 : 0 ≤ x4_1
     ·rw [if_pos c19] at H
      have c19b0 : decide (0 ≤ x4_1) = true := decide_eq_true c19
      clear c19
      replace H := Option.bind_eq_some_iff.mp H
      obtain ⟨⟨t313, t314, t315, t316, t319⟩, A200, H⟩ := H
      replace H : (if x312004_1.length < 1759218604441 then (laws_from.l0 k1 (wrap64 (x4_1 + 1)) a0_0 a0_1 a0_2 l0_3 l0_4 a0_0 a0_1 a0_2 y308 (x312004_1 ++ [(⟨t313, t314, t315, t316, t319⟩ : S25)])) else (none)) = some (r1, r2, r3, r4, r5) := H
      have A20 := aM A200
      clear A200
      by_cases c21 : x312004_1.length < 1759218604441
      ·rw [if_pos c21] at H
       have LMc21 := aM c21
       clear c21
       obtain ⟨y322, hy322⟩ : ∃ y_ : List (S25), y_ = (x312004_1 ++ [(⟨t313, t314, t315, t316, t319⟩ : S25)]) := ⟨_, rfl⟩
       replace H : (laws_from.l0 k1 (wrap64 (x4_1 + 1)) a0_0 a0_1 a0_2 l0_3 l0_4 a0_0 a0_1 a0_2 y308 y322) = some (r1, r2, r3, r4, r5) := by first | (rw [hy322]; with_reducible exact H) | (have H2_ := (Option.bind_some _ _).symm.trans H; rw [hy322]; with_reducible exact H2_) | (have H2_ := (Option.bind_some _ _).symm.trans H; with_reducible exact H2_) | with_reducible exact H | (rw [hy322]; exact H) | exact H
       have Ny322 := aM hy322
       clear hy322
       have H' := aM H
       clear H
       have hnb22 := NB303_304.out
       have hnc22 := NB304_303.out
       have hnb23 := NB303_311.out
       have hnc23 := NB311_303.out
       have hcz24_0 : wr.cell? ⟨gb303, 0, none⟩ = some (.int .i64 a0_0) := (blk_cell BK303.out 0).trans rfl
       have hcz24_1 : wr.cell? ⟨gb303, 1, none⟩ = some (.int .i64 a0_1) := (blk_cell BK303.out 1).trans rfl
       have hcz24_2 : wr.cell? ⟨gb303, 2, none⟩ = some (.string a0_2) := (blk_cell BK303.out 2).trans rfl
       have hcz24_3 : wr.cell? ⟨gb303, 3, none⟩ = some (.slice A0_3 l0_3.length c0_3) := (blk_cell BK303.out 3).trans rfl
       have hcz24_4 : wr.cell? ⟨gb303, 4, none⟩ = some (.slice A0_4 l0_4.length c0_4) := (blk_cell BK303.out 4).trans rfl
       have hfz24_0 := blk_frozen BK303.out 0
       have hfz24_1 := blk_frozen BK303.out 1
       have hfz24_2 := blk_frozen BK303.out 2
       have hfz24_3 := blk_frozen BK303.out 3
       have hfz24_4 := blk_frozen BK303.out 4
       try go_wp2
       have n0_ := aM (Kd.R_drew HO_312003.out)
       have n1_ := aM (Kd.R_drew HO_312004.out)
       have n2_ := aM (blk_drew BK303.out)
       have n3_ := aM (blk_drew BK304.out)
       have n4_ := aM (blk_drew BK311.out)
       have n5_ := aM (below_drew1 HB.out)
       clear HO_312003 HO_312004 BK303 BK304 BK311 HB; have HO_312003 := n0_; have HO_312004 := n1_; have BK303 := n2_; have BK304 := n3_; have BK311 := n4_; have HB := n5_; clear n0_ n1_ n2_ n3_ n4_ n5_
       have p312 : 0 ≤ (x4_1 : Int) := of_decide_eq_true (by first | (with_reducible assumption) | assumption)
       have q312 : x4_1 < (l0_4.length : Int) := of_decide_eq_true (by first | (with_reducible assumption) | assumption)
       obtain ⟨ad312, A312_3, c312_3, A312_4, c312_4, e312, hx312_0, hx312_1, hx312_2, hx312_3, hx312_4, hl312_3, hi312_3, hl312_4, hi312_4⟩ := at_T36 HR0_4.out x4_1 p312 q312
       have hw312_4 := hx312_4
       have hw312_3 := hx312_3
       have hw312_2 := hx312_2
       have hw312_1 := hx312_1
       have hw312_0 := hx312_0
       cases e312
       replace hx312_0 := (HB.out.cell (World.block_lt_of_cell? w _ hx312_0)).trans hx312_0
       replace hx312_1 := (HB.out.cell (World.block_lt_of_cell? w _ hx312_1)).trans hx312_1
       replace hx312_2 := (HB.out.cell (World.block_lt_of_cell? w _ hx312_2)).trans hx312_2
       replace hx312_3 := (HB.out.cell (World.block_lt_of_cell? w _ hx312_3)).trans hx312_3
       replace hx312_4 := (HB.out.cell (World.block_lt_of_cell? w _ hx312_4)).trans hx312_4
       have HR312_3 := aM hi312_3
       have HC312_3 := aM hl312_3
       clear hi312_3 hl312_3
       have HR312_4 := aM hi312_4
       have HC312_4 := aM hl312_4
       clear hi312_4 hl312_4
       replace p312 := eq_true p312
       replace q312 := eq_true q312
       refine start_ (n := 12) (S := fun w' => w'.cell? ⟨gb311, 0, none⟩ = some (.int .i64 a0_0) ∧ w'.cell? ⟨gb311, 1, none⟩ = some (.int .i64 a0_1) ∧ w'.cell? ⟨gb311, 2, none⟩ = some (.string a0_2) ∧ w'.cell? ⟨gb311, 3, none⟩ = some (.slice Ao12 y308.length co12) ∧ w'.cell? ⟨gb311, 4, none⟩ = some (u312004) ∧ w'.cell? ⟨gb303, 0, none⟩ = some (.int .i64 a0_0) ∧ w'.cell? ⟨gb303, 1, none⟩ = some (.int .i64 a0_1) ∧ w'.cell? ⟨gb303, 2, none⟩ = some (.string a0_2) ∧ w'.cell? ⟨gb303, 3, none⟩ = some (.slice A0_3 l0_3.length c0_3) ∧ w'.cell? ⟨gb303, 4, none⟩ = some (.slice (some ad312) l0_4.length c0_4) ∧ w'.cell? (ad312.add ((x4_1).toNat * 5)) = some (.int .i64 ((rd_T36 l0_4 x4_1).f0)) ∧ w'.cell? ⟨(ad312.add ((x4_1).toNat * 5)).block, (ad312.add ((x4_1).toNat * 5)).off + 1, none⟩ = some (.int .i64 ((rd_T36 l0_4 x4_1).f1)) ∧ w'.cell? ⟨(ad312.add ((x4_1).toNat * 5)).block, (ad312.add ((x4_1).toNat * 5)).off + 2, none⟩ = some (.string ((rd_T36 l0_4 x4_1).f2)) ∧ w'.cell? ⟨(ad312.add ((x4_1).toNat * 5)).block, (ad312.add ((x4_1).toNat * 5)).off + 3, none⟩ = some (.slice A312_3 ((rd_T36 l0_4 x4_1).f3).length c312_3) ∧ w'.cell? ⟨(ad312.add ((x4_1).toNat * 5)).block, (ad312.add ((x4_1).toNat * 5)).off + 4, none⟩ = some (.slice A312_4 ((rd_T36 l0_4 x4_1).f4).length c312_4)) (ds := [11]) #[false, false, false, false, false, false, false, false, false, false, false, false] (by kernel_rfl) rfl rfl ⟨(blk_cell BK311.out 0).trans rfl, (blk_cell BK311.out 1).trans rfl, (blk_cell BK311.out 2).trans rfl, (blk_cell BK311.out 3).trans rfl, (blk_cell BK311.out 4).trans rfl, (blk_cell BK303.out 0).trans rfl, (blk_cell BK303.out 1).trans rfl, (blk_cell BK303.out 2).trans rfl, (blk_cell BK303.out 3).trans rfl, (blk_cell BK303.out 4).trans rfl, ((HB.out.cell (World.block_lt_of_cell? w _ hw312_0)).trans hw312_0), ((HB.out.cell (World.block_lt_of_cell? w _ hw312_1)).trans hw312_1), ((HB.out.cell (World.block_lt_of_cell? w _ hw312_2)).trans hw312_2), ((HB.out.cell (World.block_lt_of_cell? w _ hw312_3)).trans hw312_3), ((HB.out.cell (World.block_lt_of_cell? w _ hw312_4)).trans hw312_4)⟩ (fun hHeld => ?_); refine with_tabW laws_from.tab5 laws_from.bits5 (fun HT_ HW_ => ?_)
       generalize wr.drew = w25 at HO_312003 HO_312004 BK303 BK304 BK311 HB HR312_3 HR312_4 hx312_0 hx312_1 hx312_2 hx312_3 hx312_4 hHeld ⊢
       refine pure_ (i := 0) (N := some 23) (v := ?_) (a' := ?_) #[true, false, false, false, false, false, false, false, false, false, false, false] rfl rfl (any_of HT_.out (by kernel_rfl)) (fun _ _ _ h => h) (Or.inl ⟨by rfl, ?_⟩) ?_ ?_
       rotate_left
       ·intro w'; go_simp; with_reducible rfl
       rotate_left
       ·simp only [Act.put, sA, sB, sC, i64_w, i32_w]; rfl
       refine pure_ (i := 2) (N := some 25) (v := ?_) (a' := ?_) #[true, false, true, false, false, false, false, false, false, false, false, false] rfl rfl (any_of HT_.out (by kernel_rfl)) (fun _ _ _ h => h) (Or.inl ⟨by rfl, ?_⟩) ?_ ?_
       rotate_left
       ·intro w'; go_simp; with_reducible rfl
       rotate_left
       ·simp only [Act.put, sA, sB, sC, i64_w, i32_w]; rfl
       refine pure_ (i := 4) (N := some 27) (v := ?_) (a' := ?_) #[true, false, true, false, true, false, false, false, false, false, false, false] rfl rfl (any_of HT_.out (by kernel_rfl)) (fun _ _ _ h => h) (Or.inl ⟨by rfl, ?_⟩) ?_ ?_
       rotate_left
       ·intro w'; go_simp; with_reducible rfl
       rotate_left
       ·simp only [Act.put, sA, sB, sC, i64_w, i32_w]; rfl
       refine take_ (i := 1) (N := some 24) (v := ?_) (a' := ?_) #[true, true, true, false, true, false, false, false, false, false, false, false] rfl rfl (take_ofW HT_.out HW_.out (by kernel_rfl)) (fun _ _ _ h => h) (Or.inl ⟨by rfl, ?_⟩) hHeld ?_ ?_
       rotate_left
       ·rintro w' ⟨s0, s1, s2, s3, s4, s5, s6, s7, s8, s9, s10, s11, s12, s13, s14⟩
        go_simp; with_reducible rfl
       rotate_left
       ·simp only [Act.put, sA, sB, sC, i64_w, i32_w]; rfl
       refine take_ (i := 3) (N := some 26) (v := ?_) (a' := ?_) #[true, true, true, true, true, false, false, false, false, false, false, false] rfl rfl (take_ofW HT_.out HW_.out (by kernel_rfl)) (fun _ _ _ h => h) (Or.inl ⟨by rfl, ?_⟩) hHeld ?_ ?_
       rotate_left
       ·rintro w' ⟨s0, s1, s2, s3, s4, s5, s6, s7, s8, s9, s10, s11, s12, s13, s14⟩
        go_simp; with_reducible rfl
       rotate_left
       ·simp only [Act.put, sA, sB, sC, i64_w, i32_w]; rfl
       refine pure_ (i := 5) (N := some 28) (v := ?_) (a' := ?_) #[true, true, true, true, true, true, false, false, false, false, false, false] rfl rfl (any_of HT_.out (by kernel_rfl)) (fun _ _ _ h => h) (Or.inl ⟨by rfl, ?_⟩) ?_ ?_
       rotate_left
       ·intro w'; go_simp; with_reducible rfl
       rotate_left
       ·simp only [Act.put, sA, sB, sC, i64_w, i32_w]; rfl
       refine take_ (i := 6) (N := some 29) (v := ?_) (a' := ?_) #[true, true, true, true, true, true, true, false, false, false, false, false] rfl rfl (take_ofW HT_.out HW_.out (by kernel_rfl)) (fun _ _ _ h => h) (Or.inl ⟨by rfl, ?_⟩) hHeld ?_ ?_
       rotate_left
       ·rintro w' ⟨s0, s1, s2, s3, s4, s5, s6, s7, s8, s9, s10, s11, s12, s13, s14⟩
        go_simp; with_reducible rfl
       rotate_left
       ·simp only [Act.put, sA, sB, sC, i64_w, i32_w]; rfl
       refine one_ (i := 7) (N := some 30) #[true, true, true, true, true, true, true, true, false, false, false, false] rfl rfl (one_of HT_.out (by kernel_rfl)) (by decide) (fun K hK => ?_)
       refine goes_ Try.func19 (by kernel_rfl) rfl #[.agg #[.int .i64 ((rd_T36 l0_4 x4_1).f0), .int .i64 ((rd_T36 l0_4 x4_1).f1), .string ((rd_T36 l0_4 x4_1).f2), .slice A312_3 ((rd_T36 l0_4 x4_1).f3).length c312_3, .slice A312_4 ((rd_T36 l0_4 x4_1).f4).length c312_4]] (by rfl) rfl rfl (by (try simp only [List.map_toArray, List.map_cons, List.map_nil]); first | done | rfl | (simp only [List.length_drop, List.length_take]; rfl)) ?_
       with_reducible refine (ih k1 (by have := HK1.out; omega) ((rd_T36 l0_4 x4_1).f0) ((rd_T36 l0_4 x4_1).f1) ((rd_T36 l0_4 x4_1).f2) _ _ ((rd_T36 l0_4 x4_1).f3) _ _ ((rd_T36 l0_4 x4_1).f4) t313 t314 t315 t316 t319 _ ?side1 ?side2 ?side3 ?side4 A20.out).mono ?_
       (case side1 => repeat (first | exact (Kd.C_below HR312_3.out HB.out) | (with_reducible refine Kd.C_alloc ?_ _) | (with_reducible refine Kd.C_drewN ?_ _) | (with_reducible refine Kd.C_drew ?_)))
       (case side2 => exact HC312_3.out)
       (case side3 => repeat (first | exact (Kd.C_below HR312_4.out HB.out) | (with_reducible refine Kd.C_alloc ?_ _) | (with_reducible refine Kd.C_drewN ?_ _) | (with_reducible refine Kd.C_drew ?_)))
       (case side4 => exact HC312_4.out)
       rintro e w26 ⟨v317, v320, rfl, ho0, ho1, hb⟩
       refine ⟨_, rfl, ?_⟩
       have n0_ := aM (Kd.R_elder' (by (with_reducible repeat (first | apply Kd.R_alloc | apply Kd.R_drewN | apply Kd.R_drew)); exact HO_312003.out) (Kd.R_base ho0) hb)
       have n1_ := aM (Kd.R_mono (Kd.R_told (Kd.R_told (Kd.R_old (by (with_reducible repeat (first | apply Kd.R_alloc | apply Kd.R_drewN | apply Kd.R_drew)); exact HO_312004.out) hb) (Kd.R_base ho0)) (Kd.R_base ho1)) (fun _ h_ => h_.1))
       have n2_ := aM (Kd.R_lower (Kd.R_new' ho0 (Kd.R_lt (by (with_reducible repeat (first | apply Kd.R_alloc | apply Kd.R_drewN | apply Kd.R_drew)); exact HO_312003.out))) (below_size (by repeat (first | (with_reducible first | exact HB.out | apply below_alloc | apply pw_below_drewN | apply below_drew1 | refine below_set ?_ GE303.out | refine below_set ?_ GE304.out | refine below_set ?_ GE311.out) | exact HB.out))))
       have n3_ := aM (Kd.R_lower (Kd.R_newB (Kd.R_newB (Kd.R_new' (Kd.R_new' ho1 (Kd.R_lt (by (with_reducible repeat (first | apply Kd.R_alloc | apply Kd.R_drewN | apply Kd.R_drew)); exact HO_312003.out))) (Kd.R_lt (by (with_reducible repeat (first | apply Kd.R_alloc | apply Kd.R_drewN | apply Kd.R_drew)); exact HO_312004.out))) (g := gb304) (o := .cells #[.int .i64 0, .int .i64 0, .string (⟨#[]⟩ : ByteArray), .slice none 0 0, .slice none 0 0] 25 (0, 0)) (by (with_reducible repeat (first | refine blk_drewN ?_ _ | refine blk_drew ?_ | refine blk_alloc ?_ _)); exact BK304.out)) (g := gb311) (o := .cells #[.int .i64 a0_0, .int .i64 a0_1, .string a0_2, .slice Ao12 y308.length co12, u312004] 25 (0, 0)) (by (with_reducible repeat (first | refine blk_drewN ?_ _ | refine blk_drew ?_ | refine blk_alloc ?_ _)); exact BK311.out)) (below_size (by repeat (first | (with_reducible first | exact HB.out | apply below_alloc | apply pw_below_drewN | apply below_drew1 | refine below_set ?_ GE303.out | refine below_set ?_ GE304.out | refine below_set ?_ GE311.out) | exact HB.out))))
       have n4_ := aM (blk_below (g := gb303) (o := .cells #[.int .i64 a0_0, .int .i64 a0_1, .string a0_2, .slice A0_3 l0_3.length c0_3, .slice (some ad312) l0_4.length c0_4] 36 (0, 0)) (by (with_reducible repeat (first | refine blk_drewN ?_ _ | refine blk_drew ?_ | refine blk_alloc ?_ _)); exact BK303.out) hb)
       have n5_ := aM (blk_below (g := gb304) (o := .cells #[.int .i64 0, .int .i64 0, .string (⟨#[]⟩ : ByteArray), .slice none 0 0, .slice none 0 0] 25 (0, 0)) (by (with_reducible repeat (first | refine blk_drewN ?_ _ | refine blk_drew ?_ | refine blk_alloc ?_ _)); exact BK304.out) hb)
       have n6_ := aM (blk_below (g := gb311) (o := .cells #[.int .i64 a0_0, .int .i64 a0_1, .string a0_2, .slice Ao12 y308.length co12, u312004] 25 (0, 0)) (by (with_reducible repeat (first | refine blk_drewN ?_ _ | refine blk_drew ?_ | refine blk_alloc ?_ _)); exact BK311.out) hb)
       have n7_ := aM (below_step (by repeat (first | (with_reducible first | exact HB.out | apply below_alloc | apply pw_below_drewN | apply below_drew1 | refine below_set ?_ GE303.out | refine below_set ?_ GE304.out | refine below_set ?_ GE311.out) | exact HB.out)) hb)
       clear HO_312003 HO_312004 BK303 BK304 BK311 HB; have HO_312003 := n0_; have HO_312004 := n1_; have HO318 := n2_; have HO321 := n3_; have BK303 := n4_; have BK304 := n5_; have BK311 := n6_; have HB := n7_; clear n0_ n1_ n2_ n3_ n4_ n5_ n6_ n7_
       (try clear hb)
       (try clear hb2)
       (try clear hk)
       (try clear hi)
       (try clear ho0)
       (try clear ho1)
       obtain ⟨Ao28, co28, eo28⟩ := Kd.R_slice HO318.out
       (first | subst eo28 | (injection eo28 with f1_ f2_ f3_; have f4_ := f1_.symm; have f5_ := f3_.symm; clear f1_ f2_ f3_; subst f4_; subst f5_))
       obtain ⟨Ao29, co29, eo29⟩ := Kd.R_slice HO321.out
       (first | subst eo29 | (injection eo29 with f1_ f2_ f3_; have f4_ := f1_.symm; have f5_ := f3_.symm; clear f1_ f2_ f3_; subst f4_; subst f5_))
       refine hK.out _ _ ⟨(blk_cell BK311.out 0).trans rfl, (blk_cell BK311.out 1).trans rfl, (blk_cell BK311.out 2).trans rfl, (blk_cell BK311.out 3).trans rfl, (blk_cell BK311.out 4).trans rfl, (blk_cell BK303.out 0).trans rfl, (blk_cell BK303.out 1).trans rfl, (blk_cell BK303.out 2).trans rfl, (blk_cell BK303.out 3).trans rfl, (blk_cell BK303.out 4).trans rfl, ((HB.out.cell (World.block_lt_of_cell? w _ hw312_0)).trans hw312_0), ((HB.out.cell (World.block_lt_of_cell? w _ hw312_1)).trans hw312_1), ((HB.out.cell (World.block_lt_of_cell? w _ hw312_2)).trans hw312_2), ((HB.out.cell (World.block_lt_of_cell? w _ hw312_3)).trans hw312_3), ((HB.out.cell (World.block_lt_of_cell? w _ hw312_4)).trans hw312_4)⟩ (fun hHeld => ?_)
       clear hK K
       refine norm_ (a' := ?_) ?_ ?_
       rotate_left
       ·show Act.put _ (some 30) _ = _
        simp only [Act.put, sA, sB, sC, i64_w, i32_w]; rfl
       refine one_ (i := 8) (N := some 31) #[true, true, true, true, true, true, true, true, true, false, false, false] rfl rfl (one_of HT_.out (by kernel_rfl)) (by decide) (fun K hK => ?_)
       refine value_ (w1 := ?_) (v := ?_) (by rfl) rfl ?_ ?_
       rotate_left 2
       ·go_simp; constructor
        ·rfl
        ·rfl
       refine hK.out _ _ ⟨(blk_cell (blk_alloc BK311.out _) 0).trans rfl, (blk_cell (blk_alloc BK311.out _) 1).trans rfl, (blk_cell (blk_alloc BK311.out _) 2).trans rfl, (blk_cell (blk_alloc BK311.out _) 3).trans rfl, (blk_cell (blk_alloc BK311.out _) 4).trans rfl, (blk_cell (blk_alloc BK303.out _) 0).trans rfl, (blk_cell (blk_alloc BK303.out _) 1).trans rfl, (blk_cell (blk_alloc BK303.out _) 2).trans rfl, (blk_cell (blk_alloc BK303.out _) 3).trans rfl, (blk_cell (blk_alloc BK303.out _) 4).trans rfl, (World.cell?_alloc_lt _ _ _ (World.block_lt_of_cell? _ _ (((HB.out.cell (World.block_lt_of_cell? w _ hw312_0)).trans hw312_0)))).trans (((HB.out.cell (World.block_lt_of_cell? w _ hw312_0)).trans hw312_0)), (World.cell?_alloc_lt _ _ _ (World.block_lt_of_cell? _ _ (((HB.out.cell (World.block_lt_of_cell? w _ hw312_1)).trans hw312_1)))).trans (((HB.out.cell (World.block_lt_of_cell? w _ hw312_1)).trans hw312_1)), (World.cell?_alloc_lt _ _ _ (World.block_lt_of_cell? _ _ (((HB.out.cell (World.block_lt_of_cell? w _ hw312_2)).trans hw312_2)))).trans (((HB.out.cell (World.block_lt_of_cell? w _ hw312_2)).trans hw312_2)), (World.cell?_alloc_lt _ _ _ (World.block_lt_of_cell? _ _ (((HB.out.cell (World.block_lt_of_cell? w _ hw312_3)).trans hw312_3)))).trans (((HB.out.cell (World.block_lt_of_cell? w _ hw312_3)).trans hw312_3)), (World.cell?_alloc_lt _ _ _ (World.block_lt_of_cell? _ _ (((HB.out.cell (World.block_lt_of_cell? w _ hw312_4)).trans hw312_4)))).trans (((HB.out.cell (World.block_lt_of_cell? w _ hw312_4)).trans hw312_4))⟩ (fun hHeld => ?_)
       clear hK K
       refine norm_ (a' := ?_) ?_ ?_
       rotate_left
       ·show Act.put _ (some 31) _ = _
        simp only [Act.put, sA, sB, sC, i64_w, i32_w]; rfl
       refine one_ (i := 9) (N := some 32) #[true, true, true, true, true, true, true, true, true, true, false, false] rfl rfl (one_of HT_.out (by kernel_rfl)) (by decide) (fun K hK => ?_)
       refine Kd.R_append_step k25 (w0 := w) w.heap.size (by rfl) (.tmp 24) (.tmp 31) 23 25 (.agg #[(.int .i64 0), (.int .i64 0), (.string ⟨#[]⟩), (.slice none 0 0), (.slice none 0 0)]) 80 rfl Try.underlying23 info25 rfl (by decide) (by omega) u312004 x312004_1 (⟨t313, t314, t315, t316, t319⟩ : S25) [.int .i64 t313, .int .i64 t314, .string t315, .slice Ao28 t316.length co28, .slice Ao29 t319.length co29] (fun k_ => some k_ ≠ (.slice Ao12 y308.length co12 : Value).ownBlock ∧ k_ ≠ gb304 ∧ k_ ≠ gb311) (fun k_ => ((fun k_ => some k_ ≠ (.slice Ao12 y308.length co12 : Value).ownBlock ∧ k_ ≠ gb304 ∧ k_ ≠ gb311)) k_ ∧ some k_ ≠ (u312004 : Value).ownBlock) rfl rfl ?aP (fun _ hk => hk) ?aF ?aO ?aB ?aS ?aL ?_
       (case aP => exact k25_mkM _ _ _ (⟨t313, t314, t315, t316, t319⟩ : S25) (Kd.R_mono (Kd.R_types (Kd.R_types (Kd.R_apart' (HO318.out) (Kd.R_typed HO_312004.out) (by decide)) BK304.out (by decide)) BK311.out (by decide)) (fun k_ hk => ⟨⟨hk.1.1.1.2, ⟨hk.1.2, hk.2⟩⟩, hk.1.1.2⟩)) (Kd.R_mono (HO321.out) (fun k_ hk => ⟨⟨hk.1.1.1.2, ⟨hk.1.2, hk.2⟩⟩, hk.1.1.2⟩)))
       (case aB => exact (by repeat (first | (with_reducible first | exact HB.out | apply below_alloc | apply pw_below_drewN | apply below_drew1 | refine below_set ?_ GE303.out | refine below_set ?_ GE304.out | refine below_set ?_ GE311.out) | exact HB.out)))
       (case aF => exact (fun k_ hk => ⟨Kd.fresh' (Kd.R_lt (by (with_reducible repeat (first | apply Kd.R_alloc | apply Kd.R_drewN | apply Kd.R_drew)); exact HO_312003.out)) k_ hk, Kd.freshB (g := gb304) (o := .cells #[.int .i64 0, .int .i64 0, .string (⟨#[]⟩ : ByteArray), .slice none 0 0, .slice none 0 0] 25 (0, 0)) (by (with_reducible repeat (first | refine blk_drewN ?_ _ | refine blk_drew ?_ | refine blk_alloc ?_ _)); exact BK304.out) k_ hk, Kd.freshB (g := gb311) (o := .cells #[.int .i64 a0_0, .int .i64 a0_1, .string a0_2, .slice Ao12 y308.length co12, u312004] 25 (0, 0)) (by (with_reducible repeat (first | refine blk_drewN ?_ _ | refine blk_drew ?_ | refine blk_alloc ?_ _)); exact BK311.out) k_ hk⟩))
       (case aO => exact (by (with_reducible repeat (first | apply Kd.R_alloc | apply Kd.R_drewN | apply Kd.R_drew)); exact Kd.R_mono HO_312004.out (fun _ hk => ⟨hk.1.1.1, ⟨hk.1.1.2.1, hk.1.1.2.2⟩⟩)))
       (case aS => exact (below_size (by repeat (first | (with_reducible first | exact HB.out | apply below_alloc | apply pw_below_drewN | apply below_drew1 | refine below_set ?_ GE303.out | refine below_set ?_ GE304.out | refine below_set ?_ GE311.out) | exact HB.out))))
       (case aL => have := LMc21.out; omega)
       intro v323 w27 ho hb hg hat
       rw [← Ny322.out] at ho
       have n0_ := aM (Kd.R_over' (by (with_reducible repeat (first | apply Kd.R_alloc | apply Kd.R_drewN | apply Kd.R_drew)); exact HO_312003.out) (Kd.R_typed (by (with_reducible repeat (first | apply Kd.R_alloc | apply Kd.R_drewN | apply Kd.R_drew)); exact HO_312004.out)) (by decide) hg)
       have n1_ := aM (blk_grown (g := gb303) (o := .cells #[.int .i64 a0_0, .int .i64 a0_1, .string a0_2, .slice A0_3 l0_3.length c0_3, .slice (some ad312) l0_4.length c0_4] 36 (0, 0)) (by (with_reducible repeat (first | refine blk_drewN ?_ _ | refine blk_drew ?_ | refine blk_alloc ?_ _)); exact BK303.out) hg (Kd.R_ne HO_312004.out BK303.out (by decide)))
       have n2_ := aM (blk_grown (g := gb304) (o := .cells #[.int .i64 0, .int .i64 0, .string (⟨#[]⟩ : ByteArray), .slice none 0 0, .slice none 0 0] 25 (0, 0)) (by (with_reducible repeat (first | refine blk_drewN ?_ _ | refine blk_drew ?_ | refine blk_alloc ?_ _)); exact BK304.out) hg (Kd.R_away HO_312004.out (fun _ hk => hk.1.1.2.1)))
       have n3_ := aM (blk_grown (g := gb311) (o := .cells #[.int .i64 a0_0, .int .i64 a0_1, .string a0_2, .slice Ao12 y308.length co12, u312004] 25 (0, 0)) (by (with_reducible repeat (first | refine blk_drewN ?_ _ | refine blk_drew ?_ | refine blk_alloc ?_ _)); exact BK311.out) hg (Kd.R_away HO_312004.out (fun _ hk => hk.1.1.2.2)))
       have n4_ := aM (hb)
       have n5_ := aM (ho)
       clear HO_312003 BK303 BK304 BK311 HB HO_312004 HO318 HO321; have HO_312003 := n0_; have BK303 := n1_; have BK304 := n2_; have BK311 := n3_; have HB := n4_; have HO324 := n5_; clear n0_ n1_ n2_ n3_ n4_ n5_ ho hb hg hat
       obtain ⟨Ao30, co30, eo30⟩ := Kd.R_slice HO324.out
       (first | subst eo30 | (injection eo30 with f1_ f2_ f3_; have f4_ := f1_.symm; have f5_ := f3_.symm; clear f1_ f2_ f3_; subst f4_; subst f5_))
       refine hK.out _ _ ⟨(blk_cell BK311.out 0).trans rfl, (blk_cell BK311.out 1).trans rfl, (blk_cell BK311.out 2).trans rfl, (blk_cell BK311.out 3).trans rfl, (blk_cell BK311.out 4).trans rfl, (blk_cell BK303.out 0).trans rfl, (blk_cell BK303.out 1).trans rfl, (blk_cell BK303.out 2).trans rfl, (blk_cell BK303.out 3).trans rfl, (blk_cell BK303.out 4).trans rfl, ((HB.out.cell (World.block_lt_of_cell? w _ hw312_0)).trans hw312_0), ((HB.out.cell (World.block_lt_of_cell? w _ hw312_1)).trans hw312_1), ((HB.out.cell (World.block_lt_of_cell? w _ hw312_2)).trans hw312_2), ((HB.out.cell (World.block_lt_of_cell? w _ hw312_3)).trans hw312_3), ((HB.out.cell (World.block_lt_of_cell? w _ hw312_4)).trans hw312_4)⟩ (fun hHeld => ?_)
       clear hK K
       refine norm_ (a' := ?_) ?_ ?_
       rotate_left
       ·show Act.put _ (some 32) _ = _
        simp only [Act.put, sA, sB, sC, i64_w, i32_w]; rfl
       refine pure_ (i := 10) (N := some 33) (v := ?_) (a' := ?_) #[true, true, true, true, true, true, true, true, true, true, true, false] rfl rfl (any_of HT_.out (by kernel_rfl)) (fun _ _ _ h => h) (Or.inl ⟨by rfl, ?_⟩) ?_ ?_
       rotate_left
       ·intro w'; go_simp; with_reducible rfl
       rotate_left
       ·simp only [Act.put, sA, sB, sC, i64_w, i32_w]; rfl
       refine last_ (i := 11) (N := none) #[true, true, true, true, true, true, true, true, true, true, true, true] rfl rfl (one_of HT_.out (by kernel_rfl)) (by decide) (fun K hK => ?_)
       have hs31 : w27.cell? ⟨gb311, 4, none⟩ = some (u312004) := (blk_cell BK311.out 4).trans rfl
       have hfs31 := blk_frozen BK311.out 4
       have hns31_0 := NB303_311.out
       have hns31_1 := NB304_311.out
       have hms31_0 := NB311_303.out
       have hms31_1 := NB311_304.out
       refine skip_ (w1 := ?_) (by rfl) rfl ?_ ?_
       rotate_left
       ·go_simp; rfl
       refine hK.out _ _ ?_
       clear hK K
       refine done_ (done_of HT_.out (by kernel_rfl)) ?_
       try go_wp2
       go_roundg k1
       case measure => have := HK1.out; omega
       case rel => exact ⟨(wrap64 (x4_1 + 1)), (y322), (.slice Ao30 y322.length co30), (by first | rfl | (simp; done) | (simp [*]; done)), H', ⟨by have := HK1.out; omega⟩, ⟨by (with_reducible repeat (first | apply Kd.R_alloc | apply Kd.R_drewN | apply Kd.R_drew)); exact Kd.R_mono (Kd.R_far (p := ⟨gb311, 4, none⟩) (Kd.R_types HO_312003.out BK311.out (by decide)) (fun _ hk => hk.2) (.slice Ao30 y322.length co30)) (fun _ hk => trivial)⟩, ⟨by (with_reducible repeat (first | apply Kd.R_alloc | apply Kd.R_drewN | apply Kd.R_drew)); exact Kd.R_mono (Kd.R_far (p := ⟨gb311, 4, none⟩) (Kd.R_mono HO324.out (fun k_ hk => (⟨hk, hk.2.2⟩ : _ ∧ k_ ≠ gb311))) (fun _ hk => hk.2) (.slice Ao30 y322.length co30)) (fun _ hk => ⟨hk.1.1, ⟨hk.1.2.1, hk.1.2.2⟩⟩)⟩, ⟨by (with_reducible repeat (first | refine blk_drewN ?_ _ | refine blk_drew ?_ | refine blk_alloc ?_ _)); refine blk_far ?_ NB303_311.out _; (with_reducible repeat (first | refine blk_drewN ?_ _ | refine blk_drew ?_ | refine blk_alloc ?_ _)); exact BK303.out⟩, ⟨by (with_reducible repeat (first | refine blk_drewN ?_ _ | refine blk_drew ?_ | refine blk_alloc ?_ _)); refine blk_far ?_ NB304_311.out _; (with_reducible repeat (first | refine blk_drewN ?_ _ | refine blk_drew ?_ | refine blk_alloc ?_ _)); exact BK304.out⟩, ⟨by (with_reducible repeat (first | refine blk_drewN ?_ _ | refine blk_drew ?_ | refine blk_alloc ?_ _)); refine blk_put (cs := #[.int .i64 a0_0, .int .i64 a0_1, .string a0_2, .slice Ao12 y308.length co12, u312004]) ?_ 4 _ rfl; (with_reducible repeat (first | refine blk_drewN ?_ _ | refine blk_drew ?_ | refine blk_alloc ?_ _)); exact BK311.out⟩, ⟨by repeat (first | (with_reducible first | exact HB.out | apply below_alloc | apply pw_below_drewN | apply below_drew1 | refine below_set ?_ GE303.out | refine below_set ?_ GE304.out | refine below_set ?_ GE311.out) | exact HB.out)⟩⟩
      ·rw [if_neg c21] at H
       exact absurd H (by simp)
     ·rw [if_neg c19] at H
      exact absurd H (by simp)
    ·rw [if_neg c18] at H
     have c18b0 : decide (x4_1 < (l0_4.length : Int)) = false := decide_eq_false c18
     clear c18
     simp only [Option.some.injEq, Prod.mk.injEq] at H
     obtain ⟨rfl, rfl, rfl, rfl, rfl⟩ := H
     have hnb32 := NB303_304.out
     have hnc32 := NB304_303.out
     have hnb33 := NB303_311.out
     have hnc33 := NB311_303.out
     have hcz34_0 : wr.cell? ⟨gb303, 0, none⟩ = some (.int .i64 a0_0) := (blk_cell BK303.out 0).trans rfl
     have hcz34_1 : wr.cell? ⟨gb303, 1, none⟩ = some (.int .i64 a0_1) := (blk_cell BK303.out 1).trans rfl
     have hcz34_2 : wr.cell? ⟨gb303, 2, none⟩ = some (.string a0_2) := (blk_cell BK303.out 2).trans rfl
     have hcz34_3 : wr.cell? ⟨gb303, 3, none⟩ = some (.slice A0_3 l0_3.length c0_3) := (blk_cell BK303.out 3).trans rfl
     have hcz34_4 : wr.cell? ⟨gb303, 4, none⟩ = some (.slice A0_4 l0_4.length c0_4) := (blk_cell BK303.out 4).trans rfl
     have hfz34_0 := blk_frozen BK303.out 0
     have hfz34_1 := blk_frozen BK303.out 1
     have hfz34_2 := blk_frozen BK303.out 2
     have hfz34_3 := blk_frozen BK303.out 3
     have hfz34_4 := blk_frozen BK303.out 4
     have hnb35 := NB311_304.out
     have hnc35 := NB304_311.out
     have hcz36_0 : wr.cell? ⟨gb311, 0, none⟩ = some (.int .i64 a0_0) := (blk_cell BK311.out 0).trans rfl
     have hcz36_1 : wr.cell? ⟨gb311, 1, none⟩ = some (.int .i64 a0_1) := (blk_cell BK311.out 1).trans rfl
     have hcz36_2 : wr.cell? ⟨gb311, 2, none⟩ = some (.string a0_2) := (blk_cell BK311.out 2).trans rfl
     have hcz36_3 : wr.cell? ⟨gb311, 3, none⟩ = some (.slice Ao12 y308.length co12) := (blk_cell BK311.out 3).trans rfl
     have hcz36_4 : wr.cell? ⟨gb311, 4, none⟩ = some (u312004) := (blk_cell BK311.out 4).trans rfl
     have hfz36_0 := blk_frozen BK311.out 0
     have hfz36_1 := blk_frozen BK311.out 1
     have hfz36_2 := blk_frozen BK311.out 2
     have hfz36_3 := blk_frozen BK311.out 3
     have hfz36_4 := blk_frozen BK311.out 4
     have hcz37_0 : wr.cell? ⟨gb304, 0, none⟩ = some (.int .i64 0) := (blk_cell BK304.out 0).trans rfl
     have hcz37_1 : wr.cell? ⟨gb304, 1, none⟩ = some (.int .i64 0) := (blk_cell BK304.out 1).trans rfl
     have hcz37_2 : wr.cell? ⟨gb304, 2, none⟩ = some (.string (⟨#[]⟩ : ByteArray)) := (blk_cell BK304.out 2).trans rfl
     have hcz37_3 : wr.cell? ⟨gb304, 3, none⟩ = some (.slice none 0 0) := (blk_cell BK304.out 3).trans rfl
     have hcz37_4 : wr.cell? ⟨gb304, 4, none⟩ = some (.slice none 0 0) := (blk_cell BK304.out 4).trans rfl
     have hfz37_0 := blk_frozen BK304.out 0
     have hfz37_1 := blk_frozen BK304.out 1
     have hfz37_2 := blk_frozen BK304.out 2
     have hfz37_3 := blk_frozen BK304.out 3
     have hfz37_4 := blk_frozen BK304.out 4
     obtain ⟨Ao38, co38, eo38⟩ := Kd.R_slice HO_312004.out
     subst eo38
     go_wp2
     refine bodyPost_ret (results_cell_row rfl _ _ gb304 25 #[.int .i64 a0_0, .int .i64 a0_1, .string a0_2, .slice Ao12 y308.length co12, .slice Ao38 x312004_1.length co38] (0, 0) _ rfl (by (with_reducible repeat (first | refine blk_drewN ?_ _ | refine blk_drew ?_ | refine blk_alloc ?_ _)); refine blk_put (cs := #[.int .i64 a0_0, .int .i64 a0_1, .string a0_2, .slice Ao12 y308.length co12, .slice none 0 0]) ?_ 4 _ rfl; (with_reducible repeat (first | refine blk_drewN ?_ _ | refine blk_drew ?_ | refine blk_alloc ?_ _)); refine blk_put (cs := #[.int .i64 a0_0, .int .i64 a0_1, .string a0_2, .slice none 0 0, .slice none 0 0]) ?_ 3 _ rfl; (with_reducible repeat (first | refine blk_drewN ?_ _ | refine blk_drew ?_ | refine blk_alloc ?_ _)); refine blk_put (cs := #[.int .i64 a0_0, .int .i64 a0_1, .string (⟨#[]⟩ : ByteArray), .slice none 0 0, .slice none 0 0]) ?_ 2 _ rfl; (with_reducible repeat (first | refine blk_drewN ?_ _ | refine blk_drew ?_ | refine blk_alloc ?_ _)); refine blk_put (cs := #[.int .i64 a0_0, .int .i64 0, .string (⟨#[]⟩ : ByteArray), .slice none 0 0, .slice none 0 0]) ?_ 1 _ rfl; (with_reducible repeat (first | refine blk_drewN ?_ _ | refine blk_drew ?_ | refine blk_alloc ?_ _)); refine blk_put (cs := #[.int .i64 0, .int .i64 0, .string (⟨#[]⟩ : ByteArray), .slice none 0 0, .slice none 0 0]) ?_ 0 _ rfl; (with_reducible repeat (first | refine blk_drewN ?_ _ | refine blk_drew ?_ | refine blk_alloc ?_ _)); exact BK304.out) Try.underlying25 rfl (by kernel_rfl)) rfl ?_
     exact ⟨_, _, by first | rfl | (simp [errW_none, errW_some] <;> rfl) | (simp [*, errW_none, errW_some] <;> rfl), by (with_reducible repeat (first | apply Kd.R_alloc | apply Kd.R_drewN | apply Kd.R_drew)); exact Kd.R_mono (Kd.R_far (p := ⟨gb304, 4, none⟩) (Kd.R_far (p := ⟨gb304, 3, none⟩) (Kd.R_far (p := ⟨gb304, 2, none⟩) (Kd.R_far (p := ⟨gb304, 1, none⟩) (Kd.R_far (p := ⟨gb304, 0, none⟩) (Kd.R_types HO_312003.out BK304.out (by decide)) (fun _ hk => hk.2) (.int .i64 a0_0)) (fun _ hk => hk.2) (.int .i64 a0_1)) (fun _ hk => hk.2) (.string a0_2)) (fun _ hk => hk.2) (.slice Ao12 y308.length co12)) (fun _ hk => hk.2) (.slice Ao38 x312004_1.length co38)) (fun _ hk => trivial), by (with_reducible repeat (first | apply Kd.R_alloc | apply Kd.R_drewN | apply Kd.R_drew)); exact Kd.R_mono (Kd.R_far (p := ⟨gb304, 4, none⟩) (Kd.R_far (p := ⟨gb304, 3, none⟩) (Kd.R_far (p := ⟨gb304, 2, none⟩) (Kd.R_far (p := ⟨gb304, 1, none⟩) (Kd.R_far (p := ⟨gb304, 0, none⟩) (Kd.R_mono HO_312004.out (fun k_ hk => (⟨hk, hk.2.1⟩ : _ ∧ k_ ≠ gb304))) (fun _ hk => hk.2) (.int .i64 a0_0)) (fun _ hk => hk.2) (.int .i64 a0_1)) (fun _ hk => hk.2) (.string a0_2)) (fun _ hk => hk.2) (.slice Ao12 y308.length co12)) (fun _ hk => hk.2) (.slice Ao38 x312004_1.length co38)) (fun _ hk => hk.1.1), by repeat (first | (with_reducible first | exact HB.out | apply below_alloc | apply pw_below_drewN | apply below_drew1 | refine below_set ?_ GE303.out | refine below_set ?_ GE304.out | refine below_set ?_ GE311.out) | exact HB.out)⟩
 ·rw [if_neg c2] at H
  exact absurd H (by simp)
end Go.Proofs.Ytaembebbaejfiaa.PS
namespace Go.Proofs.Ytaembebbaejfiaa.Tr
open Go.RowKit Go.Proofs.YtaembebbaejfiaaW.PrintWords Go.Proofs.YtaembebbaejfiaaW.PrintLast Go.Proofs.Ytaembebbaejfiaa.Str Go.Proofs.Ytaembebbaejfiaa.Kit Go.Proofs.Ytaembebbaejfiaa.MapV Go.Proofs.Ytaembebbaejfiaa.Frame Go.Proofs.Ytaembebbaejfiaa.PS
set_option linter.unusedVariables false
set_option linter.unusedSimpArgs false
mutual
def fromI : VI → VS
 | ⟨k, n, t, ks, vs⟩ => ⟨k, n, t, ks, fromL vs⟩
def fromL : List VI → List VS
 | [] => []
 | v :: r => fromI v :: fromL r
end
theorem fromL_map : ∀ vs, fromL vs = vs.map fromI
 | [] => by simp [fromL]
 | v :: r => by simp [fromL, fromL_map r]
theorem fromL_length (vs : List VI) : (fromL vs).length = vs.length := by rw [fromL_map, List.length_map]
theorem etaS' (x : VS) : (⟨x.f0, x.f1, x.f2, x.f3, x.f4⟩ : VS) = x := by cases x; rfl
theorem fromI_eq (x : VI) : fromI x = ⟨x.f0, x.f1, x.f2, x.f3, fromL x.f4⟩ := by cases x; simp [fromI]
theorem fromL_drop {vs : List VI} {i : Nat} (h : i < vs.length) : (fromL vs).drop i = fromI vs[i] :: (fromL vs).drop (i + 1) := by
 rw [List.drop_eq_getElem_cons (by rw [fromL_length]; exact h)]
 simp only [fromL_map, List.getElem_map]
theorem rdI' {xs : List VI} {i : Nat} (h : i < xs.length) : rd_T36 xs (i : Int) = xs[i] := by
 unfold rd_T36
 simp [List.getD_eq_getElem?_getD, h]
theorem wrapF (i : Nat) (h : i < 4611686018427387904) : wrap64 ((i : Int) + 1) = ((i + 1 : Nat) : Int) := by unfold wrap64; omega
def tupS (x : VS) : Int × Int × BA × List BA × List VS := (x.f0, x.f1, x.f2, x.f3, x.f4)
def FromEv (x : VI) : Prop := Ev (fun k => laws_from.f k x.f0 x.f1 x.f2 x.f3 x.f4) (tupS (fromI x))
theorem ev_from_l0 (a b : Int) (c : BA) (ks : List BA) (vs : List VI) (p q : Int) (r : BA) (rk : List BA) (hvl : vs.length ≤ 1759218604400) (hch : ∀ v, v ∈ vs → FromEv v) : ∀ (d i : Nat) (acc : List VS), i + d = vs.length → acc.length = i →
  Ev (fun k => laws_from.l0 k (i : Int) a b c ks vs p q r rk acc) (p, q, r, rk, acc ++ (fromL vs).drop i) := by
 intro d
 induction d with
 | zero =>
  intro i acc hi ha
  refine Ev.step (fun k => ?_) (Ev.now _)
  simp only [laws_from.l0]
  rw [if_neg (by omega), List.drop_eq_nil_of_le (by rw [fromL_length]; omega), List.append_nil]
 | succ d ih =>
  intro i acc hi ha
  have hlt : i < vs.length := by omega
  refine Ev.step (f := fun k => (laws_from.f k vs[i].f0 vs[i].f1 vs[i].f2 vs[i].f3 vs[i].f4).bind fun bt => laws_from.l0 k ((i + 1 : Nat) : Int) a b c ks vs p q r rk (acc ++ [(⟨bt.1, bt.2.1, bt.2.2.1, bt.2.2.2.1, bt.2.2.2.2⟩ : VS)])) (fun k => ?_) ?_
  ·simp only [laws_from.l0]
   rw [if_pos (by omega), if_pos (by omega), rdI' hlt]
   refine congrArg _ (funext fun bt => ?_)
   rw [if_pos (by omega), wrapF i (by omega)]
  ·refine Ev.bind (hch vs[i] (List.getElem_mem hlt)) ?_
   have := ih (i + 1) (acc ++ [fromI vs[i]]) (by omega) (by simp [ha])
   rw [List.append_assoc, List.singleton_append, ← fromL_drop hlt] at this
   simp only [tupS, etaS']
   exact this
theorem ev_from : ∀ x : VI, Small x → FromEv x := by
 intro x hx
 induction hx with
 | mk x hk hkl hvl hv ih =>
  obtain ⟨k, n, t, ks, vs⟩ := x
  have hkl' : ks.length ≤ 8796093022000 := hkl
  have h := ev_from_l0 k n t ks vs k n t ks hvl ih vs.length 0 [] (by omega) rfl
  rw [List.drop_zero, List.nil_append] at h
  unfold FromEv
  rw [fromI_eq]
  refine Ev.step (fun j => ?_) h
  simp only [laws_from.f, Option.bind_some, List.nil_append, List.length_nil, Nat.zero_add]
  rw [if_pos (by omega)]
  rfl
end Go.Proofs.Ytaembebbaejfiaa.Tr
namespace Go.Proofs.Ytaembebbaejfiaa.Tr
open Go.RowKit Go.Proofs.YtaembebbaejfiaaW.PrintWords Go.Proofs.YtaembebbaejfiaaW.PrintLast Go.Proofs.Ytaembebbaejfiaa.Str Go.Proofs.Ytaembebbaejfiaa.Kit Go.Proofs.Ytaembebbaejfiaa.MapV Go.Proofs.Ytaembebbaejfiaa.Frame Go.Proofs.Ytaembebbaejfiaa.PS
open Go.Proofs.Ytaembebbaejfiaa.Val (place placeI placeB placeI_hit placeI_end)
set_option linter.unusedVariables false
set_option linter.unusedSimpArgs false
inductive Canon : VS → Prop
 | null : Canon (leaf 0 0 ⟨#[]⟩)
 | bool (b : Bool) : Canon (leaf 1 (if b then 1 else 0) ⟨#[]⟩)
 | int (n : Int) : Canon (leaf 2 n ⟨#[]⟩)
 | text (s : BA) : Canon (leaf 3 0 s)
 | list (l : List VS) (h : ∀ v, v ∈ l → Canon v) : Canon ⟨4, 0, ⟨#[]⟩, [], l⟩
 | map (ks : List BA) (vs : List VS) (hr : RiseK ks) (hl : ks.length = vs.length) (h : ∀ v, v ∈ vs → Canon v) : Canon ⟨5, 0, ⟨#[]⟩, ks, vs⟩
theorem canon_anyOf_map {ks : List BA} {vs : List VS} (hr : RiseK ks) (n : Int) (t : BA) : anyOf (toI ⟨5, n, t, ks, vs⟩) = .map ((ks.map lb).zip (anyL (toL vs))) := by
 rw [toI_eq]
 simp only [anyOf]
 rw [if_neg (by decide), if_neg (by decide), if_neg (by decide), if_neg (by decide), if_pos trivial, fitM_id (pairs_rise hr)]
theorem with_mput {α β : Type} (g : α → β) : ∀ (ks : List BA) (vs : List α) (key : BA) (x : α), RiseK ks → ks.length = vs.length → ((withK ks key).map lb).zip ((withV ks vs key x).map g) = mput ((ks.map lb).zip (vs.map g)) (lb key) (g x)
 | [], [], key, x, _, _ => rfl
 | k :: ks, v :: vs, key, x, hr, hl => by
  obtain ⟨h1, h2⟩ := List.pairwise_cons.1 hr
  have hl' : ks.length = vs.length := by simpa using hl
  rw [List.map_cons, List.map_cons, List.zip_cons_cons]
  by_cases hlt : lb k < lb key
  ·obtain ⟨e1, e2⟩ := place_cons_lt (r := ks) hlt
   have ek : withK (k :: ks) key = k :: withK ks key := by
    unfold withK
    rw [e1, e2]
    split <;> rfl
   have ev : withV (k :: ks) (v :: vs) key x = v :: withV ks vs key x := by
    unfold withV
    rw [e1, e2]
    split <;> rfl
   rw [ek, ev, List.map_cons, List.map_cons, List.zip_cons_cons, with_mput g ks vs key x h2 hl', mput_lt hlt]
  ·obtain ⟨e1, e2⟩ := place_cons_ge (r := ks) hlt
   by_cases he : lb k = lb key
   ·have hb : (k.toList == key.toList) = true := by rw [toList_lb, toList_lb, he]; exact beq_self_eq_true _
    have ek : withK (k :: ks) key = k :: ks := by
     unfold withK
     rw [e2, hb, if_pos rfl]
    have ev : withV (k :: ks) (v :: vs) key x = x :: vs := by
     unfold withV
     rw [e2, e1, hb, if_pos rfl]
     rfl
    rw [ek, ev, List.map_cons, List.map_cons, List.zip_cons_cons, mput_eq he (fun p hp => ?_), he]
    obtain ⟨a, b⟩ := p
    obtain ⟨s, hs, rfl⟩ := List.mem_map.1 (List.of_mem_zip hp).1
    rw [← he]
    exact h1 s hs
   ·have hb : (k.toList == key.toList) = false := by rw [toList_lb, toList_lb]; simpa using he
    have hgt : lb key < lb k := by
     rcases lt_total (lb k) (lb key) with e | e | e
     ·exact absurd e hlt
     ·exact absurd e he
     ·exact e
    have ek : withK (k :: ks) key = key :: k :: ks := by
     unfold withK
     rw [e2, e1, hb, if_neg (by decide)]
     rfl
    have ev : withV (k :: ks) (v :: vs) key x = x :: v :: vs := by
     unfold withV
     rw [e2, e1, hb, if_neg (by decide)]
     rfl
    rw [ek, ev, List.map_cons, List.map_cons, List.map_cons, List.map_cons, List.zip_cons_cons, List.zip_cons_cons, mput_gt (fun p hp => ?_)]
    rcases List.mem_cons.1 hp with rfl | hp
    ·exact hgt
    ·obtain ⟨a, b⟩ := p
     obtain ⟨s, hs, rfl⟩ := List.mem_map.1 (List.of_mem_zip hp).1
     exact lt_trans hgt (h1 s hs)
 | _ :: _, [], _, _, _, h => by simp at h
 | [], _ :: _, _, _, _, h => by simp at h
theorem fitW_mput {β : Type} (g : VS → β) : ∀ (ks : List BA) (vs : List VS) (K : List BA) (V : List VS), RiseK K → K.length = V.length → ks.length = vs.length →
  ((fitW ks vs K V).1.map lb).zip ((fitW ks vs K V).2.map g) = ((ks.map lb).zip (vs.map g)).foldl (fun f p => mput f p.1 p.2) ((K.map lb).zip (V.map g))
 | [], [], K, V, _, _, _ => rfl
 | k :: ks, v :: vs, K, V, hr, hl, hn => by
  rw [fitW, fitW_mput g ks vs _ _ (withK_rises hr) (withV_length (x := v) hl).symm (by simpa using hn), with_mput g K V k v hr hl]
  rfl
 | _ :: _, [], _, _, _, _, h => by simp at h
 | [], _ :: _, _, _, _, _, h => by simp at h
end Go.Proofs.Ytaembebbaejfiaa.Tr
namespace Go.Proofs.Ytaembebbaejfiaa.Tr
open Go.RowKit Go.Proofs.YtaembebbaejfiaaW.PrintWords Go.Proofs.YtaembebbaejfiaaW.PrintLast
set_option linter.unusedVariables false
def Ends {α : Type} (P : α → Prop) (g : Nat → Option α) : Prop := ∃ r, Ev g r ∧ P r
section
variable {α β : Type} {P : α → Prop} {g f : Nat → Option α}
theorem Ends.of {r : α} (h : Ev g r) (hp : P r) : Ends P g := ⟨r, h, hp⟩
theorem Ends.ev {r : α} (h : Ends (fun x => x = r) g) : Ev g r := by
 obtain ⟨x, hx, rfl⟩ := h
 exact hx
theorem Ev.ends {r : α} (h : Ev g r) : Ends (fun x => x = r) g := ⟨r, h, rfl⟩
theorem Ends.mono {Q : α → Prop} (h : Ends P g) (hq : ∀ r, P r → Q r) : Ends Q g := by
 obtain ⟨x, hx, hp⟩ := h
 exact ⟨x, hx, hq x hp⟩
theorem Ends.now {r : α} (h : P r) : Ends P (fun _ => some r) := ⟨r, Ev.now r, h⟩
theorem Ends.ite {c : Prop} [Decidable c] (h1 : c → Ends P f) (h2 : ¬ c → Ends P g) : Ends P (fun k => if c then f k else g k) := by
 by_cases h : c
 ·obtain ⟨r, hr, hp⟩ := h1 h
  exact ⟨r, Ev.congr (fun k => by rw [if_pos h]) hr, hp⟩
 ·obtain ⟨r, hr, hp⟩ := h2 h
  exact ⟨r, Ev.congr (fun k => by rw [if_neg h]) hr, hp⟩
theorem Ends.yes {c : Prop} [Decidable c] (hc : c) (h : Ends P f) : Ends P (fun k => if c then f k else g k) := Ends.ite (fun _ => h) (fun n => absurd hc n)
theorem Ends.no {c : Prop} [Decidable c] (hc : ¬ c) (h : Ends P g) : Ends P (fun k => if c then f k else g k) := Ends.ite (fun n => absurd n hc) (fun _ => h)
theorem Ends.bind {Q : β → Prop} {u : Nat → Option β} {v : Nat → β → Option α} (hu : Ends Q u) (hv : ∀ a, Q a → Ends P (fun k => v k a)) : Ends P (fun k => (u k).bind (v k)) := by
 obtain ⟨a, ha, hq⟩ := hu
 obtain ⟨r, hr, hp⟩ := hv a hq
 exact ⟨r, Ev.bind ha hr, hp⟩
theorem Ends.bindEv {u : Nat → Option β} {v : Nat → β → Option α} {a : β} (hu : Ev u a) (hv : Ends P (fun k => v k a)) : Ends P (fun k => (u k).bind (v k)) := Ends.bind (Ev.ends hu) (fun _ h => by rw [h]; exact hv)
theorem Ends.step (h : ∀ k, g (k + 1) = f k) (k : Ends P f) : Ends P g := by
 obtain ⟨r, hr, hp⟩ := k
 exact ⟨r, Ev.step h hr, hp⟩
theorem Ends.congr (h : ∀ k, g k = f k) (k : Ends P f) : Ends P g := by
 obtain ⟨r, hr, hp⟩ := k
 exact ⟨r, Ev.congr h hr, hp⟩
end
end Go.Proofs.Ytaembebbaejfiaa.Tr
namespace Go.Proofs.Ytaembebbaejfiaa.PS
open Go.RowKit Go.Proofs.YtaembebbaejfiaaW.PrintWords Go.Proofs.YtaembebbaejfiaaW.PrintLast Go.Proofs.YtaembebbaejfiaaW.PrintMore
attribute [local go_sem] max2_int min2_int max_two min_two max_three min_three max_four min_four 
set_option linter.unusedVariables false
set_option linter.unusedSimpArgs false
end Go.Proofs.Ytaembebbaejfiaa.PS
