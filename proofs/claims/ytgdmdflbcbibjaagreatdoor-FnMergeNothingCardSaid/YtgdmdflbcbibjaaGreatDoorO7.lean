/- Parts of the proof, laid together: QLawsTo, PureFit, PureTo, QLawsFrom, PureFrom, Canon. -/
import Derived.Test.YtgdmdflbcbibjaaGreatDoorO3
import Derived.Test.YtgdmdflbcbibjaaGreatDoorO5
import Derived.Test.YtgdmdflbcbibjaaGreatDoorO6
import Derived.Test.YtgdmdflbcbibjaaGreatDoorO4
import Derived.Test.YtgdmdflbcbibjaaGreatDoorO2
namespace Go.Proofs.YtgdmdflbcbibjaaGreatDoor.PS
open Go.RowKit Go.Proofs.YtgdmdflbcbibjaaGreatDoorW.PrintWords Go.Proofs.YtgdmdflbcbibjaaGreatDoorW.PrintLast Go.Proofs.YtgdmdflbcbibjaaGreatDoorW.PrintMore
attribute [local go_sem] max2_int min2_int max_two min_two max_three min_three max_four min_four 
set_option linter.unusedVariables false
set_option linter.unusedSimpArgs false
mutual
def laws_to.l0 : Nat → Int → Int → Int → ByteArray → List ByteArray → List (S25) → Int → Int → ByteArray → List ByteArray → List (S31) → Option (Int × Int × ByteArray × List ByteArray × (List (S31)))
 | 0, _, _, _, _, _, _, _, _, _, _, _ => none
 | k + 1, x4, x210000, x210001, x210002, x210003, x210004, x218000, x218001, x218002, x218003, x218004 => if x4 < (x210004.length : Int) then (if 0 ≤ x4 then ((laws_to.f k ((rd_T25 x210004 x4).f0) ((rd_T25 x210004 x4).f1) ((rd_T25 x210004 x4).f2) ((rd_T25 x210004 x4).f3) ((rd_T25 x210004 x4).f4)).bind fun bt219 => (if x218004.length < 1759218604441 then (laws_to.l0 k (wrap64 (x4 + 1)) x210000 x210001 x210002 x210003 x210004 x218000 x218001 x218002 x218003 (x218004 ++ [(⟨bt219.1, bt219.2.1, bt219.2.2.1, bt219.2.2.2.1, bt219.2.2.2.2⟩ : S31)])) else (none))) else (none)) else (some (x218000, x218001, x218002, x218003, x218004))
def laws_to.f : Nat → Int → Int → ByteArray → List ByteArray → List (S25) → Option (Int × Int × ByteArray × List ByteArray × (List (S31)))
 | 0, _, _, _, _, _ => none
 | k + 1, a0_0, a0_1, a0_2, l0_3, l0_4 => (some (([] : List ByteArray) : List ByteArray)).bind fun y211 => (if y211.length + l0_3.length < 8796093022208 then (laws_to.l0 k 0 a0_0 a0_1 a0_2 l0_3 l0_4 a0_0 a0_1 a0_2 (y211 ++ l0_3) ([] : List (S31))) else (none))
end
def laws_to.T1 : Bool × List (List Nat × List Nat) := (true, [([], []), ([0], [0]), ([], []), ([2], [2]), ([], []), ([4], [4]), ([], []), ([], []), ([7], [7]), ([6, 8], [6, 8]), ([1, 3, 5, 9], [1, 3, 5, 9]), ([], []), ([11, 10, 9, 0, 1, 2, 3, 4, 5, 6, 7, 8, 9, 10, 11], [10, 11])])
def laws_to.B1 : List Nat := [0, 1, 0, 4, 0, 16, 0, 0, 128, 448, 1023, 0, 4095]
theorem laws_to.tab1 : rtab .any (opsOf Tryz.f10 1) = laws_to.T1 := by kernel_rfl
theorem laws_to.bits1 : waitsOk laws_to.T1.2 laws_to.B1 = true := by kernel_rfl
def laws_to.T5 : Bool × List (List Nat × List Nat) := (true, [([], []), ([0], [0]), ([], []), ([2], [2]), ([], []), ([3, 4], [3, 4]), ([5], [5]), ([6], [6]), ([7], [7]), ([1, 8, 7], [1, 8]), ([0, 1, 2, 3, 4, 5, 6, 7, 8, 9], []), ([10, 9, 9, 0, 1, 2, 3, 4, 5, 6, 7, 8, 9], [9, 10])])
def laws_to.B5 : List Nat := [0, 1, 0, 4, 0, 28, 60, 124, 252, 511, 1023, 2047]
theorem laws_to.tab5 : rtab .any (opsOf Tryz.f10 5) = laws_to.T5 := by kernel_rfl
theorem laws_to.bits5 : waitsOk laws_to.T5.2 laws_to.B5 = true := by kernel_rfl
set_option maxHeartbeats 8000000 in
set_option maxRecDepth 100000 in
theorem laws_to.calls (k : Nat) : ∀ (a0_0 : Int) (a0_1 : Int) (a0_2 : ByteArray) (A0_3 : Option Addr) (c0_3 : Nat) (l0_3 : List ByteArray) (A0_4 : Option Addr) (c0_4 : Nat) (l0_4 : List (S25)) (r1 : Int) (r2 : Int) (r3 : ByteArray) (r4 : List ByteArray) (r5 : List (S31)) (w : World) (hr0_3 : Kd.C Kd.string w A0_3 l0_3.length l0_3) (hc0_3 : l0_3.length ≤ c0_3) (hr0_4 : Kd.C k25 w A0_4 l0_4.length l0_4) (hc0_4 : l0_4.length ≤ c0_4) (h : laws_to.f k a0_0 a0_1 a0_2 l0_3 l0_4 = some (r1, r2, r3, r4, r5)),
  Calls Tryz.prog 10 #[.agg #[.int .i64 a0_0, .int .i64 a0_1, .string a0_2, .slice A0_3 l0_3.length c0_3, .slice A0_4 l0_4.length c0_4]] w fun e w' => ∃ v3_ v4_ : Value, e = .returned (.agg #[.int .i64 r1, .int .i64 r2, .string r3, v3_, v4_]) ∧ Kd.R Kd.string 9 w' w.heap.size (fun _ => True) v3_ r4 ∧ Kd.R k31 31 w' w.heap.size (fun k_ => some k_ ≠ (v3_ : Value).ownBlock) v4_ r5 ∧ Below w.heap.size w w' := by
 induction k using Nat.strongRecOn with
 | _ k ih =>
 intro a0_0 a0_1 a0_2 A0_3 c0_3 l0_3 A0_4 c0_4 l0_4 r1 r2 r3 r4 r5 w hr0_3 hc0_3 hr0_4 hc0_4 h
 cases k with
 | zero => exact absurd h (by simp [laws_to.f])
 | succ k =>
 simp only [laws_to.f] at h
 have hu25 := Tryz.underlying25
 have hu31 := Tryz.underlying31
 have HR0_3 := aM hr0_3
 have HC0_3 := aM hc0_3
 clear hr0_3 hc0_3
 have HR0_4 := aM hr0_4
 have HC0_4 := aM hc0_4
 clear hr0_4 hc0_4
 have HB := aM (Below.refl w.heap.size w)
 have H : ((some (([] : List ByteArray) : List ByteArray)).bind fun y211 => (if y211.length + l0_3.length < 8796093022208 then (laws_to.l0 k 0 a0_0 a0_1 a0_2 l0_3 l0_4 a0_0 a0_1 a0_2 (y211 ++ l0_3) ([] : List (S31))) else (none))) = some (r1, r2, r3, r4, r5) := h
 clear h
 obtain ⟨y211, hy211⟩ : ∃ y_ : List ByteArray, y_ = (([] : List ByteArray)) := ⟨_, rfl⟩
 replace H : (if y211.length + l0_3.length < 8796093022208 then (laws_to.l0 k 0 a0_0 a0_1 a0_2 l0_3 l0_4 a0_0 a0_1 a0_2 (y211 ++ l0_3) ([] : List (S31))) else (none)) = some (r1, r2, r3, r4, r5) := by first | (rw [hy211]; with_reducible exact H) | (have H2_ := (Option.bind_some _ _).symm.trans H; rw [hy211]; with_reducible exact H2_) | (have H2_ := (Option.bind_some _ _).symm.trans H; with_reducible exact H2_) | with_reducible exact H | (rw [hy211]; exact H) | exact H
 have Ny211 := aM hy211
 clear hy211
 by_cases c2 : y211.length + l0_3.length < 8796093022208
 ·rw [if_pos c2] at H
  have LMc2 := aM c2
  clear c2
  obtain ⟨y214, hy214⟩ : ∃ y_ : List ByteArray, y_ = (y211 ++ l0_3) := ⟨_, rfl⟩
  replace H : (laws_to.l0 k 0 a0_0 a0_1 a0_2 l0_3 l0_4 a0_0 a0_1 a0_2 y214 ([] : List (S31))) = some (r1, r2, r3, r4, r5) := by first | (rw [hy214]; with_reducible exact H) | (have H2_ := (Option.bind_some _ _).symm.trans H; rw [hy214]; with_reducible exact H2_) | (have H2_ := (Option.bind_some _ _).symm.trans H; with_reducible exact H2_) | with_reducible exact H | (rw [hy214]; exact H) | exact H
  have Ny214 := aM hy214
  clear hy214
  have H' := aM H
  clear H
  go_enter Tryz.func10, Tryz.ntmps10
  try go_wp2_with (first | ((with_reducible refine gate_dst (N := 1) rfl ?_); refine box_event ?hg (N := 1) ?hd (cs := #[.int .i64 a0_0, .int .i64 a0_1, .string a0_2, .slice A0_3 l0_3.length c0_3, .slice A0_4 l0_4.length c0_4]) (t := 25) ?hr ?_; (case hd => rfl); (case hg => rfl); (case hr => first | (go_simp; done) | (go_simp; rfl)); intro gb209 hg w3 hbox hb; have n0_ := aM (below_step (by repeat (first | (with_reducible first | exact HB.out | apply below_alloc | apply pw_below_drewN | apply below_drew1) | exact HB.out)) hb); have n1_ := aM (hbox); have n2_ := aM ((by rw [hg]; exact (below_size (by repeat (first | (with_reducible first | exact HB.out | apply below_alloc | apply pw_below_drewN | apply below_drew1) | exact HB.out))) : w.heap.size ≤ gb209)); have n3_ := aM ((by rw [hg]; exact (below_size (by repeat (first | (with_reducible first | exact HB.out | apply below_alloc | apply pw_below_drewN | apply below_drew1) | exact HB.out))) : w.heap.size ≤ gb209)); clear HB; have HB := n0_; have BK209 := n1_; have GW209 := n2_; have GE209 := n3_; clear n0_ n1_ n2_ n3_; clear hb hbox hg) | ((with_reducible refine gate_dst (N := 2) rfl ?_); refine box_event ?hg (N := 2) ?hd (cs := #[.int .i64 0, .int .i64 0, .string (⟨#[]⟩ : ByteArray), .slice none 0 0, .slice none 0 0]) (t := 31) ?hr ?_; (case hd => rfl); (case hg => rfl); (case hr => first | (go_simp; done) | (go_simp; rfl)); intro gb210 hg w4 hbox hb; have n0_ := aM (blk_below (g := gb209) (o := .cells #[.int .i64 a0_0, .int .i64 a0_1, .string a0_2, .slice A0_3 l0_3.length c0_3, .slice A0_4 l0_4.length c0_4] 25 (0, 0)) (by (with_reducible repeat (first | refine blk_drewN ?_ _ | refine blk_drew ?_ | refine blk_alloc ?_ _)); exact BK209.out) hb); have n1_ := aM (below_step (by repeat (first | (with_reducible first | exact HB.out | apply below_alloc | apply pw_below_drewN | apply below_drew1 | refine below_set ?_ GE209.out) | exact HB.out)) hb); have n2_ := aM (hbox); have n3_ := aM ((by rw [hg]; exact (below_size (by repeat (first | (with_reducible first | exact HB.out | apply below_alloc | apply pw_below_drewN | apply below_drew1 | refine below_set ?_ GE209.out) | exact HB.out))) : w.heap.size ≤ gb210)); have n4_ := aM ((by rw [hg]; exact (below_size (by repeat (first | (with_reducible first | exact HB.out | apply below_alloc | apply pw_below_drewN | apply below_drew1 | refine below_set ?_ GE209.out) | exact HB.out))) : w.heap.size ≤ gb210)); have n5_ := aM ((by rw [hg]; exact Nat.ne_of_lt (blk_lt (g := gb209) (o := .cells #[.int .i64 a0_0, .int .i64 a0_1, .string a0_2, .slice A0_3 l0_3.length c0_3, .slice A0_4 l0_4.length c0_4] 25 (0, 0)) (by (with_reducible repeat (first | refine blk_drewN ?_ _ | refine blk_drew ?_ | refine blk_alloc ?_ _)); exact BK209.out)) : gb209 ≠ gb210)); have n6_ := aM ((by rw [hg]; exact Nat.ne_of_gt (blk_lt (g := gb209) (o := .cells #[.int .i64 a0_0, .int .i64 a0_1, .string a0_2, .slice A0_3 l0_3.length c0_3, .slice A0_4 l0_4.length c0_4] 25 (0, 0)) (by (with_reducible repeat (first | refine blk_drewN ?_ _ | refine blk_drew ?_ | refine blk_alloc ?_ _)); exact BK209.out)) : gb210 ≠ gb209)); clear BK209; clear HB; have BK209 := n0_; have HB := n1_; have BK210 := n2_; have GW210 := n3_; have GE210 := n4_; have NB209_210 := n5_; have NB210_209 := n6_; clear n0_ n1_ n2_ n3_ n4_ n5_ n6_; clear hb hbox hg))
  have n0_ := aM (blk_drew BK209.out)
  have n1_ := aM (blk_drew BK210.out)
  have n2_ := aM (below_drew1 HB.out)
  clear BK209 BK210 HB; have BK209 := n0_; have BK210 := n1_; have HB := n2_; clear n0_ n1_ n2_
  refine start_ (n := 13) (S := fun w' => w'.cell? ⟨gb209, 0, none⟩ = some (.int .i64 a0_0) ∧ w'.cell? ⟨gb209, 1, none⟩ = some (.int .i64 a0_1) ∧ w'.cell? ⟨gb209, 2, none⟩ = some (.string a0_2) ∧ w'.cell? ⟨gb209, 3, none⟩ = some (.slice A0_3 l0_3.length c0_3) ∧ w'.cell? ⟨gb209, 4, none⟩ = some (.slice A0_4 l0_4.length c0_4)) (ds := []) #[false, false, false, false, false, false, false, false, false, false, false, false, false] (by kernel_rfl) rfl rfl ⟨(blk_cell BK209.out 0).trans rfl, (blk_cell BK209.out 1).trans rfl, (blk_cell BK209.out 2).trans rfl, (blk_cell BK209.out 3).trans rfl, (blk_cell BK209.out 4).trans rfl⟩ (fun hHeld => ?_); refine with_tabW laws_to.tab1 laws_to.bits1 (fun HT_ HW_ => ?_)
  generalize w4.drew = w5 at BK209 BK210 HB hHeld ⊢
  refine pure_ (i := 0) (N := some 5) (v := ?_) (a' := ?_) #[true, false, false, false, false, false, false, false, false, false, false, false, false] rfl rfl (any_of HT_.out (by kernel_rfl)) (fun _ _ _ h => h) (Or.inl ⟨by rfl, ?_⟩) ?_ ?_
  rotate_left
  ·intro w'; go_simp; with_reducible rfl
  rotate_left
  ·simp only [Act.put, sA, sB, sC, i64_w, i32_w]; rfl
  refine pure_ (i := 2) (N := some 7) (v := ?_) (a' := ?_) #[true, false, true, false, false, false, false, false, false, false, false, false, false] rfl rfl (any_of HT_.out (by kernel_rfl)) (fun _ _ _ h => h) (Or.inl ⟨by rfl, ?_⟩) ?_ ?_
  rotate_left
  ·intro w'; go_simp; with_reducible rfl
  rotate_left
  ·simp only [Act.put, sA, sB, sC, i64_w, i32_w]; rfl
  refine pure_ (i := 4) (N := some 9) (v := ?_) (a' := ?_) #[true, false, true, false, true, false, false, false, false, false, false, false, false] rfl rfl (any_of HT_.out (by kernel_rfl)) (fun _ _ _ h => h) (Or.inl ⟨by rfl, ?_⟩) ?_ ?_
  rotate_left
  ·intro w'; go_simp; with_reducible rfl
  rotate_left
  ·simp only [Act.put, sA, sB, sC, i64_w, i32_w]; rfl
  refine pure_ (i := 7) (N := some 12) (v := ?_) (a' := ?_) #[true, false, true, false, true, false, false, true, false, false, false, false, false] rfl rfl (any_of HT_.out (by kernel_rfl)) (fun _ _ _ h => h) (Or.inl ⟨by rfl, ?_⟩) ?_ ?_
  rotate_left
  ·intro w'; go_simp; with_reducible rfl
  rotate_left
  ·simp only [Act.put, sA, sB, sC, i64_w, i32_w]; rfl
  refine take_ (i := 1) (N := some 6) (v := ?_) (a' := ?_) #[true, true, true, false, true, false, false, true, false, false, false, false, false] rfl rfl (take_ofW HT_.out HW_.out (by kernel_rfl)) (fun _ _ _ h => h) (Or.inl ⟨by rfl, ?_⟩) hHeld ?_ ?_
  rotate_left
  ·rintro w' ⟨s0, s1, s2, s3, s4⟩
   go_simp; with_reducible rfl
  rotate_left
  ·simp only [Act.put, sA, sB, sC, i64_w, i32_w]; rfl
  refine take_ (i := 3) (N := some 8) (v := ?_) (a' := ?_) #[true, true, true, true, true, false, false, true, false, false, false, false, false] rfl rfl (take_ofW HT_.out HW_.out (by kernel_rfl)) (fun _ _ _ h => h) (Or.inl ⟨by rfl, ?_⟩) hHeld ?_ ?_
  rotate_left
  ·rintro w' ⟨s0, s1, s2, s3, s4⟩
   go_simp; with_reducible rfl
  rotate_left
  ·simp only [Act.put, sA, sB, sC, i64_w, i32_w]; rfl
  refine take_ (i := 5) (N := some 10) (v := ?_) (a' := ?_) #[true, true, true, true, true, true, false, true, false, false, false, false, false] rfl rfl (take_ofW HT_.out HW_.out (by kernel_rfl)) (fun _ _ _ h => h) (Or.inl ⟨by rfl, ?_⟩) hHeld ?_ ?_
  rotate_left
  ·rintro w' ⟨s0, s1, s2, s3, s4⟩
   go_simp; with_reducible rfl
  rotate_left
  ·simp only [Act.put, sA, sB, sC, i64_w, i32_w]; rfl
  refine take_ (i := 8) (N := some 13) (v := ?_) (a' := ?_) #[true, true, true, true, true, true, false, true, true, false, false, false, false] rfl rfl (take_ofW HT_.out HW_.out (by kernel_rfl)) (fun _ _ _ h => h) (Or.inl ⟨by rfl, ?_⟩) hHeld ?_ ?_
  rotate_left
  ·rintro w' ⟨s0, s1, s2, s3, s4⟩
   go_simp; with_reducible rfl
  rotate_left
  ·simp only [Act.put, sA, sB, sC, i64_w, i32_w]; rfl
  refine join_ (σ := Value × Value × Nat) 1 #[true, true, true, true, true, true, true, true, true, true, true, true, false] (fun s_ => [(11, s_.1), (14, s_.2.1), (3, .pointer (some ⟨s_.2.2, 0, none⟩)), (15, .agg #[.int .i64 a0_0, .int .i64 a0_1, .string a0_2, s_.2.1, .slice none 0 0])]) (fun s_ w' => (w'.cell? ⟨gb209, 0, none⟩ = some (.int .i64 a0_0) ∧ w'.cell? ⟨gb209, 1, none⟩ = some (.int .i64 a0_1) ∧ w'.cell? ⟨gb209, 2, none⟩ = some (.string a0_2) ∧ w'.cell? ⟨gb209, 3, none⟩ = some (.slice A0_3 l0_3.length c0_3) ∧ w'.cell? ⟨gb209, 4, none⟩ = some (.slice A0_4 l0_4.length c0_4)) ∧ (Kd.R Kd.string 9 w' w.heap.size (fun _ => True) s_.2.1 y214) ∧ (w'.heap[gb209]? = some (.cells #[.int .i64 a0_0, .int .i64 a0_1, .string a0_2, .slice A0_3 l0_3.length c0_3, .slice A0_4 l0_4.length c0_4] 25 (0, 0))) ∧ (w'.heap[gb210]? = some (.cells #[.int .i64 0, .int .i64 0, .string (⟨#[]⟩ : ByteArray), .slice none 0 0, .slice none 0 0] 31 (0, 0))) ∧ (w'.heap[s_.2.2]? = some (.cells #[.int .i64 0, .int .i64 0, .string (⟨#[]⟩ : ByteArray), .slice none 0 0, .slice none 0 0] 31 (0, 0))) ∧ (w.heap.size ≤ s_.2.2) ∧ (w.heap.size ≤ s_.2.2) ∧ (gb209 ≠ s_.2.2) ∧ (s_.2.2 ≠ gb209) ∧ (gb210 ≠ s_.2.2) ∧ (s_.2.2 ≠ gb210) ∧ (Below w.heap.size w w')) ?_ ?_
  rotate_left
  ·intro hCont
   refine two_ (i := 6) (j := 11) (Ni := some 11) (Nj := some 3) #[true, true, true, true, true, true, true, true, true, false, false, false, false] #[true, true, true, true, true, true, false, true, true, false, false, true, false] rfl rfl rfl rfl (two_of HT_.out (by kernel_rfl)) (by decide) (by decide) (fun K hK => ?_) (fun K hK => ?_)
   ·skip
    refine Kd.R_lit_step Kd.string _ 9 ?hg (N := 11) ?hd (xs := ([] : List ByteArray)) (inner := []) (ok := fun _ => True) (okp := fun _ => True) ?hr ?hp (fun _ hk => hk) trivial (Below.refl _ _) (Nat.le_refl _) (by simp) ?_; (case hd => rfl); (case hg => rfl); (case hr => first | (go_simp; done) | (go_simp; rfl)); (case hp => exact (Reps.none _ _))
    intro v212 w6 ho7 hb hg_ hnew_; clear hg_ hnew_
    (first | rw [← Ny211.out] at ho7 | (simp only [Int.reduceToNat] at ho7; rw [← Ny211.out] at ho7))
    have n0_ := aM (Kd.R_lower ho7 (below_size (by repeat (first | (with_reducible first | exact HB.out | apply below_alloc | apply pw_below_drewN | apply below_drew1 | refine below_set ?_ GE209.out | refine below_set ?_ GE210.out) | exact HB.out))))
    have n1_ := aM (blk_below (g := gb209) (o := .cells #[.int .i64 a0_0, .int .i64 a0_1, .string a0_2, .slice A0_3 l0_3.length c0_3, .slice A0_4 l0_4.length c0_4] 25 (0, 0)) (by (with_reducible repeat (first | refine blk_drewN ?_ _ | refine blk_drew ?_ | refine blk_alloc ?_ _)); exact BK209.out) hb)
    have n2_ := aM (blk_below (g := gb210) (o := .cells #[.int .i64 0, .int .i64 0, .string (⟨#[]⟩ : ByteArray), .slice none 0 0, .slice none 0 0] 31 (0, 0)) (by (with_reducible repeat (first | refine blk_drewN ?_ _ | refine blk_drew ?_ | refine blk_alloc ?_ _)); exact BK210.out) hb)
    have n3_ := aM (below_step (by repeat (first | (with_reducible first | exact HB.out | apply below_alloc | apply pw_below_drewN | apply below_drew1 | refine below_set ?_ GE209.out | refine below_set ?_ GE210.out) | exact HB.out)) hb)
    clear BK209 BK210 HB; have HO213 := n0_; have BK209 := n1_; have BK210 := n2_; have HB := n3_; clear n0_ n1_ n2_ n3_ hb ho7
    refine hK.out _ _ ⟨(blk_cell BK209.out 0).trans rfl, (blk_cell BK209.out 1).trans rfl, (blk_cell BK209.out 2).trans rfl, (blk_cell BK209.out 3).trans rfl, (blk_cell BK209.out 4).trans rfl⟩ (fun hHeld => ?_)
    clear hK K
    refine norm_ (a' := ?_) ?_ ?_
    rotate_left
    ·show Act.put _ (some 11) _ = _
     simp only [Act.put, sA, sB, sC, i64_w, i32_w]; rfl
    refine two_ (i := 9) (j := 11) (Ni := some 14) (Nj := some 3) #[true, true, true, true, true, true, true, true, true, true, false, false, false] #[true, true, true, true, true, true, true, true, true, false, false, true, false] rfl rfl rfl rfl (two_of HT_.out (by kernel_rfl)) (by decide) (by decide) (fun K hK => ?_) (fun K hK => ?_)
    ·skip
     refine Kd.R_append_rows_step Kd.string (w0 := w) w.heap.size (by rfl) (.tmp 11) (.tmp 13) 22 9 (.string ⟨#[]⟩) 16 rfl Tryz.underlying22 info9 rfl (by decide) (by omega) v212 y211 l0_3 _ _ _ (fun _ => True) (fun _ => False) rfl rfl ?aO ?aR (fun _ _ h => h) (fun _ h => h.elim) ?aF ?aB ?aS ?aL ?_
     (case aR => repeat (first | exact (Kd.C_below HR0_3.out HB.out) | (with_reducible refine Kd.C_alloc ?_ _) | (with_reducible refine Kd.C_drewN ?_ _) | (with_reducible refine Kd.C_drew ?_)))
     (case aB => exact (by repeat (first | (with_reducible first | exact HB.out | apply below_alloc | apply pw_below_drewN | apply below_drew1 | refine below_set ?_ GE209.out | refine below_set ?_ GE210.out) | exact HB.out)))
     (case aF => exact (fun _ _ => trivial))
     (case aO => exact (by (with_reducible repeat (first | apply Kd.R_alloc | apply Kd.R_drewN | apply Kd.R_drew)); exact HO213.out))
     (case aS => exact (below_size (by repeat (first | (with_reducible first | exact HB.out | apply below_alloc | apply pw_below_drewN | apply below_drew1 | refine below_set ?_ GE209.out | refine below_set ?_ GE210.out) | exact HB.out))))
     (case aL => have := LMc2.out; omega)
     intro v215 w8 ho hb hg hat
     rw [← Ny214.out] at ho
     have n0_ := aM (blk_grown (g := gb209) (o := .cells #[.int .i64 a0_0, .int .i64 a0_1, .string a0_2, .slice A0_3 l0_3.length c0_3, .slice A0_4 l0_4.length c0_4] 25 (0, 0)) (by (with_reducible repeat (first | refine blk_drewN ?_ _ | refine blk_drew ?_ | refine blk_alloc ?_ _)); exact BK209.out) hg (Kd.R_ne HO213.out BK209.out (by decide)))
     have n1_ := aM (blk_grown (g := gb210) (o := .cells #[.int .i64 0, .int .i64 0, .string (⟨#[]⟩ : ByteArray), .slice none 0 0, .slice none 0 0] 31 (0, 0)) (by (with_reducible repeat (first | refine blk_drewN ?_ _ | refine blk_drew ?_ | refine blk_alloc ?_ _)); exact BK210.out) hg (Kd.R_ne HO213.out BK210.out (by decide)))
     have n2_ := aM (hb)
     have n3_ := aM (ho)
     clear BK209 BK210 HB HO213; have BK209 := n0_; have BK210 := n1_; have HB := n2_; have HO216 := n3_; clear n0_ n1_ n2_ n3_ ho hb hg hat
     obtain ⟨Ao9, co9, eo9⟩ := Kd.R_slice HO216.out
     (first | subst eo9 | (injection eo9 with f1_ f2_ f3_; have f4_ := f1_.symm; have f5_ := f3_.symm; clear f1_ f2_ f3_; subst f4_; subst f5_))
     refine hK.out _ _ ⟨(blk_cell BK209.out 0).trans rfl, (blk_cell BK209.out 1).trans rfl, (blk_cell BK209.out 2).trans rfl, (blk_cell BK209.out 3).trans rfl, (blk_cell BK209.out 4).trans rfl⟩ (fun hHeld => ?_)
     clear hK K
     refine norm_ (a' := ?_) ?_ ?_
     rotate_left
     ·show Act.put _ (some 14) _ = _
      simp only [Act.put, sA, sB, sC, i64_w, i32_w]; rfl
     refine pure_ (i := 10) (N := some 15) (v := ?_) (a' := ?_) #[true, true, true, true, true, true, true, true, true, true, true, false, false] rfl rfl (any_of HT_.out (by kernel_rfl)) (fun _ _ _ h => h) (Or.inl ⟨by rfl, ?_⟩) ?_ ?_
     rotate_left
     ·intro w'; go_simp; with_reducible rfl
     rotate_left
     ·simp only [Act.put, sA, sB, sC, i64_w, i32_w]; rfl
     refine one_ (i := 11) (N := some 3) #[true, true, true, true, true, true, true, true, true, true, true, true, false] rfl rfl (one_of HT_.out (by kernel_rfl)) (by decide) (fun K hK => ?_)
     refine box_step ?hg (N := 3) ?hd (cs := #[.int .i64 0, .int .i64 0, .string (⟨#[]⟩ : ByteArray), .slice none 0 0, .slice none 0 0]) (t := 31) ?hr ?_; (case hd => rfl); (case hg => rfl); (case hr => first | (go_simp; done) | (go_simp; rfl))
     intro gb217 hg w10 hbox hb
     have n0_ := aM (Kd.R_below (by (with_reducible repeat (first | apply Kd.R_alloc | apply Kd.R_drewN | apply Kd.R_drew)); exact HO216.out) hb)
     have n1_ := aM (blk_below (g := gb209) (o := .cells #[.int .i64 a0_0, .int .i64 a0_1, .string a0_2, .slice A0_3 l0_3.length c0_3, .slice A0_4 l0_4.length c0_4] 25 (0, 0)) (by (with_reducible repeat (first | refine blk_drewN ?_ _ | refine blk_drew ?_ | refine blk_alloc ?_ _)); exact BK209.out) hb)
     have n2_ := aM (blk_below (g := gb210) (o := .cells #[.int .i64 0, .int .i64 0, .string (⟨#[]⟩ : ByteArray), .slice none 0 0, .slice none 0 0] 31 (0, 0)) (by (with_reducible repeat (first | refine blk_drewN ?_ _ | refine blk_drew ?_ | refine blk_alloc ?_ _)); exact BK210.out) hb)
     have n3_ := aM (below_step (by repeat (first | (with_reducible first | exact HB.out | apply below_alloc | apply pw_below_drewN | apply below_drew1 | refine below_set ?_ GE209.out | refine below_set ?_ GE210.out) | exact HB.out)) hb)
     have n4_ := aM (hbox)
     have n5_ := aM ((by rw [hg]; exact (below_size (by repeat (first | (with_reducible first | exact HB.out | apply below_alloc | apply pw_below_drewN | apply below_drew1 | refine below_set ?_ GE209.out | refine below_set ?_ GE210.out) | exact HB.out))) : w.heap.size ≤ gb217))
     have n6_ := aM ((by rw [hg]; exact (below_size (by repeat (first | (with_reducible first | exact HB.out | apply below_alloc | apply pw_below_drewN | apply below_drew1 | refine below_set ?_ GE209.out | refine below_set ?_ GE210.out) | exact HB.out))) : w.heap.size ≤ gb217))
     have n7_ := aM ((by rw [hg]; exact Nat.ne_of_lt (blk_lt (g := gb209) (o := .cells #[.int .i64 a0_0, .int .i64 a0_1, .string a0_2, .slice A0_3 l0_3.length c0_3, .slice A0_4 l0_4.length c0_4] 25 (0, 0)) (by (with_reducible repeat (first | refine blk_drewN ?_ _ | refine blk_drew ?_ | refine blk_alloc ?_ _)); exact BK209.out)) : gb209 ≠ gb217))
     have n8_ := aM ((by rw [hg]; exact Nat.ne_of_gt (blk_lt (g := gb209) (o := .cells #[.int .i64 a0_0, .int .i64 a0_1, .string a0_2, .slice A0_3 l0_3.length c0_3, .slice A0_4 l0_4.length c0_4] 25 (0, 0)) (by (with_reducible repeat (first | refine blk_drewN ?_ _ | refine blk_drew ?_ | refine blk_alloc ?_ _)); exact BK209.out)) : gb217 ≠ gb209))
     have n9_ := aM ((by rw [hg]; exact Nat.ne_of_lt (blk_lt (g := gb210) (o := .cells #[.int .i64 0, .int .i64 0, .string (⟨#[]⟩ : ByteArray), .slice none 0 0, .slice none 0 0] 31 (0, 0)) (by (with_reducible repeat (first | refine blk_drewN ?_ _ | refine blk_drew ?_ | refine blk_alloc ?_ _)); exact BK210.out)) : gb210 ≠ gb217))
     have n10_ := aM ((by rw [hg]; exact Nat.ne_of_gt (blk_lt (g := gb210) (o := .cells #[.int .i64 0, .int .i64 0, .string (⟨#[]⟩ : ByteArray), .slice none 0 0, .slice none 0 0] 31 (0, 0)) (by (with_reducible repeat (first | refine blk_drewN ?_ _ | refine blk_drew ?_ | refine blk_alloc ?_ _)); exact BK210.out)) : gb217 ≠ gb210))
     clear HO216 BK209 BK210 HB; have HO216 := n0_; have BK209 := n1_; have BK210 := n2_; have HB := n3_; have BK217 := n4_; have GW217 := n5_; have GE217 := n6_; have NB209_217 := n7_; have NB217_209 := n8_; have NB210_217 := n9_; have NB217_210 := n10_; clear n0_ n1_ n2_ n3_ n4_ n5_ n6_ n7_ n8_ n9_ n10_ hb hbox hg
     refine hK.out _ _ ⟨(blk_cell BK209.out 0).trans rfl, (blk_cell BK209.out 1).trans rfl, (blk_cell BK209.out 2).trans rfl, (blk_cell BK209.out 3).trans rfl, (blk_cell BK209.out 4).trans rfl⟩ (fun hHeld => ?_)
     clear hK K
     refine norm_ (a' := ?_) ?_ ?_
     rotate_left
     ·show Act.put _ (some 3) _ = _
      simp only [Act.put, sA, sB, sC, i64_w, i32_w]; rfl
     exact norm_ (by simp only [putAll, Act.put, sA, sB, sC]) (hCont (v212, .slice Ao9 y214.length co9, gb217) _ ⟨hHeld, (by (with_reducible repeat (first | apply Kd.R_alloc | apply Kd.R_drewN | apply Kd.R_drew)); exact HO216.out), (by (with_reducible repeat (first | refine blk_drewN ?_ _ | refine blk_drew ?_ | refine blk_alloc ?_ _)); exact BK209.out), (by (with_reducible repeat (first | refine blk_drewN ?_ _ | refine blk_drew ?_ | refine blk_alloc ?_ _)); exact BK210.out), (by (with_reducible repeat (first | refine blk_drewN ?_ _ | refine blk_drew ?_ | refine blk_alloc ?_ _)); exact BK217.out), GW217.out, GE217.out, NB209_217.out, NB217_209.out, NB210_217.out, NB217_210.out, (by repeat (first | (with_reducible first | exact HB.out | apply below_alloc | apply pw_below_drewN | apply below_drew1 | refine below_set ?_ GE209.out | refine below_set ?_ GE210.out | refine below_set ?_ GE217.out) | exact HB.out))⟩)
    ·skip
     refine box_step ?hg (N := 3) ?hd (cs := #[.int .i64 0, .int .i64 0, .string (⟨#[]⟩ : ByteArray), .slice none 0 0, .slice none 0 0]) (t := 31) ?hr ?_; (case hd => rfl); (case hg => rfl); (case hr => first | (go_simp; done) | (go_simp; rfl))
     intro gb217 hg w8 hbox hb
     have n0_ := aM (Kd.R_below (by (with_reducible repeat (first | apply Kd.R_alloc | apply Kd.R_drewN | apply Kd.R_drew)); exact HO213.out) hb)
     have n1_ := aM (blk_below (g := gb209) (o := .cells #[.int .i64 a0_0, .int .i64 a0_1, .string a0_2, .slice A0_3 l0_3.length c0_3, .slice A0_4 l0_4.length c0_4] 25 (0, 0)) (by (with_reducible repeat (first | refine blk_drewN ?_ _ | refine blk_drew ?_ | refine blk_alloc ?_ _)); exact BK209.out) hb)
     have n2_ := aM (blk_below (g := gb210) (o := .cells #[.int .i64 0, .int .i64 0, .string (⟨#[]⟩ : ByteArray), .slice none 0 0, .slice none 0 0] 31 (0, 0)) (by (with_reducible repeat (first | refine blk_drewN ?_ _ | refine blk_drew ?_ | refine blk_alloc ?_ _)); exact BK210.out) hb)
     have n3_ := aM (below_step (by repeat (first | (with_reducible first | exact HB.out | apply below_alloc | apply pw_below_drewN | apply below_drew1 | refine below_set ?_ GE209.out | refine below_set ?_ GE210.out) | exact HB.out)) hb)
     have n4_ := aM (hbox)
     have n5_ := aM ((by rw [hg]; exact (below_size (by repeat (first | (with_reducible first | exact HB.out | apply below_alloc | apply pw_below_drewN | apply below_drew1 | refine below_set ?_ GE209.out | refine below_set ?_ GE210.out) | exact HB.out))) : w.heap.size ≤ gb217))
     have n6_ := aM ((by rw [hg]; exact (below_size (by repeat (first | (with_reducible first | exact HB.out | apply below_alloc | apply pw_below_drewN | apply below_drew1 | refine below_set ?_ GE209.out | refine below_set ?_ GE210.out) | exact HB.out))) : w.heap.size ≤ gb217))
     have n7_ := aM ((by rw [hg]; exact Nat.ne_of_lt (blk_lt (g := gb209) (o := .cells #[.int .i64 a0_0, .int .i64 a0_1, .string a0_2, .slice A0_3 l0_3.length c0_3, .slice A0_4 l0_4.length c0_4] 25 (0, 0)) (by (with_reducible repeat (first | refine blk_drewN ?_ _ | refine blk_drew ?_ | refine blk_alloc ?_ _)); exact BK209.out)) : gb209 ≠ gb217))
     have n8_ := aM ((by rw [hg]; exact Nat.ne_of_gt (blk_lt (g := gb209) (o := .cells #[.int .i64 a0_0, .int .i64 a0_1, .string a0_2, .slice A0_3 l0_3.length c0_3, .slice A0_4 l0_4.length c0_4] 25 (0, 0)) (by (with_reducible repeat (first | refine blk_drewN ?_ _ | refine blk_drew ?_ | refine blk_alloc ?_ _)); exact BK209.out)) : gb217 ≠ gb209))
     have n9_ := aM ((by rw [hg]; exact Nat.ne_of_lt (blk_lt (g := gb210) (o := .cells #[.int .i64 0, .int .i64 0, .string (⟨#[]⟩ : ByteArray), .slice none 0 0, .slice none 0 0] 31 (0, 0)) (by (with_reducible repeat (first | refine blk_drewN ?_ _ | refine blk_drew ?_ | refine blk_alloc ?_ _)); exact BK210.out)) : gb210 ≠ gb217))
     have n10_ := aM ((by rw [hg]; exact Nat.ne_of_gt (blk_lt (g := gb210) (o := .cells #[.int .i64 0, .int .i64 0, .string (⟨#[]⟩ : ByteArray), .slice none 0 0, .slice none 0 0] 31 (0, 0)) (by (with_reducible repeat (first | refine blk_drewN ?_ _ | refine blk_drew ?_ | refine blk_alloc ?_ _)); exact BK210.out)) : gb217 ≠ gb210))
     clear HO213 BK209 BK210 HB; have HO213 := n0_; have BK209 := n1_; have BK210 := n2_; have HB := n3_; have BK217 := n4_; have GW217 := n5_; have GE217 := n6_; have NB209_217 := n7_; have NB217_209 := n8_; have NB210_217 := n9_; have NB217_210 := n10_; clear n0_ n1_ n2_ n3_ n4_ n5_ n6_ n7_ n8_ n9_ n10_ hb hbox hg
     refine hK.out _ _ ⟨(blk_cell BK209.out 0).trans rfl, (blk_cell BK209.out 1).trans rfl, (blk_cell BK209.out 2).trans rfl, (blk_cell BK209.out 3).trans rfl, (blk_cell BK209.out 4).trans rfl⟩ (fun hHeld => ?_)
     clear hK K
     refine norm_ (a' := ?_) ?_ ?_
     rotate_left
     ·show Act.put _ (some 3) _ = _
      simp only [Act.put, sA, sB, sC, i64_w, i32_w]; rfl
     refine one_ (i := 9) (N := some 14) #[true, true, true, true, true, true, true, true, true, true, false, true, false] rfl rfl (one_of HT_.out (by kernel_rfl)) (by decide) (fun K hK => ?_)
     refine Kd.R_append_rows_step Kd.string (w0 := w) w.heap.size (by rfl) (.tmp 11) (.tmp 13) 22 9 (.string ⟨#[]⟩) 16 rfl Tryz.underlying22 info9 rfl (by decide) (by omega) v212 y211 l0_3 _ _ _ (fun _ => True) (fun _ => False) rfl rfl ?aO ?aR (fun _ _ h => h) (fun _ h => h.elim) ?aF ?aB ?aS ?aL ?_
     (case aR => repeat (first | exact (Kd.C_below HR0_3.out HB.out) | (with_reducible refine Kd.C_alloc ?_ _) | (with_reducible refine Kd.C_drewN ?_ _) | (with_reducible refine Kd.C_drew ?_)))
     (case aB => exact (by repeat (first | (with_reducible first | exact HB.out | apply below_alloc | apply pw_below_drewN | apply below_drew1 | refine below_set ?_ GE209.out | refine below_set ?_ GE210.out | refine below_set ?_ GE217.out) | exact HB.out)))
     (case aF => exact (fun _ _ => trivial))
     (case aO => exact (by (with_reducible repeat (first | apply Kd.R_alloc | apply Kd.R_drewN | apply Kd.R_drew)); exact HO213.out))
     (case aS => exact (below_size (by repeat (first | (with_reducible first | exact HB.out | apply below_alloc | apply pw_below_drewN | apply below_drew1 | refine below_set ?_ GE209.out | refine below_set ?_ GE210.out | refine below_set ?_ GE217.out) | exact HB.out))))
     (case aL => have := LMc2.out; omega)
     intro v215 w9 ho hb hg hat
     rw [← Ny214.out] at ho
     have n0_ := aM (blk_grown (g := gb209) (o := .cells #[.int .i64 a0_0, .int .i64 a0_1, .string a0_2, .slice A0_3 l0_3.length c0_3, .slice A0_4 l0_4.length c0_4] 25 (0, 0)) (by (with_reducible repeat (first | refine blk_drewN ?_ _ | refine blk_drew ?_ | refine blk_alloc ?_ _)); exact BK209.out) hg (Kd.R_ne HO213.out BK209.out (by decide)))
     have n1_ := aM (blk_grown (g := gb210) (o := .cells #[.int .i64 0, .int .i64 0, .string (⟨#[]⟩ : ByteArray), .slice none 0 0, .slice none 0 0] 31 (0, 0)) (by (with_reducible repeat (first | refine blk_drewN ?_ _ | refine blk_drew ?_ | refine blk_alloc ?_ _)); exact BK210.out) hg (Kd.R_ne HO213.out BK210.out (by decide)))
     have n2_ := aM (blk_grown (g := gb217) (o := .cells #[.int .i64 0, .int .i64 0, .string (⟨#[]⟩ : ByteArray), .slice none 0 0, .slice none 0 0] 31 (0, 0)) (by (with_reducible repeat (first | refine blk_drewN ?_ _ | refine blk_drew ?_ | refine blk_alloc ?_ _)); exact BK217.out) hg (Kd.R_ne HO213.out BK217.out (by decide)))
     have n3_ := aM (hb)
     have n4_ := aM (ho)
     clear BK209 BK210 BK217 HB HO213; have BK209 := n0_; have BK210 := n1_; have BK217 := n2_; have HB := n3_; have HO216 := n4_; clear n0_ n1_ n2_ n3_ n4_ ho hb hg hat
     obtain ⟨Ao10, co10, eo10⟩ := Kd.R_slice HO216.out
     (first | subst eo10 | (injection eo10 with f1_ f2_ f3_; have f4_ := f1_.symm; have f5_ := f3_.symm; clear f1_ f2_ f3_; subst f4_; subst f5_))
     refine hK.out _ _ ⟨(blk_cell BK209.out 0).trans rfl, (blk_cell BK209.out 1).trans rfl, (blk_cell BK209.out 2).trans rfl, (blk_cell BK209.out 3).trans rfl, (blk_cell BK209.out 4).trans rfl⟩ (fun hHeld => ?_)
     clear hK K
     refine norm_ (a' := ?_) ?_ ?_
     rotate_left
     ·show Act.put _ (some 14) _ = _
      simp only [Act.put, sA, sB, sC, i64_w, i32_w]; rfl
     refine pure_ (i := 10) (N := some 15) (v := ?_) (a' := ?_) #[true, true, true, true, true, true, true, true, true, true, true, true, false] rfl rfl (any_of HT_.out (by kernel_rfl)) (fun _ _ _ h => h) (Or.inl ⟨by rfl, ?_⟩) ?_ ?_
     rotate_left
     ·intro w'; go_simp; with_reducible rfl
     rotate_left
     ·simp only [Act.put, sA, sB, sC, i64_w, i32_w]; rfl
     exact norm_ (by simp only [putAll, Act.put, sA, sB, sC]) (hCont (v212, .slice Ao10 y214.length co10, gb217) _ ⟨hHeld, (by (with_reducible repeat (first | apply Kd.R_alloc | apply Kd.R_drewN | apply Kd.R_drew)); exact HO216.out), (by (with_reducible repeat (first | refine blk_drewN ?_ _ | refine blk_drew ?_ | refine blk_alloc ?_ _)); exact BK209.out), (by (with_reducible repeat (first | refine blk_drewN ?_ _ | refine blk_drew ?_ | refine blk_alloc ?_ _)); exact BK210.out), (by (with_reducible repeat (first | refine blk_drewN ?_ _ | refine blk_drew ?_ | refine blk_alloc ?_ _)); exact BK217.out), GW217.out, GE217.out, NB209_217.out, NB217_209.out, NB210_217.out, NB217_210.out, (by repeat (first | (with_reducible first | exact HB.out | apply below_alloc | apply pw_below_drewN | apply below_drew1 | refine below_set ?_ GE209.out | refine below_set ?_ GE210.out | refine below_set ?_ GE217.out) | exact HB.out))⟩)
   ·skip
    refine box_step ?hg (N := 3) ?hd (cs := #[.int .i64 0, .int .i64 0, .string (⟨#[]⟩ : ByteArray), .slice none 0 0, .slice none 0 0]) (t := 31) ?hr ?_; (case hd => rfl); (case hg => rfl); (case hr => first | (go_simp; done) | (go_simp; rfl))
    intro gb217 hg w6 hbox hb
    have n0_ := aM (blk_below (g := gb209) (o := .cells #[.int .i64 a0_0, .int .i64 a0_1, .string a0_2, .slice A0_3 l0_3.length c0_3, .slice A0_4 l0_4.length c0_4] 25 (0, 0)) (by (with_reducible repeat (first | refine blk_drewN ?_ _ | refine blk_drew ?_ | refine blk_alloc ?_ _)); exact BK209.out) hb)
    have n1_ := aM (blk_below (g := gb210) (o := .cells #[.int .i64 0, .int .i64 0, .string (⟨#[]⟩ : ByteArray), .slice none 0 0, .slice none 0 0] 31 (0, 0)) (by (with_reducible repeat (first | refine blk_drewN ?_ _ | refine blk_drew ?_ | refine blk_alloc ?_ _)); exact BK210.out) hb)
    have n2_ := aM (below_step (by repeat (first | (with_reducible first | exact HB.out | apply below_alloc | apply pw_below_drewN | apply below_drew1 | refine below_set ?_ GE209.out | refine below_set ?_ GE210.out) | exact HB.out)) hb)
    have n3_ := aM (hbox)
    have n4_ := aM ((by rw [hg]; exact (below_size (by repeat (first | (with_reducible first | exact HB.out | apply below_alloc | apply pw_below_drewN | apply below_drew1 | refine below_set ?_ GE209.out | refine below_set ?_ GE210.out) | exact HB.out))) : w.heap.size ≤ gb217))
    have n5_ := aM ((by rw [hg]; exact (below_size (by repeat (first | (with_reducible first | exact HB.out | apply below_alloc | apply pw_below_drewN | apply below_drew1 | refine below_set ?_ GE209.out | refine below_set ?_ GE210.out) | exact HB.out))) : w.heap.size ≤ gb217))
    have n6_ := aM ((by rw [hg]; exact Nat.ne_of_lt (blk_lt (g := gb209) (o := .cells #[.int .i64 a0_0, .int .i64 a0_1, .string a0_2, .slice A0_3 l0_3.length c0_3, .slice A0_4 l0_4.length c0_4] 25 (0, 0)) (by (with_reducible repeat (first | refine blk_drewN ?_ _ | refine blk_drew ?_ | refine blk_alloc ?_ _)); exact BK209.out)) : gb209 ≠ gb217))
    have n7_ := aM ((by rw [hg]; exact Nat.ne_of_gt (blk_lt (g := gb209) (o := .cells #[.int .i64 a0_0, .int .i64 a0_1, .string a0_2, .slice A0_3 l0_3.length c0_3, .slice A0_4 l0_4.length c0_4] 25 (0, 0)) (by (with_reducible repeat (first | refine blk_drewN ?_ _ | refine blk_drew ?_ | refine blk_alloc ?_ _)); exact BK209.out)) : gb217 ≠ gb209))
    have n8_ := aM ((by rw [hg]; exact Nat.ne_of_lt (blk_lt (g := gb210) (o := .cells #[.int .i64 0, .int .i64 0, .string (⟨#[]⟩ : ByteArray), .slice none 0 0, .slice none 0 0] 31 (0, 0)) (by (with_reducible repeat (first | refine blk_drewN ?_ _ | refine blk_drew ?_ | refine blk_alloc ?_ _)); exact BK210.out)) : gb210 ≠ gb217))
    have n9_ := aM ((by rw [hg]; exact Nat.ne_of_gt (blk_lt (g := gb210) (o := .cells #[.int .i64 0, .int .i64 0, .string (⟨#[]⟩ : ByteArray), .slice none 0 0, .slice none 0 0] 31 (0, 0)) (by (with_reducible repeat (first | refine blk_drewN ?_ _ | refine blk_drew ?_ | refine blk_alloc ?_ _)); exact BK210.out)) : gb217 ≠ gb210))
    clear BK209 BK210 HB; have BK209 := n0_; have BK210 := n1_; have HB := n2_; have BK217 := n3_; have GW217 := n4_; have GE217 := n5_; have NB209_217 := n6_; have NB217_209 := n7_; have NB210_217 := n8_; have NB217_210 := n9_; clear n0_ n1_ n2_ n3_ n4_ n5_ n6_ n7_ n8_ n9_ hb hbox hg
    refine hK.out _ _ ⟨(blk_cell BK209.out 0).trans rfl, (blk_cell BK209.out 1).trans rfl, (blk_cell BK209.out 2).trans rfl, (blk_cell BK209.out 3).trans rfl, (blk_cell BK209.out 4).trans rfl⟩ (fun hHeld => ?_)
    clear hK K
    refine norm_ (a' := ?_) ?_ ?_
    rotate_left
    ·show Act.put _ (some 3) _ = _
     simp only [Act.put, sA, sB, sC, i64_w, i32_w]; rfl
    refine one_ (i := 6) (N := some 11) #[true, true, true, true, true, true, true, true, true, false, false, true, false] rfl rfl (one_of HT_.out (by kernel_rfl)) (by decide) (fun K hK => ?_)
    refine Kd.R_lit_step Kd.string _ 9 ?hg (N := 11) ?hd (xs := ([] : List ByteArray)) (inner := []) (ok := fun _ => True) (okp := fun _ => True) ?hr ?hp (fun _ hk => hk) trivial (Below.refl _ _) (Nat.le_refl _) (by simp) ?_; (case hd => rfl); (case hg => rfl); (case hr => first | (go_simp; done) | (go_simp; rfl)); (case hp => exact (Reps.none _ _))
    intro v212 w7 ho8 hb hg_ hnew_; clear hg_ hnew_
    (first | rw [← Ny211.out] at ho8 | (simp only [Int.reduceToNat] at ho8; rw [← Ny211.out] at ho8))
    have n0_ := aM (Kd.R_lower ho8 (below_size (by repeat (first | (with_reducible first | exact HB.out | apply below_alloc | apply pw_below_drewN | apply below_drew1 | refine below_set ?_ GE209.out | refine below_set ?_ GE210.out | refine below_set ?_ GE217.out) | exact HB.out))))
    have n1_ := aM (blk_below (g := gb209) (o := .cells #[.int .i64 a0_0, .int .i64 a0_1, .string a0_2, .slice A0_3 l0_3.length c0_3, .slice A0_4 l0_4.length c0_4] 25 (0, 0)) (by (with_reducible repeat (first | refine blk_drewN ?_ _ | refine blk_drew ?_ | refine blk_alloc ?_ _)); exact BK209.out) hb)
    have n2_ := aM (blk_below (g := gb210) (o := .cells #[.int .i64 0, .int .i64 0, .string (⟨#[]⟩ : ByteArray), .slice none 0 0, .slice none 0 0] 31 (0, 0)) (by (with_reducible repeat (first | refine blk_drewN ?_ _ | refine blk_drew ?_ | refine blk_alloc ?_ _)); exact BK210.out) hb)
    have n3_ := aM (blk_below (g := gb217) (o := .cells #[.int .i64 0, .int .i64 0, .string (⟨#[]⟩ : ByteArray), .slice none 0 0, .slice none 0 0] 31 (0, 0)) (by (with_reducible repeat (first | refine blk_drewN ?_ _ | refine blk_drew ?_ | refine blk_alloc ?_ _)); exact BK217.out) hb)
    have n4_ := aM (below_step (by repeat (first | (with_reducible first | exact HB.out | apply below_alloc | apply pw_below_drewN | apply below_drew1 | refine below_set ?_ GE209.out | refine below_set ?_ GE210.out | refine below_set ?_ GE217.out) | exact HB.out)) hb)
    clear BK209 BK210 BK217 HB; have HO213 := n0_; have BK209 := n1_; have BK210 := n2_; have BK217 := n3_; have HB := n4_; clear n0_ n1_ n2_ n3_ n4_ hb ho8
    refine hK.out _ _ ⟨(blk_cell BK209.out 0).trans rfl, (blk_cell BK209.out 1).trans rfl, (blk_cell BK209.out 2).trans rfl, (blk_cell BK209.out 3).trans rfl, (blk_cell BK209.out 4).trans rfl⟩ (fun hHeld => ?_)
    clear hK K
    refine norm_ (a' := ?_) ?_ ?_
    rotate_left
    ·show Act.put _ (some 11) _ = _
     simp only [Act.put, sA, sB, sC, i64_w, i32_w]; rfl
    refine one_ (i := 9) (N := some 14) #[true, true, true, true, true, true, true, true, true, true, false, true, false] rfl rfl (one_of HT_.out (by kernel_rfl)) (by decide) (fun K hK => ?_)
    refine Kd.R_append_rows_step Kd.string (w0 := w) w.heap.size (by rfl) (.tmp 11) (.tmp 13) 22 9 (.string ⟨#[]⟩) 16 rfl Tryz.underlying22 info9 rfl (by decide) (by omega) v212 y211 l0_3 _ _ _ (fun _ => True) (fun _ => False) rfl rfl ?aO ?aR (fun _ _ h => h) (fun _ h => h.elim) ?aF ?aB ?aS ?aL ?_
    (case aR => repeat (first | exact (Kd.C_below HR0_3.out HB.out) | (with_reducible refine Kd.C_alloc ?_ _) | (with_reducible refine Kd.C_drewN ?_ _) | (with_reducible refine Kd.C_drew ?_)))
    (case aB => exact (by repeat (first | (with_reducible first | exact HB.out | apply below_alloc | apply pw_below_drewN | apply below_drew1 | refine below_set ?_ GE209.out | refine below_set ?_ GE210.out | refine below_set ?_ GE217.out) | exact HB.out)))
    (case aF => exact (fun _ _ => trivial))
    (case aO => exact (by (with_reducible repeat (first | apply Kd.R_alloc | apply Kd.R_drewN | apply Kd.R_drew)); exact HO213.out))
    (case aS => exact (below_size (by repeat (first | (with_reducible first | exact HB.out | apply below_alloc | apply pw_below_drewN | apply below_drew1 | refine below_set ?_ GE209.out | refine below_set ?_ GE210.out | refine below_set ?_ GE217.out) | exact HB.out))))
    (case aL => have := LMc2.out; omega)
    intro v215 w9 ho hb hg hat
    rw [← Ny214.out] at ho
    have n0_ := aM (blk_grown (g := gb209) (o := .cells #[.int .i64 a0_0, .int .i64 a0_1, .string a0_2, .slice A0_3 l0_3.length c0_3, .slice A0_4 l0_4.length c0_4] 25 (0, 0)) (by (with_reducible repeat (first | refine blk_drewN ?_ _ | refine blk_drew ?_ | refine blk_alloc ?_ _)); exact BK209.out) hg (Kd.R_ne HO213.out BK209.out (by decide)))
    have n1_ := aM (blk_grown (g := gb210) (o := .cells #[.int .i64 0, .int .i64 0, .string (⟨#[]⟩ : ByteArray), .slice none 0 0, .slice none 0 0] 31 (0, 0)) (by (with_reducible repeat (first | refine blk_drewN ?_ _ | refine blk_drew ?_ | refine blk_alloc ?_ _)); exact BK210.out) hg (Kd.R_ne HO213.out BK210.out (by decide)))
    have n2_ := aM (blk_grown (g := gb217) (o := .cells #[.int .i64 0, .int .i64 0, .string (⟨#[]⟩ : ByteArray), .slice none 0 0, .slice none 0 0] 31 (0, 0)) (by (with_reducible repeat (first | refine blk_drewN ?_ _ | refine blk_drew ?_ | refine blk_alloc ?_ _)); exact BK217.out) hg (Kd.R_ne HO213.out BK217.out (by decide)))
    have n3_ := aM (hb)
    have n4_ := aM (ho)
    clear BK209 BK210 BK217 HB HO213; have BK209 := n0_; have BK210 := n1_; have BK217 := n2_; have HB := n3_; have HO216 := n4_; clear n0_ n1_ n2_ n3_ n4_ ho hb hg hat
    obtain ⟨Ao10, co10, eo10⟩ := Kd.R_slice HO216.out
    (first | subst eo10 | (injection eo10 with f1_ f2_ f3_; have f4_ := f1_.symm; have f5_ := f3_.symm; clear f1_ f2_ f3_; subst f4_; subst f5_))
    refine hK.out _ _ ⟨(blk_cell BK209.out 0).trans rfl, (blk_cell BK209.out 1).trans rfl, (blk_cell BK209.out 2).trans rfl, (blk_cell BK209.out 3).trans rfl, (blk_cell BK209.out 4).trans rfl⟩ (fun hHeld => ?_)
    clear hK K
    refine norm_ (a' := ?_) ?_ ?_
    rotate_left
    ·show Act.put _ (some 14) _ = _
     simp only [Act.put, sA, sB, sC, i64_w, i32_w]; rfl
    refine pure_ (i := 10) (N := some 15) (v := ?_) (a' := ?_) #[true, true, true, true, true, true, true, true, true, true, true, true, false] rfl rfl (any_of HT_.out (by kernel_rfl)) (fun _ _ _ h => h) (Or.inl ⟨by rfl, ?_⟩) ?_ ?_
    rotate_left
    ·intro w'; go_simp; with_reducible rfl
    rotate_left
    ·simp only [Act.put, sA, sB, sC, i64_w, i32_w]; rfl
    exact norm_ (by simp only [putAll, Act.put, sA, sB, sC]) (hCont (v212, .slice Ao10 y214.length co10, gb217) _ ⟨hHeld, (by (with_reducible repeat (first | apply Kd.R_alloc | apply Kd.R_drewN | apply Kd.R_drew)); exact HO216.out), (by (with_reducible repeat (first | refine blk_drewN ?_ _ | refine blk_drew ?_ | refine blk_alloc ?_ _)); exact BK209.out), (by (with_reducible repeat (first | refine blk_drewN ?_ _ | refine blk_drew ?_ | refine blk_alloc ?_ _)); exact BK210.out), (by (with_reducible repeat (first | refine blk_drewN ?_ _ | refine blk_drew ?_ | refine blk_alloc ?_ _)); exact BK217.out), GW217.out, GE217.out, NB209_217.out, NB217_209.out, NB210_217.out, NB217_210.out, (by repeat (first | (with_reducible first | exact HB.out | apply below_alloc | apply pw_below_drewN | apply below_drew1 | refine below_set ?_ GE209.out | refine below_set ?_ GE210.out | refine below_set ?_ GE217.out) | exact HB.out))⟩)
  rintro ⟨v212, v215, gb217⟩ w11 ⟨hS_, h0_, h1_, h2_, h3_, h4_, h5_, h6_, h7_, h8_, h9_, h10_⟩
  have n0_ : Aside0 (Kd.R Kd.string 9 w11 w.heap.size (fun _ => True) v215 y214) := ⟨h0_⟩
  have n1_ : Aside0 (w11.heap[gb209]? = some (.cells #[.int .i64 a0_0, .int .i64 a0_1, .string a0_2, .slice A0_3 l0_3.length c0_3, .slice A0_4 l0_4.length c0_4] 25 (0, 0))) := ⟨h1_⟩
  have n2_ : Aside0 (w11.heap[gb210]? = some (.cells #[.int .i64 0, .int .i64 0, .string (⟨#[]⟩ : ByteArray), .slice none 0 0, .slice none 0 0] 31 (0, 0))) := ⟨h2_⟩
  have n3_ : Aside0 (w11.heap[gb217]? = some (.cells #[.int .i64 0, .int .i64 0, .string (⟨#[]⟩ : ByteArray), .slice none 0 0, .slice none 0 0] 31 (0, 0))) := ⟨h3_⟩
  have n4_ : Aside0 (w.heap.size ≤ gb217) := ⟨h4_⟩
  have n5_ : Aside0 (w.heap.size ≤ gb217) := ⟨h5_⟩
  have n6_ : Aside0 (gb209 ≠ gb217) := ⟨h6_⟩
  have n7_ : Aside0 (gb217 ≠ gb209) := ⟨h7_⟩
  have n8_ : Aside0 (gb210 ≠ gb217) := ⟨h8_⟩
  have n9_ : Aside0 (gb217 ≠ gb210) := ⟨h9_⟩
  have n10_ : Aside0 (Below w.heap.size w w11) := ⟨h10_⟩
  clear BK209 BK210 HB h0_ h1_ h2_ h3_ h4_ h5_ h6_ h7_ h8_ h9_ h10_; have HO216 := n0_; have BK209 := n1_; have BK210 := n2_; have BK217 := n3_; have GW217 := n4_; have GE217 := n5_; have NB209_217 := n6_; have NB217_209 := n7_; have NB210_217 := n8_; have NB217_210 := n9_; have HB := n10_; clear n0_ n1_ n2_ n3_ n4_ n5_ n6_ n7_ n8_ n9_ n10_
  have hHeld : w11.cell? ⟨gb209, 0, none⟩ = some (.int .i64 a0_0) ∧ w11.cell? ⟨gb209, 1, none⟩ = some (.int .i64 a0_1) ∧ w11.cell? ⟨gb209, 2, none⟩ = some (.string a0_2) ∧ w11.cell? ⟨gb209, 3, none⟩ = some (.slice A0_3 l0_3.length c0_3) ∧ w11.cell? ⟨gb209, 4, none⟩ = some (.slice A0_4 l0_4.length c0_4) := hS_
  obtain ⟨Ao12, co12, eo12⟩ := Kd.R_slice HO216.out
  (first | subst eo12 | (injection eo12 with f1_ f2_ f3_; have f4_ := f1_.symm; have f5_ := f3_.symm; clear f1_ f2_ f3_; subst f4_; subst f5_))
  refine norm_ (a' := ?_) ?_ ?_
  rotate_left
  ·simp only [putAll, Act.put, sA, sB, sC]
   rfl
  refine one_ (i := 12) (N := none) #[true, true, true, true, true, true, true, true, true, true, true, true, true] rfl rfl (one_of HT_.out (by kernel_rfl)) (by decide) (fun K hK => ?_)
  have hs13 : w11.cell? ⟨gb217, 0, none⟩ = some (.int .i64 0) := (blk_cell BK217.out 0).trans rfl
  have hfs13 := blk_frozen BK217.out 0
  have hns13_0 := NB209_217.out
  have hns13_1 := NB210_217.out
  have hms13_0 := NB217_209.out
  have hms13_1 := NB217_210.out
  have hs14 : w11.cell? ⟨gb217, 1, none⟩ = some (.int .i64 0) := (blk_cell BK217.out 1).trans rfl
  have hfs14 := blk_frozen BK217.out 1
  have hns14_0 := NB209_217.out
  have hns14_1 := NB210_217.out
  have hms14_0 := NB217_209.out
  have hms14_1 := NB217_210.out
  have hs15 : w11.cell? ⟨gb217, 2, none⟩ = some (.string (⟨#[]⟩ : ByteArray)) := (blk_cell BK217.out 2).trans rfl
  have hfs15 := blk_frozen BK217.out 2
  have hns15_0 := NB209_217.out
  have hns15_1 := NB210_217.out
  have hms15_0 := NB217_209.out
  have hms15_1 := NB217_210.out
  have hs16 : w11.cell? ⟨gb217, 3, none⟩ = some (.slice none 0 0) := (blk_cell BK217.out 3).trans rfl
  have hfs16 := blk_frozen BK217.out 3
  have hns16_0 := NB209_217.out
  have hns16_1 := NB210_217.out
  have hms16_0 := NB217_209.out
  have hms16_1 := NB217_210.out
  have hs17 : w11.cell? ⟨gb217, 4, none⟩ = some (.slice none 0 0) := (blk_cell BK217.out 4).trans rfl
  have hfs17 := blk_frozen BK217.out 4
  have hns17_0 := NB209_217.out
  have hns17_1 := NB210_217.out
  have hms17_0 := NB217_209.out
  have hms17_1 := NB217_210.out
  refine skip_ (w1 := ?_) (by rfl) rfl ?_ ?_
  rotate_left
  ·go_simp; rfl
  refine hK.out _ _ ⟨((cell_far (p := ⟨gb217, _, none⟩) NB209_217.out _).trans (((cell_far (p := ⟨gb217, _, none⟩) NB209_217.out _).trans (((cell_far (p := ⟨gb217, _, none⟩) NB209_217.out _).trans (((cell_far (p := ⟨gb217, _, none⟩) NB209_217.out _).trans (((cell_far (p := ⟨gb217, _, none⟩) NB209_217.out _).trans (hHeld.1)))))))))), ((cell_far (p := ⟨gb217, _, none⟩) NB209_217.out _).trans (((cell_far (p := ⟨gb217, _, none⟩) NB209_217.out _).trans (((cell_far (p := ⟨gb217, _, none⟩) NB209_217.out _).trans (((cell_far (p := ⟨gb217, _, none⟩) NB209_217.out _).trans (((cell_far (p := ⟨gb217, _, none⟩) NB209_217.out _).trans (hHeld.2.1)))))))))), ((cell_far (p := ⟨gb217, _, none⟩) NB209_217.out _).trans (((cell_far (p := ⟨gb217, _, none⟩) NB209_217.out _).trans (((cell_far (p := ⟨gb217, _, none⟩) NB209_217.out _).trans (((cell_far (p := ⟨gb217, _, none⟩) NB209_217.out _).trans (((cell_far (p := ⟨gb217, _, none⟩) NB209_217.out _).trans (hHeld.2.2.1)))))))))), ((cell_far (p := ⟨gb217, _, none⟩) NB209_217.out _).trans (((cell_far (p := ⟨gb217, _, none⟩) NB209_217.out _).trans (((cell_far (p := ⟨gb217, _, none⟩) NB209_217.out _).trans (((cell_far (p := ⟨gb217, _, none⟩) NB209_217.out _).trans (((cell_far (p := ⟨gb217, _, none⟩) NB209_217.out _).trans (hHeld.2.2.2.1)))))))))), ((cell_far (p := ⟨gb217, _, none⟩) NB209_217.out _).trans (((cell_far (p := ⟨gb217, _, none⟩) NB209_217.out _).trans (((cell_far (p := ⟨gb217, _, none⟩) NB209_217.out _).trans (((cell_far (p := ⟨gb217, _, none⟩) NB209_217.out _).trans (((cell_far (p := ⟨gb217, _, none⟩) NB209_217.out _).trans (hHeld.2.2.2.2))))))))))⟩ (fun hHeld => ?_)
  clear hK K
  refine done_ (done_of HT_.out (by kernel_rfl)) ?_
  try go_wp2
  go_loopg [4] k (fun kq v4 w' => ∃ (x4_1 : Int) (x218004_1 : List (S31)) (u218004 : Value), v4 = .int .i64 x4_1 ∧ Aside0 (laws_to.l0 kq x4_1 a0_0 a0_1 a0_2 l0_3 l0_4 a0_0 a0_1 a0_2 y214 x218004_1 = some (r1, r2, r3, r4, r5)) ∧ Aside0 (kq ≤ k) ∧ Aside0 (Kd.R Kd.string 9 w' w.heap.size (fun _ => True) (.slice Ao12 y214.length co12) y214) ∧ Aside0 (Kd.R k31 31 w' w.heap.size (fun k_ => some k_ ≠ ((.slice Ao12 y214.length co12) : Value).ownBlock ∧ k_ ≠ gb210 ∧ k_ ≠ gb217) u218004 x218004_1) ∧ Aside0 (w'.heap[gb209]? = some (.cells #[.int .i64 a0_0, .int .i64 a0_1, .string a0_2, (.slice A0_3 l0_3.length c0_3), (.slice A0_4 l0_4.length c0_4)] 25 (0, 0))) ∧ Aside0 (w'.heap[gb210]? = some (.cells #[.int .i64 0, .int .i64 0, .string (⟨#[]⟩ : ByteArray), (.slice none 0 0), (.slice none 0 0)] 31 (0, 0))) ∧ Aside0 (w'.heap[gb217]? = some (.cells #[.int .i64 a0_0, .int .i64 a0_1, .string a0_2, (.slice Ao12 y214.length co12), u218004] 31 (0, 0))) ∧ Aside0 (Below w.heap.size w w'))
  case atStart => exact ⟨(0), (([] : List (S31))), (.slice none 0 0), (by first | rfl | (simp; done) | (simp [*]; done)), H', ⟨Nat.le_refl _⟩, ⟨by (with_reducible repeat (first | apply Kd.R_alloc | apply Kd.R_drewN | apply Kd.R_drew)); exact Kd.R_mono (Kd.R_far (p := ⟨gb217, 4, none⟩) (Kd.R_far (p := ⟨gb217, 3, none⟩) (Kd.R_far (p := ⟨gb217, 2, none⟩) (Kd.R_far (p := ⟨gb217, 1, none⟩) (Kd.R_far (p := ⟨gb217, 0, none⟩) (Kd.R_types HO216.out BK217.out (by decide)) (fun _ hk => hk.2) (.int .i64 a0_0)) (fun _ hk => hk.2) (.int .i64 a0_1)) (fun _ hk => hk.2) (.string a0_2)) (fun _ hk => hk.2) (.slice Ao12 y214.length co12)) (fun _ hk => hk.2) (.slice none 0 0)) (fun _ hk => trivial)⟩, ⟨by first | exact Kd.R_nil _ _ _ _ _ | exact Kd.N_nil _ _ _ _ _ | exact Kd.V_nil _ _ _ _ _ | exact Kd.Q_nil _ _ _ _ _ | exact Kd.S_nil _ _ _ _ _⟩, ⟨by (with_reducible repeat (first | refine blk_drewN ?_ _ | refine blk_drew ?_ | refine blk_alloc ?_ _)); refine blk_far ?_ NB209_217.out _; (with_reducible repeat (first | refine blk_drewN ?_ _ | refine blk_drew ?_ | refine blk_alloc ?_ _)); refine blk_far ?_ NB209_217.out _; (with_reducible repeat (first | refine blk_drewN ?_ _ | refine blk_drew ?_ | refine blk_alloc ?_ _)); refine blk_far ?_ NB209_217.out _; (with_reducible repeat (first | refine blk_drewN ?_ _ | refine blk_drew ?_ | refine blk_alloc ?_ _)); refine blk_far ?_ NB209_217.out _; (with_reducible repeat (first | refine blk_drewN ?_ _ | refine blk_drew ?_ | refine blk_alloc ?_ _)); refine blk_far ?_ NB209_217.out _; (with_reducible repeat (first | refine blk_drewN ?_ _ | refine blk_drew ?_ | refine blk_alloc ?_ _)); exact BK209.out⟩, ⟨by (with_reducible repeat (first | refine blk_drewN ?_ _ | refine blk_drew ?_ | refine blk_alloc ?_ _)); refine blk_far ?_ NB210_217.out _; (with_reducible repeat (first | refine blk_drewN ?_ _ | refine blk_drew ?_ | refine blk_alloc ?_ _)); refine blk_far ?_ NB210_217.out _; (with_reducible repeat (first | refine blk_drewN ?_ _ | refine blk_drew ?_ | refine blk_alloc ?_ _)); refine blk_far ?_ NB210_217.out _; (with_reducible repeat (first | refine blk_drewN ?_ _ | refine blk_drew ?_ | refine blk_alloc ?_ _)); refine blk_far ?_ NB210_217.out _; (with_reducible repeat (first | refine blk_drewN ?_ _ | refine blk_drew ?_ | refine blk_alloc ?_ _)); refine blk_far ?_ NB210_217.out _; (with_reducible repeat (first | refine blk_drewN ?_ _ | refine blk_drew ?_ | refine blk_alloc ?_ _)); exact BK210.out⟩, ⟨by (with_reducible repeat (first | refine blk_drewN ?_ _ | refine blk_drew ?_ | refine blk_alloc ?_ _)); refine blk_put (cs := #[.int .i64 a0_0, .int .i64 a0_1, .string a0_2, .slice Ao12 y214.length co12, .slice none 0 0]) ?_ 4 _ rfl; (with_reducible repeat (first | refine blk_drewN ?_ _ | refine blk_drew ?_ | refine blk_alloc ?_ _)); refine blk_put (cs := #[.int .i64 a0_0, .int .i64 a0_1, .string a0_2, .slice none 0 0, .slice none 0 0]) ?_ 3 _ rfl; (with_reducible repeat (first | refine blk_drewN ?_ _ | refine blk_drew ?_ | refine blk_alloc ?_ _)); refine blk_put (cs := #[.int .i64 a0_0, .int .i64 a0_1, .string (⟨#[]⟩ : ByteArray), .slice none 0 0, .slice none 0 0]) ?_ 2 _ rfl; (with_reducible repeat (first | refine blk_drewN ?_ _ | refine blk_drew ?_ | refine blk_alloc ?_ _)); refine blk_put (cs := #[.int .i64 a0_0, .int .i64 0, .string (⟨#[]⟩ : ByteArray), .slice none 0 0, .slice none 0 0]) ?_ 1 _ rfl; (with_reducible repeat (first | refine blk_drewN ?_ _ | refine blk_drew ?_ | refine blk_alloc ?_ _)); refine blk_put (cs := #[.int .i64 0, .int .i64 0, .string (⟨#[]⟩ : ByteArray), .slice none 0 0, .slice none 0 0]) ?_ 0 _ rfl; (with_reducible repeat (first | refine blk_drewN ?_ _ | refine blk_drew ?_ | refine blk_alloc ?_ _)); exact BK217.out⟩, ⟨by repeat (first | (with_reducible first | exact HB.out | apply below_alloc | apply pw_below_drewN | apply below_drew1 | refine below_set ?_ GE209.out | refine below_set ?_ GE210.out | refine below_set ?_ GE217.out) | exact HB.out)⟩⟩
  case round =>
   clear H'
   try clear c1
   try clear c2
   try clear p2
   try clear c10
   obtain ⟨x4_1, x218004_1, u218004, rfl, HA, HK1, HO_218003, HO_218004, BK209, BK210, BK217, HB⟩ := hrel
   cases gk with
   | zero => exact absurd HA.out (by simp [laws_to.l0])
   | succ k1 =>
    have H := HA.out
    clear HA
    simp only [laws_to.l0] at H
    by_cases c18 : x4_1 < (l0_4.length : Int)
    ·rw [if_pos c18] at H
     have c18b0 : decide (x4_1 < (l0_4.length : Int)) = true := decide_eq_true c18
     clear c18
     by_cases c19 : 0 ≤ x4_1
     ·rw [if_pos c19] at H
      have c19b0 : decide (0 ≤ x4_1) = true := decide_eq_true c19
      clear c19
      replace H := Option.bind_eq_some_iff.mp H
      obtain ⟨⟨t219, t220, t221, t222, t225⟩, A200, H⟩ := H
      replace H : (if x218004_1.length < 1759218604441 then (laws_to.l0 k1 (wrap64 (x4_1 + 1)) a0_0 a0_1 a0_2 l0_3 l0_4 a0_0 a0_1 a0_2 y214 (x218004_1 ++ [(⟨t219, t220, t221, t222, t225⟩ : S31)])) else (none)) = some (r1, r2, r3, r4, r5) := H
      have A20 := aM A200
      clear A200
      by_cases c21 : x218004_1.length < 1759218604441
      ·rw [if_pos c21] at H
       have LMc21 := aM c21
       clear c21
       obtain ⟨y228, hy228⟩ : ∃ y_ : List (S31), y_ = (x218004_1 ++ [(⟨t219, t220, t221, t222, t225⟩ : S31)]) := ⟨_, rfl⟩
       replace H : (laws_to.l0 k1 (wrap64 (x4_1 + 1)) a0_0 a0_1 a0_2 l0_3 l0_4 a0_0 a0_1 a0_2 y214 y228) = some (r1, r2, r3, r4, r5) := by first | (rw [hy228]; with_reducible exact H) | (have H2_ := (Option.bind_some _ _).symm.trans H; rw [hy228]; with_reducible exact H2_) | (have H2_ := (Option.bind_some _ _).symm.trans H; with_reducible exact H2_) | with_reducible exact H | (rw [hy228]; exact H) | exact H
       have Ny228 := aM hy228
       clear hy228
       have H' := aM H
       clear H
       have hnb22 := NB209_210.out
       have hnc22 := NB210_209.out
       have hnb23 := NB209_217.out
       have hnc23 := NB217_209.out
       have hcz24_0 : wr.cell? ⟨gb209, 0, none⟩ = some (.int .i64 a0_0) := (blk_cell BK209.out 0).trans rfl
       have hcz24_1 : wr.cell? ⟨gb209, 1, none⟩ = some (.int .i64 a0_1) := (blk_cell BK209.out 1).trans rfl
       have hcz24_2 : wr.cell? ⟨gb209, 2, none⟩ = some (.string a0_2) := (blk_cell BK209.out 2).trans rfl
       have hcz24_3 : wr.cell? ⟨gb209, 3, none⟩ = some (.slice A0_3 l0_3.length c0_3) := (blk_cell BK209.out 3).trans rfl
       have hcz24_4 : wr.cell? ⟨gb209, 4, none⟩ = some (.slice A0_4 l0_4.length c0_4) := (blk_cell BK209.out 4).trans rfl
       have hfz24_0 := blk_frozen BK209.out 0
       have hfz24_1 := blk_frozen BK209.out 1
       have hfz24_2 := blk_frozen BK209.out 2
       have hfz24_3 := blk_frozen BK209.out 3
       have hfz24_4 := blk_frozen BK209.out 4
       try go_wp2
       have n0_ := aM (Kd.R_drew HO_218003.out)
       have n1_ := aM (Kd.R_drew HO_218004.out)
       have n2_ := aM (blk_drew BK209.out)
       have n3_ := aM (blk_drew BK210.out)
       have n4_ := aM (blk_drew BK217.out)
       have n5_ := aM (below_drew1 HB.out)
       clear HO_218003 HO_218004 BK209 BK210 BK217 HB; have HO_218003 := n0_; have HO_218004 := n1_; have BK209 := n2_; have BK210 := n3_; have BK217 := n4_; have HB := n5_; clear n0_ n1_ n2_ n3_ n4_ n5_
       have p218 : 0 ≤ (x4_1 : Int) := of_decide_eq_true (by first | (with_reducible assumption) | assumption)
       have q218 : x4_1 < (l0_4.length : Int) := of_decide_eq_true (by first | (with_reducible assumption) | assumption)
       obtain ⟨ad218, A218_3, c218_3, A218_4, c218_4, e218, hx218_0, hx218_1, hx218_2, hx218_3, hx218_4, hl218_3, hi218_3, hl218_4, hi218_4⟩ := at_T25 HR0_4.out x4_1 p218 q218
       have hw218_4 := hx218_4
       have hw218_3 := hx218_3
       have hw218_2 := hx218_2
       have hw218_1 := hx218_1
       have hw218_0 := hx218_0
       cases e218
       replace hx218_0 := (HB.out.cell (World.block_lt_of_cell? w _ hx218_0)).trans hx218_0
       replace hx218_1 := (HB.out.cell (World.block_lt_of_cell? w _ hx218_1)).trans hx218_1
       replace hx218_2 := (HB.out.cell (World.block_lt_of_cell? w _ hx218_2)).trans hx218_2
       replace hx218_3 := (HB.out.cell (World.block_lt_of_cell? w _ hx218_3)).trans hx218_3
       replace hx218_4 := (HB.out.cell (World.block_lt_of_cell? w _ hx218_4)).trans hx218_4
       have HR218_3 := aM hi218_3
       have HC218_3 := aM hl218_3
       clear hi218_3 hl218_3
       have HR218_4 := aM hi218_4
       have HC218_4 := aM hl218_4
       clear hi218_4 hl218_4
       replace p218 := eq_true p218
       replace q218 := eq_true q218
       refine start_ (n := 12) (S := fun w' => w'.cell? ⟨gb217, 0, none⟩ = some (.int .i64 a0_0) ∧ w'.cell? ⟨gb217, 1, none⟩ = some (.int .i64 a0_1) ∧ w'.cell? ⟨gb217, 2, none⟩ = some (.string a0_2) ∧ w'.cell? ⟨gb217, 3, none⟩ = some (.slice Ao12 y214.length co12) ∧ w'.cell? ⟨gb217, 4, none⟩ = some (u218004) ∧ w'.cell? ⟨gb209, 0, none⟩ = some (.int .i64 a0_0) ∧ w'.cell? ⟨gb209, 1, none⟩ = some (.int .i64 a0_1) ∧ w'.cell? ⟨gb209, 2, none⟩ = some (.string a0_2) ∧ w'.cell? ⟨gb209, 3, none⟩ = some (.slice A0_3 l0_3.length c0_3) ∧ w'.cell? ⟨gb209, 4, none⟩ = some (.slice (some ad218) l0_4.length c0_4) ∧ w'.cell? (ad218.add ((x4_1).toNat * 5)) = some (.int .i64 ((rd_T25 l0_4 x4_1).f0)) ∧ w'.cell? ⟨(ad218.add ((x4_1).toNat * 5)).block, (ad218.add ((x4_1).toNat * 5)).off + 1, none⟩ = some (.int .i64 ((rd_T25 l0_4 x4_1).f1)) ∧ w'.cell? ⟨(ad218.add ((x4_1).toNat * 5)).block, (ad218.add ((x4_1).toNat * 5)).off + 2, none⟩ = some (.string ((rd_T25 l0_4 x4_1).f2)) ∧ w'.cell? ⟨(ad218.add ((x4_1).toNat * 5)).block, (ad218.add ((x4_1).toNat * 5)).off + 3, none⟩ = some (.slice A218_3 ((rd_T25 l0_4 x4_1).f3).length c218_3) ∧ w'.cell? ⟨(ad218.add ((x4_1).toNat * 5)).block, (ad218.add ((x4_1).toNat * 5)).off + 4, none⟩ = some (.slice A218_4 ((rd_T25 l0_4 x4_1).f4).length c218_4)) (ds := [11]) #[false, false, false, false, false, false, false, false, false, false, false, false] (by kernel_rfl) rfl rfl ⟨(blk_cell BK217.out 0).trans rfl, (blk_cell BK217.out 1).trans rfl, (blk_cell BK217.out 2).trans rfl, (blk_cell BK217.out 3).trans rfl, (blk_cell BK217.out 4).trans rfl, (blk_cell BK209.out 0).trans rfl, (blk_cell BK209.out 1).trans rfl, (blk_cell BK209.out 2).trans rfl, (blk_cell BK209.out 3).trans rfl, (blk_cell BK209.out 4).trans rfl, ((HB.out.cell (World.block_lt_of_cell? w _ hw218_0)).trans hw218_0), ((HB.out.cell (World.block_lt_of_cell? w _ hw218_1)).trans hw218_1), ((HB.out.cell (World.block_lt_of_cell? w _ hw218_2)).trans hw218_2), ((HB.out.cell (World.block_lt_of_cell? w _ hw218_3)).trans hw218_3), ((HB.out.cell (World.block_lt_of_cell? w _ hw218_4)).trans hw218_4)⟩ (fun hHeld => ?_); refine with_tabW laws_to.tab5 laws_to.bits5 (fun HT_ HW_ => ?_)
       generalize wr.drew = w25 at HO_218003 HO_218004 BK209 BK210 BK217 HB HR218_3 HR218_4 hx218_0 hx218_1 hx218_2 hx218_3 hx218_4 hHeld ⊢
       refine pure_ (i := 0) (N := some 23) (v := ?_) (a' := ?_) #[true, false, false, false, false, false, false, false, false, false, false, false] rfl rfl (any_of HT_.out (by kernel_rfl)) (fun _ _ _ h => h) (Or.inl ⟨by rfl, ?_⟩) ?_ ?_
       rotate_left
       ·intro w'; go_simp; with_reducible rfl
       rotate_left
       ·simp only [Act.put, sA, sB, sC, i64_w, i32_w]; rfl
       refine pure_ (i := 2) (N := some 25) (v := ?_) (a' := ?_) #[true, false, true, false, false, false, false, false, false, false, false, false] rfl rfl (any_of HT_.out (by kernel_rfl)) (fun _ _ _ h => h) (Or.inl ⟨by rfl, ?_⟩) ?_ ?_
       rotate_left
       ·intro w'; go_simp; with_reducible rfl
       rotate_left
       ·simp only [Act.put, sA, sB, sC, i64_w, i32_w]; rfl
       refine pure_ (i := 4) (N := some 27) (v := ?_) (a' := ?_) #[true, false, true, false, true, false, false, false, false, false, false, false] rfl rfl (any_of HT_.out (by kernel_rfl)) (fun _ _ _ h => h) (Or.inl ⟨by rfl, ?_⟩) ?_ ?_
       rotate_left
       ·intro w'; go_simp; with_reducible rfl
       rotate_left
       ·simp only [Act.put, sA, sB, sC, i64_w, i32_w]; rfl
       refine take_ (i := 1) (N := some 24) (v := ?_) (a' := ?_) #[true, true, true, false, true, false, false, false, false, false, false, false] rfl rfl (take_ofW HT_.out HW_.out (by kernel_rfl)) (fun _ _ _ h => h) (Or.inl ⟨by rfl, ?_⟩) hHeld ?_ ?_
       rotate_left
       ·rintro w' ⟨s0, s1, s2, s3, s4, s5, s6, s7, s8, s9, s10, s11, s12, s13, s14⟩
        go_simp; with_reducible rfl
       rotate_left
       ·simp only [Act.put, sA, sB, sC, i64_w, i32_w]; rfl
       refine take_ (i := 3) (N := some 26) (v := ?_) (a' := ?_) #[true, true, true, true, true, false, false, false, false, false, false, false] rfl rfl (take_ofW HT_.out HW_.out (by kernel_rfl)) (fun _ _ _ h => h) (Or.inl ⟨by rfl, ?_⟩) hHeld ?_ ?_
       rotate_left
       ·rintro w' ⟨s0, s1, s2, s3, s4, s5, s6, s7, s8, s9, s10, s11, s12, s13, s14⟩
        go_simp; with_reducible rfl
       rotate_left
       ·simp only [Act.put, sA, sB, sC, i64_w, i32_w]; rfl
       refine pure_ (i := 5) (N := some 28) (v := ?_) (a' := ?_) #[true, true, true, true, true, true, false, false, false, false, false, false] rfl rfl (any_of HT_.out (by kernel_rfl)) (fun _ _ _ h => h) (Or.inl ⟨by rfl, ?_⟩) ?_ ?_
       rotate_left
       ·intro w'; go_simp; with_reducible rfl
       rotate_left
       ·simp only [Act.put, sA, sB, sC, i64_w, i32_w]; rfl
       refine take_ (i := 6) (N := some 29) (v := ?_) (a' := ?_) #[true, true, true, true, true, true, true, false, false, false, false, false] rfl rfl (take_ofW HT_.out HW_.out (by kernel_rfl)) (fun _ _ _ h => h) (Or.inl ⟨by rfl, ?_⟩) hHeld ?_ ?_
       rotate_left
       ·rintro w' ⟨s0, s1, s2, s3, s4, s5, s6, s7, s8, s9, s10, s11, s12, s13, s14⟩
        go_simp; with_reducible rfl
       rotate_left
       ·simp only [Act.put, sA, sB, sC, i64_w, i32_w]; rfl
       refine one_ (i := 7) (N := some 30) #[true, true, true, true, true, true, true, true, false, false, false, false] rfl rfl (one_of HT_.out (by kernel_rfl)) (by decide) (fun K hK => ?_)
       refine goes_ Tryz.func10 (by kernel_rfl) rfl #[.agg #[.int .i64 ((rd_T25 l0_4 x4_1).f0), .int .i64 ((rd_T25 l0_4 x4_1).f1), .string ((rd_T25 l0_4 x4_1).f2), .slice A218_3 ((rd_T25 l0_4 x4_1).f3).length c218_3, .slice A218_4 ((rd_T25 l0_4 x4_1).f4).length c218_4]] (by rfl) rfl rfl (by (try simp only [List.map_toArray, List.map_cons, List.map_nil]); first | done | rfl | (simp only [List.length_drop, List.length_take]; rfl)) ?_
       with_reducible refine (ih k1 (by have := HK1.out; omega) ((rd_T25 l0_4 x4_1).f0) ((rd_T25 l0_4 x4_1).f1) ((rd_T25 l0_4 x4_1).f2) _ _ ((rd_T25 l0_4 x4_1).f3) _ _ ((rd_T25 l0_4 x4_1).f4) t219 t220 t221 t222 t225 _ ?side1 ?side2 ?side3 ?side4 A20.out).mono ?_
       (case side1 => repeat (first | exact (Kd.C_below HR218_3.out HB.out) | (with_reducible refine Kd.C_alloc ?_ _) | (with_reducible refine Kd.C_drewN ?_ _) | (with_reducible refine Kd.C_drew ?_)))
       (case side2 => exact HC218_3.out)
       (case side3 => repeat (first | exact (Kd.C_below HR218_4.out HB.out) | (with_reducible refine Kd.C_alloc ?_ _) | (with_reducible refine Kd.C_drewN ?_ _) | (with_reducible refine Kd.C_drew ?_)))
       (case side4 => exact HC218_4.out)
       rintro e w26 ⟨v223, v226, rfl, ho0, ho1, hb⟩
       refine ⟨_, rfl, ?_⟩
       have n0_ := aM (Kd.R_elder' (by (with_reducible repeat (first | apply Kd.R_alloc | apply Kd.R_drewN | apply Kd.R_drew)); exact HO_218003.out) (Kd.R_base ho0) hb)
       have n1_ := aM (Kd.R_mono (Kd.R_told (Kd.R_told (Kd.R_old (by (with_reducible repeat (first | apply Kd.R_alloc | apply Kd.R_drewN | apply Kd.R_drew)); exact HO_218004.out) hb) (Kd.R_base ho0)) (Kd.R_base ho1)) (fun _ h_ => h_.1))
       have n2_ := aM (Kd.R_lower (Kd.R_new' ho0 (Kd.R_lt (by (with_reducible repeat (first | apply Kd.R_alloc | apply Kd.R_drewN | apply Kd.R_drew)); exact HO_218003.out))) (below_size (by repeat (first | (with_reducible first | exact HB.out | apply below_alloc | apply pw_below_drewN | apply below_drew1 | refine below_set ?_ GE209.out | refine below_set ?_ GE210.out | refine below_set ?_ GE217.out) | exact HB.out))))
       have n3_ := aM (Kd.R_lower (Kd.R_newB (Kd.R_newB (Kd.R_new' (Kd.R_new' ho1 (Kd.R_lt (by (with_reducible repeat (first | apply Kd.R_alloc | apply Kd.R_drewN | apply Kd.R_drew)); exact HO_218003.out))) (Kd.R_lt (by (with_reducible repeat (first | apply Kd.R_alloc | apply Kd.R_drewN | apply Kd.R_drew)); exact HO_218004.out))) (g := gb210) (o := .cells #[.int .i64 0, .int .i64 0, .string (⟨#[]⟩ : ByteArray), .slice none 0 0, .slice none 0 0] 31 (0, 0)) (by (with_reducible repeat (first | refine blk_drewN ?_ _ | refine blk_drew ?_ | refine blk_alloc ?_ _)); exact BK210.out)) (g := gb217) (o := .cells #[.int .i64 a0_0, .int .i64 a0_1, .string a0_2, .slice Ao12 y214.length co12, u218004] 31 (0, 0)) (by (with_reducible repeat (first | refine blk_drewN ?_ _ | refine blk_drew ?_ | refine blk_alloc ?_ _)); exact BK217.out)) (below_size (by repeat (first | (with_reducible first | exact HB.out | apply below_alloc | apply pw_below_drewN | apply below_drew1 | refine below_set ?_ GE209.out | refine below_set ?_ GE210.out | refine below_set ?_ GE217.out) | exact HB.out))))
       have n4_ := aM (blk_below (g := gb209) (o := .cells #[.int .i64 a0_0, .int .i64 a0_1, .string a0_2, .slice A0_3 l0_3.length c0_3, .slice (some ad218) l0_4.length c0_4] 25 (0, 0)) (by (with_reducible repeat (first | refine blk_drewN ?_ _ | refine blk_drew ?_ | refine blk_alloc ?_ _)); exact BK209.out) hb)
       have n5_ := aM (blk_below (g := gb210) (o := .cells #[.int .i64 0, .int .i64 0, .string (⟨#[]⟩ : ByteArray), .slice none 0 0, .slice none 0 0] 31 (0, 0)) (by (with_reducible repeat (first | refine blk_drewN ?_ _ | refine blk_drew ?_ | refine blk_alloc ?_ _)); exact BK210.out) hb)
       have n6_ := aM (blk_below (g := gb217) (o := .cells #[.int .i64 a0_0, .int .i64 a0_1, .string a0_2, .slice Ao12 y214.length co12, u218004] 31 (0, 0)) (by (with_reducible repeat (first | refine blk_drewN ?_ _ | refine blk_drew ?_ | refine blk_alloc ?_ _)); exact BK217.out) hb)
       have n7_ := aM (below_step (by repeat (first | (with_reducible first | exact HB.out | apply below_alloc | apply pw_below_drewN | apply below_drew1 | refine below_set ?_ GE209.out | refine below_set ?_ GE210.out | refine below_set ?_ GE217.out) | exact HB.out)) hb)
       clear HO_218003 HO_218004 BK209 BK210 BK217 HB; have HO_218003 := n0_; have HO_218004 := n1_; have HO224 := n2_; have HO227 := n3_; have BK209 := n4_; have BK210 := n5_; have BK217 := n6_; have HB := n7_; clear n0_ n1_ n2_ n3_ n4_ n5_ n6_ n7_
       (try clear hb)
       (try clear hb2)
       (try clear hk)
       (try clear hi)
       (try clear ho0)
       (try clear ho1)
       obtain ⟨Ao28, co28, eo28⟩ := Kd.R_slice HO224.out
       (first | subst eo28 | (injection eo28 with f1_ f2_ f3_; have f4_ := f1_.symm; have f5_ := f3_.symm; clear f1_ f2_ f3_; subst f4_; subst f5_))
       obtain ⟨Ao29, co29, eo29⟩ := Kd.R_slice HO227.out
       (first | subst eo29 | (injection eo29 with f1_ f2_ f3_; have f4_ := f1_.symm; have f5_ := f3_.symm; clear f1_ f2_ f3_; subst f4_; subst f5_))
       refine hK.out _ _ ⟨(blk_cell BK217.out 0).trans rfl, (blk_cell BK217.out 1).trans rfl, (blk_cell BK217.out 2).trans rfl, (blk_cell BK217.out 3).trans rfl, (blk_cell BK217.out 4).trans rfl, (blk_cell BK209.out 0).trans rfl, (blk_cell BK209.out 1).trans rfl, (blk_cell BK209.out 2).trans rfl, (blk_cell BK209.out 3).trans rfl, (blk_cell BK209.out 4).trans rfl, ((HB.out.cell (World.block_lt_of_cell? w _ hw218_0)).trans hw218_0), ((HB.out.cell (World.block_lt_of_cell? w _ hw218_1)).trans hw218_1), ((HB.out.cell (World.block_lt_of_cell? w _ hw218_2)).trans hw218_2), ((HB.out.cell (World.block_lt_of_cell? w _ hw218_3)).trans hw218_3), ((HB.out.cell (World.block_lt_of_cell? w _ hw218_4)).trans hw218_4)⟩ (fun hHeld => ?_)
       clear hK K
       refine norm_ (a' := ?_) ?_ ?_
       rotate_left
       ·show Act.put _ (some 30) _ = _
        simp only [Act.put, sA, sB, sC, i64_w, i32_w]; rfl
       refine one_ (i := 8) (N := some 31) #[true, true, true, true, true, true, true, true, true, false, false, false] rfl rfl (one_of HT_.out (by kernel_rfl)) (by decide) (fun K hK => ?_)
       refine value_ (w1 := ?_) (v := ?_) (by rfl) rfl ?_ ?_
       rotate_left 2
       ·go_simp; constructor
        ·rfl
        ·rfl
       refine hK.out _ _ ⟨(blk_cell (blk_alloc BK217.out _) 0).trans rfl, (blk_cell (blk_alloc BK217.out _) 1).trans rfl, (blk_cell (blk_alloc BK217.out _) 2).trans rfl, (blk_cell (blk_alloc BK217.out _) 3).trans rfl, (blk_cell (blk_alloc BK217.out _) 4).trans rfl, (blk_cell (blk_alloc BK209.out _) 0).trans rfl, (blk_cell (blk_alloc BK209.out _) 1).trans rfl, (blk_cell (blk_alloc BK209.out _) 2).trans rfl, (blk_cell (blk_alloc BK209.out _) 3).trans rfl, (blk_cell (blk_alloc BK209.out _) 4).trans rfl, (World.cell?_alloc_lt _ _ _ (World.block_lt_of_cell? _ _ (((HB.out.cell (World.block_lt_of_cell? w _ hw218_0)).trans hw218_0)))).trans (((HB.out.cell (World.block_lt_of_cell? w _ hw218_0)).trans hw218_0)), (World.cell?_alloc_lt _ _ _ (World.block_lt_of_cell? _ _ (((HB.out.cell (World.block_lt_of_cell? w _ hw218_1)).trans hw218_1)))).trans (((HB.out.cell (World.block_lt_of_cell? w _ hw218_1)).trans hw218_1)), (World.cell?_alloc_lt _ _ _ (World.block_lt_of_cell? _ _ (((HB.out.cell (World.block_lt_of_cell? w _ hw218_2)).trans hw218_2)))).trans (((HB.out.cell (World.block_lt_of_cell? w _ hw218_2)).trans hw218_2)), (World.cell?_alloc_lt _ _ _ (World.block_lt_of_cell? _ _ (((HB.out.cell (World.block_lt_of_cell? w _ hw218_3)).trans hw218_3)))).trans (((HB.out.cell (World.block_lt_of_cell? w _ hw218_3)).trans hw218_3)), (World.cell?_alloc_lt _ _ _ (World.block_lt_of_cell? _ _ (((HB.out.cell (World.block_lt_of_cell? w _ hw218_4)).trans hw218_4)))).trans (((HB.out.cell (World.block_lt_of_cell? w _ hw218_4)).trans hw218_4))⟩ (fun hHeld => ?_)
       clear hK K
       refine norm_ (a' := ?_) ?_ ?_
       rotate_left
       ·show Act.put _ (some 31) _ = _
        simp only [Act.put, sA, sB, sC, i64_w, i32_w]; rfl
       refine one_ (i := 9) (N := some 32) #[true, true, true, true, true, true, true, true, true, true, false, false] rfl rfl (one_of HT_.out (by kernel_rfl)) (by decide) (fun K hK => ?_)
       refine Kd.R_append_step k31 (w0 := w) w.heap.size (by rfl) (.tmp 24) (.tmp 31) 29 31 (.agg #[(.int .i64 0), (.int .i64 0), (.string ⟨#[]⟩), (.slice none 0 0), (.slice none 0 0)]) 80 rfl Tryz.underlying29 info31 rfl (by decide) (by omega) u218004 x218004_1 (⟨t219, t220, t221, t222, t225⟩ : S31) [.int .i64 t219, .int .i64 t220, .string t221, .slice Ao28 t222.length co28, .slice Ao29 t225.length co29] (fun k_ => some k_ ≠ (.slice Ao12 y214.length co12 : Value).ownBlock ∧ k_ ≠ gb210 ∧ k_ ≠ gb217) (fun k_ => ((fun k_ => some k_ ≠ (.slice Ao12 y214.length co12 : Value).ownBlock ∧ k_ ≠ gb210 ∧ k_ ≠ gb217)) k_ ∧ some k_ ≠ (u218004 : Value).ownBlock) rfl rfl ?aP (fun _ hk => hk) ?aF ?aO ?aB ?aS ?aL ?_
       (case aP => exact k31_mkM _ _ _ (⟨t219, t220, t221, t222, t225⟩ : S31) (Kd.R_mono (Kd.R_types (Kd.R_types (Kd.R_apart' (HO224.out) (Kd.R_typed HO_218004.out) (by decide)) BK210.out (by decide)) BK217.out (by decide)) (fun k_ hk => ⟨⟨hk.1.1.1.2, ⟨hk.1.2, hk.2⟩⟩, hk.1.1.2⟩)) (Kd.R_mono (HO227.out) (fun k_ hk => ⟨⟨hk.1.1.1.2, ⟨hk.1.2, hk.2⟩⟩, hk.1.1.2⟩)))
       (case aB => exact (by repeat (first | (with_reducible first | exact HB.out | apply below_alloc | apply pw_below_drewN | apply below_drew1 | refine below_set ?_ GE209.out | refine below_set ?_ GE210.out | refine below_set ?_ GE217.out) | exact HB.out)))
       (case aF => exact (fun k_ hk => ⟨Kd.fresh' (Kd.R_lt (by (with_reducible repeat (first | apply Kd.R_alloc | apply Kd.R_drewN | apply Kd.R_drew)); exact HO_218003.out)) k_ hk, Kd.freshB (g := gb210) (o := .cells #[.int .i64 0, .int .i64 0, .string (⟨#[]⟩ : ByteArray), .slice none 0 0, .slice none 0 0] 31 (0, 0)) (by (with_reducible repeat (first | refine blk_drewN ?_ _ | refine blk_drew ?_ | refine blk_alloc ?_ _)); exact BK210.out) k_ hk, Kd.freshB (g := gb217) (o := .cells #[.int .i64 a0_0, .int .i64 a0_1, .string a0_2, .slice Ao12 y214.length co12, u218004] 31 (0, 0)) (by (with_reducible repeat (first | refine blk_drewN ?_ _ | refine blk_drew ?_ | refine blk_alloc ?_ _)); exact BK217.out) k_ hk⟩))
       (case aO => exact (by (with_reducible repeat (first | apply Kd.R_alloc | apply Kd.R_drewN | apply Kd.R_drew)); exact Kd.R_mono HO_218004.out (fun _ hk => ⟨hk.1.1.1, ⟨hk.1.1.2.1, hk.1.1.2.2⟩⟩)))
       (case aS => exact (below_size (by repeat (first | (with_reducible first | exact HB.out | apply below_alloc | apply pw_below_drewN | apply below_drew1 | refine below_set ?_ GE209.out | refine below_set ?_ GE210.out | refine below_set ?_ GE217.out) | exact HB.out))))
       (case aL => have := LMc21.out; omega)
       intro v229 w27 ho hb hg hat
       rw [← Ny228.out] at ho
       have n0_ := aM (Kd.R_over' (by (with_reducible repeat (first | apply Kd.R_alloc | apply Kd.R_drewN | apply Kd.R_drew)); exact HO_218003.out) (Kd.R_typed (by (with_reducible repeat (first | apply Kd.R_alloc | apply Kd.R_drewN | apply Kd.R_drew)); exact HO_218004.out)) (by decide) hg)
       have n1_ := aM (blk_grown (g := gb209) (o := .cells #[.int .i64 a0_0, .int .i64 a0_1, .string a0_2, .slice A0_3 l0_3.length c0_3, .slice (some ad218) l0_4.length c0_4] 25 (0, 0)) (by (with_reducible repeat (first | refine blk_drewN ?_ _ | refine blk_drew ?_ | refine blk_alloc ?_ _)); exact BK209.out) hg (Kd.R_ne HO_218004.out BK209.out (by decide)))
       have n2_ := aM (blk_grown (g := gb210) (o := .cells #[.int .i64 0, .int .i64 0, .string (⟨#[]⟩ : ByteArray), .slice none 0 0, .slice none 0 0] 31 (0, 0)) (by (with_reducible repeat (first | refine blk_drewN ?_ _ | refine blk_drew ?_ | refine blk_alloc ?_ _)); exact BK210.out) hg (Kd.R_away HO_218004.out (fun _ hk => hk.1.1.2.1)))
       have n3_ := aM (blk_grown (g := gb217) (o := .cells #[.int .i64 a0_0, .int .i64 a0_1, .string a0_2, .slice Ao12 y214.length co12, u218004] 31 (0, 0)) (by (with_reducible repeat (first | refine blk_drewN ?_ _ | refine blk_drew ?_ | refine blk_alloc ?_ _)); exact BK217.out) hg (Kd.R_away HO_218004.out (fun _ hk => hk.1.1.2.2)))
       have n4_ := aM (hb)
       have n5_ := aM (ho)
       clear HO_218003 BK209 BK210 BK217 HB HO_218004 HO224 HO227; have HO_218003 := n0_; have BK209 := n1_; have BK210 := n2_; have BK217 := n3_; have HB := n4_; have HO230 := n5_; clear n0_ n1_ n2_ n3_ n4_ n5_ ho hb hg hat
       obtain ⟨Ao30, co30, eo30⟩ := Kd.R_slice HO230.out
       (first | subst eo30 | (injection eo30 with f1_ f2_ f3_; have f4_ := f1_.symm; have f5_ := f3_.symm; clear f1_ f2_ f3_; subst f4_; subst f5_))
       refine hK.out _ _ ⟨(blk_cell BK217.out 0).trans rfl, (blk_cell BK217.out 1).trans rfl, (blk_cell BK217.out 2).trans rfl, (blk_cell BK217.out 3).trans rfl, (blk_cell BK217.out 4).trans rfl, (blk_cell BK209.out 0).trans rfl, (blk_cell BK209.out 1).trans rfl, (blk_cell BK209.out 2).trans rfl, (blk_cell BK209.out 3).trans rfl, (blk_cell BK209.out 4).trans rfl, ((HB.out.cell (World.block_lt_of_cell? w _ hw218_0)).trans hw218_0), ((HB.out.cell (World.block_lt_of_cell? w _ hw218_1)).trans hw218_1), ((HB.out.cell (World.block_lt_of_cell? w _ hw218_2)).trans hw218_2), ((HB.out.cell (World.block_lt_of_cell? w _ hw218_3)).trans hw218_3), ((HB.out.cell (World.block_lt_of_cell? w _ hw218_4)).trans hw218_4)⟩ (fun hHeld => ?_)
       clear hK K
       refine norm_ (a' := ?_) ?_ ?_
       rotate_left
       ·show Act.put _ (some 32) _ = _
        simp only [Act.put, sA, sB, sC, i64_w, i32_w]; rfl
       refine pure_ (i := 10) (N := some 33) (v := ?_) (a' := ?_) #[true, true, true, true, true, true, true, true, true, true, true, false] rfl rfl (any_of HT_.out (by kernel_rfl)) (fun _ _ _ h => h) (Or.inl ⟨by rfl, ?_⟩) ?_ ?_
       rotate_left
       ·intro w'; go_simp; with_reducible rfl
       rotate_left
       ·simp only [Act.put, sA, sB, sC, i64_w, i32_w]; rfl
       refine last_ (i := 11) (N := none) #[true, true, true, true, true, true, true, true, true, true, true, true] rfl rfl (one_of HT_.out (by kernel_rfl)) (by decide) (fun K hK => ?_)
       have hs31 : w27.cell? ⟨gb217, 4, none⟩ = some (u218004) := (blk_cell BK217.out 4).trans rfl
       have hfs31 := blk_frozen BK217.out 4
       have hns31_0 := NB209_217.out
       have hns31_1 := NB210_217.out
       have hms31_0 := NB217_209.out
       have hms31_1 := NB217_210.out
       refine skip_ (w1 := ?_) (by rfl) rfl ?_ ?_
       rotate_left
       ·go_simp; rfl
       refine hK.out _ _ ?_
       clear hK K
       refine done_ (done_of HT_.out (by kernel_rfl)) ?_
       try go_wp2
       go_roundg k1
       case measure => have := HK1.out; omega
       case rel => exact ⟨(wrap64 (x4_1 + 1)), (y228), (.slice Ao30 y228.length co30), (by first | rfl | (simp; done) | (simp [*]; done)), H', ⟨by have := HK1.out; omega⟩, ⟨by (with_reducible repeat (first | apply Kd.R_alloc | apply Kd.R_drewN | apply Kd.R_drew)); exact Kd.R_mono (Kd.R_far (p := ⟨gb217, 4, none⟩) (Kd.R_types HO_218003.out BK217.out (by decide)) (fun _ hk => hk.2) (.slice Ao30 y228.length co30)) (fun _ hk => trivial)⟩, ⟨by (with_reducible repeat (first | apply Kd.R_alloc | apply Kd.R_drewN | apply Kd.R_drew)); exact Kd.R_mono (Kd.R_far (p := ⟨gb217, 4, none⟩) (Kd.R_mono HO230.out (fun k_ hk => (⟨hk, hk.2.2⟩ : _ ∧ k_ ≠ gb217))) (fun _ hk => hk.2) (.slice Ao30 y228.length co30)) (fun _ hk => ⟨hk.1.1, ⟨hk.1.2.1, hk.1.2.2⟩⟩)⟩, ⟨by (with_reducible repeat (first | refine blk_drewN ?_ _ | refine blk_drew ?_ | refine blk_alloc ?_ _)); refine blk_far ?_ NB209_217.out _; (with_reducible repeat (first | refine blk_drewN ?_ _ | refine blk_drew ?_ | refine blk_alloc ?_ _)); exact BK209.out⟩, ⟨by (with_reducible repeat (first | refine blk_drewN ?_ _ | refine blk_drew ?_ | refine blk_alloc ?_ _)); refine blk_far ?_ NB210_217.out _; (with_reducible repeat (first | refine blk_drewN ?_ _ | refine blk_drew ?_ | refine blk_alloc ?_ _)); exact BK210.out⟩, ⟨by (with_reducible repeat (first | refine blk_drewN ?_ _ | refine blk_drew ?_ | refine blk_alloc ?_ _)); refine blk_put (cs := #[.int .i64 a0_0, .int .i64 a0_1, .string a0_2, .slice Ao12 y214.length co12, u218004]) ?_ 4 _ rfl; (with_reducible repeat (first | refine blk_drewN ?_ _ | refine blk_drew ?_ | refine blk_alloc ?_ _)); exact BK217.out⟩, ⟨by repeat (first | (with_reducible first | exact HB.out | apply below_alloc | apply pw_below_drewN | apply below_drew1 | refine below_set ?_ GE209.out | refine below_set ?_ GE210.out | refine below_set ?_ GE217.out) | exact HB.out)⟩⟩
      ·rw [if_neg c21] at H
       exact absurd H (by simp)
     ·rw [if_neg c19] at H
      exact absurd H (by simp)
    ·rw [if_neg c18] at H
     have c18b0 : decide (x4_1 < (l0_4.length : Int)) = false := decide_eq_false c18
     clear c18
     simp only [Option.some.injEq, Prod.mk.injEq] at H
     obtain ⟨rfl, rfl, rfl, rfl, rfl⟩ := H
     have hnb32 := NB209_210.out
     have hnc32 := NB210_209.out
     have hnb33 := NB209_217.out
     have hnc33 := NB217_209.out
     have hcz34_0 : wr.cell? ⟨gb209, 0, none⟩ = some (.int .i64 a0_0) := (blk_cell BK209.out 0).trans rfl
     have hcz34_1 : wr.cell? ⟨gb209, 1, none⟩ = some (.int .i64 a0_1) := (blk_cell BK209.out 1).trans rfl
     have hcz34_2 : wr.cell? ⟨gb209, 2, none⟩ = some (.string a0_2) := (blk_cell BK209.out 2).trans rfl
     have hcz34_3 : wr.cell? ⟨gb209, 3, none⟩ = some (.slice A0_3 l0_3.length c0_3) := (blk_cell BK209.out 3).trans rfl
     have hcz34_4 : wr.cell? ⟨gb209, 4, none⟩ = some (.slice A0_4 l0_4.length c0_4) := (blk_cell BK209.out 4).trans rfl
     have hfz34_0 := blk_frozen BK209.out 0
     have hfz34_1 := blk_frozen BK209.out 1
     have hfz34_2 := blk_frozen BK209.out 2
     have hfz34_3 := blk_frozen BK209.out 3
     have hfz34_4 := blk_frozen BK209.out 4
     have hnb35 := NB217_210.out
     have hnc35 := NB210_217.out
     have hcz36_0 : wr.cell? ⟨gb217, 0, none⟩ = some (.int .i64 a0_0) := (blk_cell BK217.out 0).trans rfl
     have hcz36_1 : wr.cell? ⟨gb217, 1, none⟩ = some (.int .i64 a0_1) := (blk_cell BK217.out 1).trans rfl
     have hcz36_2 : wr.cell? ⟨gb217, 2, none⟩ = some (.string a0_2) := (blk_cell BK217.out 2).trans rfl
     have hcz36_3 : wr.cell? ⟨gb217, 3, none⟩ = some (.slice Ao12 y214.length co12) := (blk_cell BK217.out 3).trans rfl
     have hcz36_4 : wr.cell? ⟨gb217, 4, none⟩ = some (u218004) := (blk_cell BK217.out 4).trans rfl
     have hfz36_0 := blk_frozen BK217.out 0
     have hfz36_1 := blk_frozen BK217.out 1
     have hfz36_2 := blk_frozen BK217.out 2
     have hfz36_3 := blk_frozen BK217.out 3
     have hfz36_4 := blk_frozen BK217.out 4
     have hcz37_0 : wr.cell? ⟨gb210, 0, none⟩ = some (.int .i64 0) := (blk_cell BK210.out 0).trans rfl
     have hcz37_1 : wr.cell? ⟨gb210, 1, none⟩ = some (.int .i64 0) := (blk_cell BK210.out 1).trans rfl
     have hcz37_2 : wr.cell? ⟨gb210, 2, none⟩ = some (.string (⟨#[]⟩ : ByteArray)) := (blk_cell BK210.out 2).trans rfl
     have hcz37_3 : wr.cell? ⟨gb210, 3, none⟩ = some (.slice none 0 0) := (blk_cell BK210.out 3).trans rfl
     have hcz37_4 : wr.cell? ⟨gb210, 4, none⟩ = some (.slice none 0 0) := (blk_cell BK210.out 4).trans rfl
     have hfz37_0 := blk_frozen BK210.out 0
     have hfz37_1 := blk_frozen BK210.out 1
     have hfz37_2 := blk_frozen BK210.out 2
     have hfz37_3 := blk_frozen BK210.out 3
     have hfz37_4 := blk_frozen BK210.out 4
     obtain ⟨Ao38, co38, eo38⟩ := Kd.R_slice HO_218004.out
     subst eo38
     go_wp2
     refine bodyPost_ret (results_cell_row rfl _ _ gb210 31 #[.int .i64 a0_0, .int .i64 a0_1, .string a0_2, .slice Ao12 y214.length co12, .slice Ao38 x218004_1.length co38] (0, 0) _ rfl (by (with_reducible repeat (first | refine blk_drewN ?_ _ | refine blk_drew ?_ | refine blk_alloc ?_ _)); refine blk_put (cs := #[.int .i64 a0_0, .int .i64 a0_1, .string a0_2, .slice Ao12 y214.length co12, .slice none 0 0]) ?_ 4 _ rfl; (with_reducible repeat (first | refine blk_drewN ?_ _ | refine blk_drew ?_ | refine blk_alloc ?_ _)); refine blk_put (cs := #[.int .i64 a0_0, .int .i64 a0_1, .string a0_2, .slice none 0 0, .slice none 0 0]) ?_ 3 _ rfl; (with_reducible repeat (first | refine blk_drewN ?_ _ | refine blk_drew ?_ | refine blk_alloc ?_ _)); refine blk_put (cs := #[.int .i64 a0_0, .int .i64 a0_1, .string (⟨#[]⟩ : ByteArray), .slice none 0 0, .slice none 0 0]) ?_ 2 _ rfl; (with_reducible repeat (first | refine blk_drewN ?_ _ | refine blk_drew ?_ | refine blk_alloc ?_ _)); refine blk_put (cs := #[.int .i64 a0_0, .int .i64 0, .string (⟨#[]⟩ : ByteArray), .slice none 0 0, .slice none 0 0]) ?_ 1 _ rfl; (with_reducible repeat (first | refine blk_drewN ?_ _ | refine blk_drew ?_ | refine blk_alloc ?_ _)); refine blk_put (cs := #[.int .i64 0, .int .i64 0, .string (⟨#[]⟩ : ByteArray), .slice none 0 0, .slice none 0 0]) ?_ 0 _ rfl; (with_reducible repeat (first | refine blk_drewN ?_ _ | refine blk_drew ?_ | refine blk_alloc ?_ _)); exact BK210.out) Tryz.underlying31 rfl (by kernel_rfl)) rfl ?_
     exact ⟨_, _, by first | rfl | (simp [errW_none, errW_some] <;> rfl) | (simp [*, errW_none, errW_some] <;> rfl), by (with_reducible repeat (first | apply Kd.R_alloc | apply Kd.R_drewN | apply Kd.R_drew)); exact Kd.R_mono (Kd.R_far (p := ⟨gb210, 4, none⟩) (Kd.R_far (p := ⟨gb210, 3, none⟩) (Kd.R_far (p := ⟨gb210, 2, none⟩) (Kd.R_far (p := ⟨gb210, 1, none⟩) (Kd.R_far (p := ⟨gb210, 0, none⟩) (Kd.R_types HO_218003.out BK210.out (by decide)) (fun _ hk => hk.2) (.int .i64 a0_0)) (fun _ hk => hk.2) (.int .i64 a0_1)) (fun _ hk => hk.2) (.string a0_2)) (fun _ hk => hk.2) (.slice Ao12 y214.length co12)) (fun _ hk => hk.2) (.slice Ao38 x218004_1.length co38)) (fun _ hk => trivial), by (with_reducible repeat (first | apply Kd.R_alloc | apply Kd.R_drewN | apply Kd.R_drew)); exact Kd.R_mono (Kd.R_far (p := ⟨gb210, 4, none⟩) (Kd.R_far (p := ⟨gb210, 3, none⟩) (Kd.R_far (p := ⟨gb210, 2, none⟩) (Kd.R_far (p := ⟨gb210, 1, none⟩) (Kd.R_far (p := ⟨gb210, 0, none⟩) (Kd.R_mono HO_218004.out (fun k_ hk => (⟨hk, hk.2.1⟩ : _ ∧ k_ ≠ gb210))) (fun _ hk => hk.2) (.int .i64 a0_0)) (fun _ hk => hk.2) (.int .i64 a0_1)) (fun _ hk => hk.2) (.string a0_2)) (fun _ hk => hk.2) (.slice Ao12 y214.length co12)) (fun _ hk => hk.2) (.slice Ao38 x218004_1.length co38)) (fun _ hk => hk.1.1), by repeat (first | (with_reducible first | exact HB.out | apply below_alloc | apply pw_below_drewN | apply below_drew1 | refine below_set ?_ GE209.out | refine below_set ?_ GE210.out | refine below_set ?_ GE217.out) | exact HB.out)⟩
 ·rw [if_neg c2] at H
  exact absurd H (by simp)
end Go.Proofs.YtgdmdflbcbibjaaGreatDoor.PS
namespace Go.Proofs.YtgdmdflbcbibjaaGreatDoor.Tr
open Go.RowKit Go.Proofs.YtgdmdflbcbibjaaGreatDoorW.PrintWords Go.Proofs.YtgdmdflbcbibjaaGreatDoorW.PrintLast Go.Proofs.YtgdmdflbcbibjaaGreatDoor.Str Go.Proofs.YtgdmdflbcbibjaaGreatDoor.Kit Go.Proofs.YtgdmdflbcbibjaaGreatDoor.MapV Go.Proofs.YtgdmdflbcbibjaaGreatDoor.Frame Go.Proofs.YtgdmdflbcbibjaaGreatDoor.PS
open Go.Proofs.YtgdmdflbcbibjaaGreatDoor.Val (place placeI placeB placeI_hit placeI_end)
set_option linter.unusedVariables false
set_option linter.unusedSimpArgs false
inductive SmallS : VS → Prop
 | mk (x : VS) (ht : x.f2.size ≤ 140737488355328) (hk : ∀ s, s ∈ x.f3 → s.size ≤ maxLen) (hkl : x.f3.length ≤ 8796093022000) (hvl : x.f4.length ≤ 1759218604400) (hv : ∀ v, v ∈ x.f4 → SmallS v) : SmallS x
def tup (x : VS) : Int × Int × BA × List BA × List VS := (x.f0, x.f1, x.f2, x.f3, x.f4)
theorem etaS (x : VS) : (⟨x.f0, x.f1, x.f2, x.f3, x.f4⟩ : VS) = x := by cases x; rfl
def leaf (k n : Int) (t : BA) : VS := ⟨k, n, t, [], []⟩
def fitW : List BA → List VS → List BA → List VS → List BA × List VS
 | k :: ks, v :: vs, K, V => fitW ks vs (withK K k) (withV K V k v)
 | _, _, K, V => (K, V)
theorem fitW_nil (ks : List BA) (K : List BA) (V : List VS) : fitW ks [] K V = (K, V) := by cases ks <;> rfl
mutual
def fitV : VS → VS
 | ⟨k, n, t, ks, vs⟩ => if k = 1 then (if n = 0 then leaf 1 0 ⟨#[]⟩ else leaf 1 1 ⟨#[]⟩) else if k = 2 then leaf 2 n ⟨#[]⟩ else if k = 3 then leaf 3 0 t else if k = 4 then ⟨4, 0, ⟨#[]⟩, [], fitL vs⟩ else if k = 5 then ⟨5, 0, ⟨#[]⟩, (fitW ks (fitL vs) [] []).1, (fitW ks (fitL vs) [] []).2⟩ else leaf 0 0 ⟨#[]⟩
def fitL : List VS → List VS
 | [] => []
 | v :: r => fitV v :: fitL r
end
theorem fitL_map : ∀ vs, fitL vs = vs.map fitV
 | [] => by simp [fitL]
 | v :: r => by simp [fitL, fitL_map r]
theorem fitL_length (vs : List VS) : (fitL vs).length = vs.length := by rw [fitL_map, List.length_map]
theorem fitL_drop {vs : List VS} {i : Nat} (h : i < vs.length) : (fitL vs).drop i = fitV vs[i] :: (fitL vs).drop (i + 1) := by
 rw [List.drop_eq_getElem_cons (by rw [fitL_length]; exact h)]
 simp only [fitL_map, List.getElem_map]
def FitEv (x : VS) : Prop := Ev (fun k => spec_Fit.f k x.f0 x.f1 x.f2 x.f3 x.f4) (tup (fitV x))
theorem ev_Fit_l0 (a b : Int) (c : BA) (ks : List BA) (vs : List VS) (p q : Int) (r : BA) (hvl : vs.length ≤ 1759218604400) (hch : ∀ v, v ∈ vs → FitEv v) : ∀ (d i : Nat) (acc : List VS), i + d = vs.length → acc.length = i →
  Ev (fun k => spec_Fit.l0 k (i : Int) a b c ks vs p q r acc) (p, q, r, [], acc ++ (fitL vs).drop i) := by
 intro d
 induction d with
 | zero =>
  intro i acc hi ha
  refine ev_step (fun k => ?_) (Ev.now _)
  simp only [spec_Fit.l0]
  rw [if_neg (by omega), List.drop_eq_nil_of_le (by rw [fitL_length]; omega), List.append_nil]
 | succ d ih =>
  intro i acc hi ha
  have hlt : i < vs.length := by omega
  refine ev_step (f := fun k => (spec_Fit.f k vs[i].f0 vs[i].f1 vs[i].f2 vs[i].f3 vs[i].f4).bind fun bt => spec_Fit.l0 k ((i + 1 : Nat) : Int) a b c ks vs p q r (acc ++ [(⟨bt.1, bt.2.1, bt.2.2.1, bt.2.2.2.1, bt.2.2.2.2⟩ : VS)])) (fun k => ?_) ?_
  ·simp only [spec_Fit.l0]
   rw [if_pos (by omega), if_pos (by omega), rdS hlt]
   refine congrArg _ (funext fun bt => ?_)
   rw [if_pos (by omega), wrapS i (by omega)]
  ·refine ev_bind (hch vs[i] (List.getElem_mem hlt)) ?_
   have := ih (i + 1) (acc ++ [fitV vs[i]]) (by omega) (by simp [ha])
   rw [List.append_assoc, List.singleton_append, ← fitL_drop hlt] at this
   simp only [tup, etaS]
   exact this
theorem ev_Fit_l1 (a b : Int) (c : BA) (ks : List BA) (vs : List VS) (hkl : ks.length ≤ 8796093022000) (hvl : vs.length ≤ 1759218604400) (hch : ∀ v, v ∈ vs → FitEv v) : ∀ (d i : Nat) (K : List BA) (V : List VS), i + d = ks.length → K.length = V.length → V.length ≤ i → V.length ≤ vs.length →
  Ev (fun k => spec_Fit.l1 k (i : Int) a b c ks vs 5 0 ⟨#[]⟩ K V) (5, 0, ⟨#[]⟩, (fitW (ks.drop i) ((fitL vs).drop i) K V).1, (fitW (ks.drop i) ((fitL vs).drop i) K V).2) := by
 intro d
 induction d with
 | zero =>
  intro i K V hi hKV hVi hVv
  rw [List.drop_eq_nil_of_le (by omega : ks.length ≤ i)]
  refine ev_step (fun k => ?_) (f := fun k => spec_Fit.j2 k (i : Int) false a b c ks vs 5 0 ⟨#[]⟩ K V) (ev_step (fun k => ?_) (Ev.now _))
  ·simp only [spec_Fit.l1]
   rw [if_neg (by omega)]
  ·simp only [spec_Fit.j2]
   rw [if_neg (by decide)]
   rfl
 | succ d ih =>
  intro i K V hi hKV hVi hVv
  have hlt : i < ks.length := by omega
  have hd : ks.drop i = ks[i] :: ks.drop (i + 1) := List.drop_eq_getElem_cons hlt
  by_cases hv : i < vs.length
  ·refine ev_step (fun k => ?_) (f := fun k => spec_Fit.j2 k (i : Int) true a b c ks vs 5 0 ⟨#[]⟩ K V) (ev_step (f := fun k => (spec_Fit.f k vs[i].f0 vs[i].f1 vs[i].f2 vs[i].f3 vs[i].f4).bind fun bt => (spec_With.f k 5 0 ⟨#[]⟩ K V ks[i] bt.1 bt.2.1 bt.2.2.1 bt.2.2.2.1 bt.2.2.2.2).bind fun bu => spec_Fit.l1 k ((i + 1 : Nat) : Int) a b c ks vs bu.1 bu.2.1 bu.2.2.1 bu.2.2.2.1 bu.2.2.2.2) (fun k => ?_) ?_)
   ·simp only [spec_Fit.l1]
    rw [if_pos (by omega), decide_eq_true (show (i : Int) < (vs.length : Int) by omega)]
   ·simp only [spec_Fit.j2]
    rw [if_pos trivial, if_pos (by omega), if_pos (by omega), if_pos (by omega), rdS hv, rdB hlt, wrapS i (by omega)]
   ·refine ev_bind (hch vs[i] (List.getElem_mem hv)) (ev_bind (a := (5, 0, ⟨#[]⟩, withK K ks[i], withV K V ks[i] (fitV vs[i]))) (ev_now (fun k => ?_)) ?_)
    ·show spec_With.f k 5 0 ⟨#[]⟩ K V ks[i] (fitV vs[i]).f0 (fitV vs[i]).f1 (fitV vs[i]).f2 (fitV vs[i]).f3 (fitV vs[i]).f4 = _
     unfold spec_With.f
     rw [if_pos ⟨hKV, by omega⟩, etaS]
    ·have hl1 := withV_length (key := ks[i]) (x := fitV vs[i]) hKV
     have hl2 := withK_length (ks := K) (key := ks[i])
     have := ih (i + 1) (withK K ks[i]) (withV K V ks[i] (fitV vs[i])) (by omega) hl1.symm (by omega) (by omega)
     rw [hd, fitL_drop hv]
     exact this
  ·rw [List.drop_eq_nil_of_le (show (fitL vs).length ≤ i by rw [fitL_length]; omega), fitW_nil]
   refine ev_step (fun k => ?_) (f := fun k => spec_Fit.j2 k (i : Int) false a b c ks vs 5 0 ⟨#[]⟩ K V) (ev_step (fun k => ?_) (Ev.now _))
   ·simp only [spec_Fit.l1]
    rw [if_pos (by omega), decide_eq_false (show ¬ (i : Int) < (vs.length : Int) by omega)]
   ·simp only [spec_Fit.j2]
    rw [if_neg (by decide)]
theorem ev_Fit : ∀ x : VS, SmallS x → FitEv x := by
 intro x hx
 induction hx with
 | mk x ht hk hkl hvl hv ih =>
  obtain ⟨k, n, t, ks, vs⟩ := x
  unfold FitEv
  by_cases h1 : k = 1
  ·subst h1
   refine ev_step (f := fun _ => some (tup (fitV ⟨1, n, t, ks, vs⟩))) (fun j => ?_) (Ev.now _)
   by_cases hn : n = 0
   ·subst hn
    simp [spec_Fit.f, spec_B.f, fitV, tup, leaf]
   ·simp [spec_Fit.f, spec_B.f, fitV, tup, leaf, hn]
  by_cases h2 : k = 2
  ·subst h2
   exact ev_step (f := fun _ => some (tup (fitV ⟨2, n, t, ks, vs⟩))) (fun j => by simp [spec_Fit.f, spec_N.f, fitV, tup, leaf]) (Ev.now _)
  by_cases h3 : k = 3
  ·subst h3
   exact ev_step (f := fun _ => some (tup (fitV ⟨3, n, t, ks, vs⟩))) (fun j => by simp [spec_Fit.f, spec_T.f, fitV, tup, leaf]) (Ev.now _)
  by_cases h4 : k = 4
  ·subst h4
   have h := ev_Fit_l0 4 n t ks vs 4 0 ⟨#[]⟩ hvl ih vs.length 0 [] (by omega) rfl
   rw [List.drop_zero, List.nil_append] at h
   have e : tup (fitV ⟨4, n, t, ks, vs⟩) = (4, 0, ⟨#[]⟩, [], fitL vs) := by simp [fitV, tup]
   rw [e]
   exact ev_step (fun j => by simp [spec_Fit.f]) h
  by_cases h5 : k = 5
  ·subst h5
   have h := ev_Fit_l1 5 n t ks vs hkl hvl ih ks.length 0 [] [] (by omega) rfl (by simp) (by simp)
   rw [List.drop_zero, List.drop_zero] at h
   have e : tup (fitV ⟨5, n, t, ks, vs⟩) = (5, 0, ⟨#[]⟩, (fitW ks (fitL vs) [] []).1, (fitW ks (fitL vs) [] []).2) := by simp [fitV, tup]
   rw [e]
   exact ev_step (fun j => by simp [spec_Fit.f, spec_Empty.f]) h
  ·exact ev_step (f := fun _ => some (tup (fitV ⟨k, n, t, ks, vs⟩))) (fun j => by simp [spec_Fit.f, fitV, tup, leaf, h1, h2, h3, h4, h5]) (Ev.now _)
end Go.Proofs.YtgdmdflbcbibjaaGreatDoor.Tr
namespace Go.Proofs.YtgdmdflbcbibjaaGreatDoor.Tr
open Go.RowKit Go.Proofs.YtgdmdflbcbibjaaGreatDoorW.PrintWords Go.Proofs.YtgdmdflbcbibjaaGreatDoorW.PrintLast Go.Proofs.YtgdmdflbcbibjaaGreatDoor.Str Go.Proofs.YtgdmdflbcbibjaaGreatDoor.Kit Go.Proofs.YtgdmdflbcbibjaaGreatDoor.MapV Go.Proofs.YtgdmdflbcbibjaaGreatDoor.Frame Go.Proofs.YtgdmdflbcbibjaaGreatDoor.PS
open Go.Proofs.YtgdmdflbcbibjaaGreatDoor.Val (place placeI placeB placeI_hit placeI_end)
set_option linter.unusedVariables false
set_option linter.unusedSimpArgs false
mutual
def toI : VS → VI
 | ⟨k, n, t, ks, vs⟩ => ⟨k, n, t, ks, toL vs⟩
def toL : List VS → List VI
 | [] => []
 | v :: r => toI v :: toL r
end
theorem toL_map : ∀ vs, toL vs = vs.map toI
 | [] => by simp [toL]
 | v :: r => by simp [toL, toL_map r]
theorem toL_length (vs : List VS) : (toL vs).length = vs.length := by rw [toL_map, List.length_map]
theorem etaI (x : VI) : (⟨x.f0, x.f1, x.f2, x.f3, x.f4⟩ : VI) = x := by cases x; rfl
theorem toI_eq (x : VS) : toI x = ⟨x.f0, x.f1, x.f2, x.f3, toL x.f4⟩ := by cases x; simp [toI]
theorem toL_drop {vs : List VS} {i : Nat} (h : i < vs.length) : (toL vs).drop i = toI vs[i] :: (toL vs).drop (i + 1) := by
 rw [List.drop_eq_getElem_cons (by rw [toL_length]; exact h)]
 simp only [toL_map, List.getElem_map]
def tupI (x : VI) : Int × Int × BA × List BA × List VI := (x.f0, x.f1, x.f2, x.f3, x.f4)
def ToEv (x : VS) : Prop := Ev (fun k => laws_to.f k x.f0 x.f1 x.f2 x.f3 x.f4) (tupI (toI x))
theorem ev_to_l0 (a b : Int) (c : BA) (ks : List BA) (vs : List VS) (p q : Int) (r : BA) (rk : List BA) (hvl : vs.length ≤ 1759218604400) (hch : ∀ v, v ∈ vs → ToEv v) : ∀ (d i : Nat) (acc : List VI), i + d = vs.length → acc.length = i →
  Ev (fun k => laws_to.l0 k (i : Int) a b c ks vs p q r rk acc) (p, q, r, rk, acc ++ (toL vs).drop i) := by
 intro d
 induction d with
 | zero =>
  intro i acc hi ha
  refine ev_step (fun k => ?_) (Ev.now _)
  simp only [laws_to.l0]
  rw [if_neg (by omega), List.drop_eq_nil_of_le (by rw [toL_length]; omega), List.append_nil]
 | succ d ih =>
  intro i acc hi ha
  have hlt : i < vs.length := by omega
  refine ev_step (f := fun k => (laws_to.f k vs[i].f0 vs[i].f1 vs[i].f2 vs[i].f3 vs[i].f4).bind fun bt => laws_to.l0 k ((i + 1 : Nat) : Int) a b c ks vs p q r rk (acc ++ [(⟨bt.1, bt.2.1, bt.2.2.1, bt.2.2.2.1, bt.2.2.2.2⟩ : VI)])) (fun k => ?_) ?_
  ·simp only [laws_to.l0]
   rw [if_pos (by omega), if_pos (by omega), rdS hlt]
   refine congrArg _ (funext fun bt => ?_)
   rw [if_pos (by omega), wrapS i (by omega)]
  ·refine ev_bind (hch vs[i] (List.getElem_mem hlt)) ?_
   have := ih (i + 1) (acc ++ [toI vs[i]]) (by omega) (by simp [ha])
   rw [List.append_assoc, List.singleton_append, ← toL_drop hlt] at this
   simp only [tupI, etaI]
   exact this
theorem ev_to : ∀ x : VS, SmallS x → ToEv x := by
 intro x hx
 induction hx with
 | mk x ht hk hkl hvl hv ih =>
  obtain ⟨k, n, t, ks, vs⟩ := x
  have hkl' : ks.length ≤ 8796093022000 := hkl
  have h := ev_to_l0 k n t ks vs k n t ks hvl ih vs.length 0 [] (by omega) rfl
  rw [List.drop_zero, List.nil_append] at h
  unfold ToEv
  rw [toI_eq]
  refine ev_step (fun j => ?_) h
  simp only [laws_to.f, Option.bind_some, List.nil_append, List.length_nil, Nat.zero_add]
  rw [if_pos (by omega)]
  rfl
theorem small_to : ∀ x : VS, SmallS x → Small (toI x) := by
 intro x hx
 induction hx with
 | mk x ht hk hkl hvl hv ih =>
  rw [toI_eq]
  refine Small.mk _ hk hkl (by show (toL x.f4).length ≤ _; rw [toL_length]; exact hvl) (fun v hv' => ?_)
  have hv2 : v ∈ x.f4.map toI := by rw [← toL_map]; exact hv'
  obtain ⟨u, hu, rfl⟩ := List.mem_map.1 hv2
  exact ih u hu
theorem withK_mem {ks : List BA} {key s : BA} (h : s ∈ withK ks key) : s ∈ ks ∨ s = key := by
 unfold withK at h
 split at h
 ·exact .inl h
 ·rcases List.mem_append.1 h with h | h
  ·exact .inl (List.mem_of_mem_take h)
  ·rcases List.mem_append.1 h with h | h
   ·exact .inr (by simpa using h)
   ·exact .inl (List.mem_of_mem_drop h)
theorem withV_mem {α : Type} {ks : List BA} {vs : List α} {key : BA} {x v : α} (h : v ∈ withV ks vs key x) : v ∈ vs ∨ v = x := by
 unfold withV at h
 split at h
 ·exact List.mem_or_eq_of_mem_set h
 ·rcases List.mem_append.1 h with h | h
  ·exact .inl (List.mem_of_mem_take h)
  ·rcases List.mem_append.1 h with h | h
   ·exact .inr (by simpa using h)
   ·exact .inl (List.mem_of_mem_drop h)
def RiseK (ks : List BA) : Prop := ks.Pairwise (fun a b => lb a < lb b)
theorem place_cons_lt {x key : BA} {r : List BA} (h : lb x < lb key) : placeI (x :: r) key = placeI r key + 1 ∧ placeB (x :: r) key = placeB r key := by
 have h1 : placeI (x :: r) key = placeI r key + 1 := by
  unfold placeI
  rw [List.takeWhile_cons_of_pos (by simpa using h), List.length_cons]
 refine ⟨h1, ?_⟩
 unfold placeB
 rw [h1, List.getElem?_cons_succ]
theorem place_cons_ge {x key : BA} {r : List BA} (h : ¬ lb x < lb key) : placeI (x :: r) key = 0 ∧ placeB (x :: r) key = (x.toList == key.toList) := by
 have h1 : placeI (x :: r) key = 0 := by
  unfold placeI
  rw [List.takeWhile_cons_of_neg (by simpa using h)]
  rfl
 refine ⟨h1, ?_⟩
 unfold placeB
 rw [h1, List.getElem?_cons_zero]
theorem withK_rises : ∀ {ks : List BA} {key : BA}, RiseK ks → RiseK (withK ks key)
 | [], key, _ => by
  have : withK [] key = [key] := rfl
  rw [this]
  simp [RiseK]
 | x :: r, key, h => by
  obtain ⟨h1, h2⟩ := List.pairwise_cons.1 h
  by_cases hl : lb x < lb key
  ·obtain ⟨e1, e2⟩ := place_cons_lt (r := r) hl
   have e : withK (x :: r) key = x :: withK r key := by
    unfold withK
    rw [e1, e2]
    split
    ·rfl
    ·rfl
   rw [e]
   refine List.pairwise_cons.2 ⟨fun s hs => ?_, withK_rises h2⟩
   rcases withK_mem hs with hs | rfl
   ·exact h1 s hs
   ·exact hl
  ·obtain ⟨e1, e2⟩ := place_cons_ge (r := r) hl
   by_cases he : x.toList = key.toList
   ·have e : withK (x :: r) key = x :: r := by
     unfold withK
     rw [e2, if_pos (by simpa using he)]
    rw [e]
    exact h
   ·have hne : lb x ≠ lb key := fun e => he (by rw [toList_lb, toList_lb, e])
    have hgt : lb key < lb x := by
     rcases lt_total (lb x) (lb key) with e | e | e
     ·exact absurd e hl
     ·exact absurd e hne
     ·exact e
    have e : withK (x :: r) key = key :: x :: r := by
     unfold withK
     rw [e1, e2, if_neg (by simpa using he)]
     rfl
    rw [e]
    refine List.pairwise_cons.2 ⟨fun s hs => ?_, h⟩
    rcases List.mem_cons.1 hs with rfl | hs
    ·exact hgt
    ·exact lt_trans hgt (h1 s hs)
theorem fitW_facts : ∀ (ks : List BA) (vs : List VS) (K : List BA) (V : List VS), K.length = V.length → RiseK K →
  (fitW ks vs K V).1.length = (fitW ks vs K V).2.length ∧ RiseK (fitW ks vs K V).1 ∧ (fitW ks vs K V).1.length ≤ K.length + ks.length ∧ (fitW ks vs K V).2.length ≤ V.length + vs.length ∧ (∀ s, s ∈ (fitW ks vs K V).1 → s ∈ K ∨ s ∈ ks) ∧ (∀ v, v ∈ (fitW ks vs K V).2 → v ∈ V ∨ v ∈ vs)
 | [], vs, K, V, hl, hr => ⟨hl, hr, by simp [fitW], by simp [fitW], fun s h => .inl h, fun v h => .inl h⟩
 | k :: ks, [], K, V, hl, hr => ⟨hl, hr, by simp [fitW], by simp [fitW], fun s h => .inl h, fun v h => .inl h⟩
 | k :: ks, v :: vs, K, V, hl, hr => by
  have hlv := withV_length (key := k) (x := v) hl
  have hlk := withK_length (ks := K) (key := k)
  obtain ⟨a, b, c, d, e, f⟩ := fitW_facts ks vs (withK K k) (withV K V k v) hlv.symm (withK_rises hr)
  refine ⟨a, b, ?_, ?_, fun s hs => ?_, fun u hu => ?_⟩
  ·show (fitW ks vs (withK K k) (withV K V k v)).1.length ≤ _
   rw [List.length_cons]
   omega
  ·show (fitW ks vs (withK K k) (withV K V k v)).2.length ≤ _
   rw [List.length_cons]
   omega
  ·rcases e s hs with h | h
   ·rcases withK_mem h with h | rfl
    ·exact .inl h
    ·exact .inr (by simp)
   ·exact .inr (by simp [h])
  ·rcases f u hu with h | h
   ·rcases withV_mem h with h | rfl
    ·exact .inl h
    ·exact .inr (by simp)
   ·exact .inr (by simp [h])
inductive Fitted : VS → Prop
 | mk (x : VS) (hl : x.f3.length = x.f4.length ∨ x.f3 = []) (hr : RiseK x.f3) (h5 : x.f0 ≠ 5 → x.f3 = []) (hm : x.f0 = 5 → x.f3.length = x.f4.length) (hv : ∀ v, v ∈ x.f4 → Fitted v) : Fitted x
theorem leaf_fitted (k n : Int) (t : BA) : Fitted (leaf k n t) := .mk _ (.inr rfl) List.Pairwise.nil (fun _ => rfl) (fun _ => rfl) (fun v h => by cases h)
theorem leaf_small (k n : Int) (t : BA) (ht : t.size ≤ 140737488355328) : SmallS (leaf k n t) := .mk _ ht (fun s h => by cases h) (Nat.zero_le _) (Nat.zero_le _) (fun v h => by cases h)
theorem fit_facts : ∀ x : VS, SmallS x → SmallS (fitV x) ∧ Fitted (fitV x) := by
 intro x hx
 induction hx with
 | mk x ht hk hkl hvl hv ih =>
  obtain ⟨k, n, t, ks, vs⟩ := x
  have hch : ∀ v, v ∈ fitL vs → SmallS v ∧ Fitted v := by
   intro v hv'
   rw [fitL_map] at hv'
   obtain ⟨u, hu, rfl⟩ := List.mem_map.1 hv'
   exact ih u hu
  unfold fitV
  split
  ·split
   ·exact ⟨leaf_small _ _ _ (by first | exact ht | exact Nat.zero_le _), leaf_fitted _ _ _⟩
   ·exact ⟨leaf_small _ _ _ (by first | exact ht | exact Nat.zero_le _), leaf_fitted _ _ _⟩
  split
  ·exact ⟨leaf_small _ _ _ (by first | exact ht | exact Nat.zero_le _), leaf_fitted _ _ _⟩
  split
  ·exact ⟨leaf_small _ _ _ (by first | exact ht | exact Nat.zero_le _), leaf_fitted _ _ _⟩
  split
  ·refine ⟨.mk _ (Nat.zero_le _) (fun s h => by cases h) (Nat.zero_le _) (by show (fitL vs).length ≤ _; rw [fitL_length]; exact hvl) (fun v h => (hch v h).1), .mk _ (.inr rfl) List.Pairwise.nil (fun _ => rfl) (fun h => by cases h) (fun v h => (hch v h).2)⟩
  split
  ·obtain ⟨a, b, c, d, e, f⟩ := fitW_facts ks (fitL vs) [] [] rfl List.Pairwise.nil
   have hkl' : ks.length ≤ 8796093022000 := hkl
   have hvl' : vs.length ≤ 1759218604400 := hvl
   rw [fitL_length] at d
   simp only [List.length_nil, Nat.zero_add] at c d
   have f' : ∀ v, v ∈ (fitW ks (fitL vs) [] []).2 → SmallS v ∧ Fitted v := fun v h => by
    rcases f v h with h | h
    ·cases h
    ·exact hch v h
   refine ⟨.mk _ (Nat.zero_le _) (fun s h => ?_) (by show (fitW ks (fitL vs) [] []).1.length ≤ _; omega) (by show (fitW ks (fitL vs) [] []).2.length ≤ _; omega) (fun v h => (f' v h).1), .mk _ (.inl a) b (fun h => absurd rfl h) (fun _ => a) (fun v h => (f' v h).2)⟩
   rcases e s h with h | h
   ·cases h
   ·exact hk s h
  ·exact ⟨leaf_small _ _ _ (by first | exact ht | exact Nat.zero_le _), leaf_fitted _ _ _⟩
theorem fitM_id {α : Type} : ∀ {l : List (Bs × α)}, Rises l → fitM l = l := by
 intro l
 have go : ∀ (r f : List (Bs × α)), Rises (f ++ r) → r.foldl (fun f p => mput f p.1 p.2) f = f ++ r := by
  intro r
  induction r with
  | nil => intro f _; simp
  | cons p r ih =>
   intro f h
   have hp : mput f p.1 p.2 = f ++ [p] := by
    have h1 := mput_ins (key := p.1) (v := p.2) f.length (f := f) ((List.pairwise_append.1 h).1) (fun j hj _ => (List.pairwise_append.1 h).2.2 _ (List.getElem_mem hj) p (by simp)) (Nat.le_refl _) (fun h => absurd h (Nat.lt_irrefl _))
    rw [h1, List.take_length, List.drop_length]
   rw [List.foldl_cons, hp, ih (f ++ [p]) (by simpa using h)]
   simp
 intro h
 have := go l [] (by simpa using h)
 simpa [fitM] using this
theorem pairs_rise {α : Type} {ks : List BA} : ∀ {ys : List α}, RiseK ks → Rises ((ks.map lb).zip ys) := by
 induction ks with
 | nil => intro ys _; exact List.Pairwise.nil
 | cons x r ih =>
  intro ys h
  cases ys with
  | nil => exact List.Pairwise.nil
  | cons y ys =>
   obtain ⟨h1, h2⟩ := List.pairwise_cons.1 h
   rw [List.map_cons, List.zip_cons_cons]
   refine List.pairwise_cons.2 ⟨fun p hp => ?_, ih h2⟩
   obtain ⟨a, b⟩ := p
   obtain ⟨s, hs, rfl⟩ := List.mem_map.1 (List.of_mem_zip hp).1
   exact h1 s hs
end Go.Proofs.YtgdmdflbcbibjaaGreatDoor.Tr
namespace Go.Proofs.YtgdmdflbcbibjaaGreatDoor.PS
open Go.RowKit Go.Proofs.YtgdmdflbcbibjaaGreatDoorW.PrintWords Go.Proofs.YtgdmdflbcbibjaaGreatDoorW.PrintLast Go.Proofs.YtgdmdflbcbibjaaGreatDoorW.PrintMore
attribute [local go_sem] max2_int min2_int max_two min_two max_three min_three max_four min_four 
set_option linter.unusedVariables false
set_option linter.unusedSimpArgs false
mutual
def laws_from.l0 : Nat → Int → Int → Int → ByteArray → List ByteArray → List (S31) → Int → Int → ByteArray → List ByteArray → List (S25) → Option (Int × Int × ByteArray × List ByteArray × (List (S25)))
 | 0, _, _, _, _, _, _, _, _, _, _, _ => none
 | k + 1, x4, x239000, x239001, x239002, x239003, x239004, x247000, x247001, x247002, x247003, x247004 => if x4 < (x239004.length : Int) then (if 0 ≤ x4 then ((laws_from.f k ((rd_T31 x239004 x4).f0) ((rd_T31 x239004 x4).f1) ((rd_T31 x239004 x4).f2) ((rd_T31 x239004 x4).f3) ((rd_T31 x239004 x4).f4)).bind fun bt248 => (if x247004.length < 1759218604441 then (laws_from.l0 k (wrap64 (x4 + 1)) x239000 x239001 x239002 x239003 x239004 x247000 x247001 x247002 x247003 (x247004 ++ [(⟨bt248.1, bt248.2.1, bt248.2.2.1, bt248.2.2.2.1, bt248.2.2.2.2⟩ : S25)])) else (none))) else (none)) else (some (x247000, x247001, x247002, x247003, x247004))
def laws_from.f : Nat → Int → Int → ByteArray → List ByteArray → List (S31) → Option (Int × Int × ByteArray × List ByteArray × (List (S25)))
 | 0, _, _, _, _, _ => none
 | k + 1, a0_0, a0_1, a0_2, l0_3, l0_4 => (some (([] : List ByteArray) : List ByteArray)).bind fun y240 => (if y240.length + l0_3.length < 8796093022208 then (laws_from.l0 k 0 a0_0 a0_1 a0_2 l0_3 l0_4 a0_0 a0_1 a0_2 (y240 ++ l0_3) ([] : List (S25))) else (none))
end
def laws_from.T1 : Bool × List (List Nat × List Nat) := (true, [([], []), ([0], [0]), ([], []), ([2], [2]), ([], []), ([4], [4]), ([], []), ([], []), ([7], [7]), ([6, 8], [6, 8]), ([1, 3, 5, 9], [1, 3, 5, 9]), ([], []), ([11, 10, 9, 0, 1, 2, 3, 4, 5, 6, 7, 8, 9, 10, 11], [10, 11])])
def laws_from.B1 : List Nat := [0, 1, 0, 4, 0, 16, 0, 0, 128, 448, 1023, 0, 4095]
theorem laws_from.tab1 : rtab .any (opsOf Tryz.f12 1) = laws_from.T1 := by kernel_rfl
theorem laws_from.bits1 : waitsOk laws_from.T1.2 laws_from.B1 = true := by kernel_rfl
def laws_from.T5 : Bool × List (List Nat × List Nat) := (true, [([], []), ([0], [0]), ([], []), ([2], [2]), ([], []), ([3, 4], [3, 4]), ([5], [5]), ([6], [6]), ([7], [7]), ([1, 8, 7], [1, 8]), ([0, 1, 2, 3, 4, 5, 6, 7, 8, 9], []), ([10, 9, 9, 0, 1, 2, 3, 4, 5, 6, 7, 8, 9], [9, 10])])
def laws_from.B5 : List Nat := [0, 1, 0, 4, 0, 28, 60, 124, 252, 511, 1023, 2047]
theorem laws_from.tab5 : rtab .any (opsOf Tryz.f12 5) = laws_from.T5 := by kernel_rfl
theorem laws_from.bits5 : waitsOk laws_from.T5.2 laws_from.B5 = true := by kernel_rfl
set_option maxHeartbeats 8000000 in
set_option maxRecDepth 100000 in
theorem laws_from.calls (k : Nat) : ∀ (a0_0 : Int) (a0_1 : Int) (a0_2 : ByteArray) (A0_3 : Option Addr) (c0_3 : Nat) (l0_3 : List ByteArray) (A0_4 : Option Addr) (c0_4 : Nat) (l0_4 : List (S31)) (r1 : Int) (r2 : Int) (r3 : ByteArray) (r4 : List ByteArray) (r5 : List (S25)) (w : World) (hr0_3 : Kd.C Kd.string w A0_3 l0_3.length l0_3) (hc0_3 : l0_3.length ≤ c0_3) (hr0_4 : Kd.C k31 w A0_4 l0_4.length l0_4) (hc0_4 : l0_4.length ≤ c0_4) (h : laws_from.f k a0_0 a0_1 a0_2 l0_3 l0_4 = some (r1, r2, r3, r4, r5)),
  Calls Tryz.prog 12 #[.agg #[.int .i64 a0_0, .int .i64 a0_1, .string a0_2, .slice A0_3 l0_3.length c0_3, .slice A0_4 l0_4.length c0_4]] w fun e w' => ∃ v3_ v4_ : Value, e = .returned (.agg #[.int .i64 r1, .int .i64 r2, .string r3, v3_, v4_]) ∧ Kd.R Kd.string 9 w' w.heap.size (fun _ => True) v3_ r4 ∧ Kd.R k25 25 w' w.heap.size (fun k_ => some k_ ≠ (v3_ : Value).ownBlock) v4_ r5 ∧ Below w.heap.size w w' := by
 induction k using Nat.strongRecOn with
 | _ k ih =>
 intro a0_0 a0_1 a0_2 A0_3 c0_3 l0_3 A0_4 c0_4 l0_4 r1 r2 r3 r4 r5 w hr0_3 hc0_3 hr0_4 hc0_4 h
 cases k with
 | zero => exact absurd h (by simp [laws_from.f])
 | succ k =>
 simp only [laws_from.f] at h
 have hu31 := Tryz.underlying31
 have hu25 := Tryz.underlying25
 have HR0_3 := aM hr0_3
 have HC0_3 := aM hc0_3
 clear hr0_3 hc0_3
 have HR0_4 := aM hr0_4
 have HC0_4 := aM hc0_4
 clear hr0_4 hc0_4
 have HB := aM (Below.refl w.heap.size w)
 have H : ((some (([] : List ByteArray) : List ByteArray)).bind fun y240 => (if y240.length + l0_3.length < 8796093022208 then (laws_from.l0 k 0 a0_0 a0_1 a0_2 l0_3 l0_4 a0_0 a0_1 a0_2 (y240 ++ l0_3) ([] : List (S25))) else (none))) = some (r1, r2, r3, r4, r5) := h
 clear h
 obtain ⟨y240, hy240⟩ : ∃ y_ : List ByteArray, y_ = (([] : List ByteArray)) := ⟨_, rfl⟩
 replace H : (if y240.length + l0_3.length < 8796093022208 then (laws_from.l0 k 0 a0_0 a0_1 a0_2 l0_3 l0_4 a0_0 a0_1 a0_2 (y240 ++ l0_3) ([] : List (S25))) else (none)) = some (r1, r2, r3, r4, r5) := by first | (rw [hy240]; with_reducible exact H) | (have H2_ := (Option.bind_some _ _).symm.trans H; rw [hy240]; with_reducible exact H2_) | (have H2_ := (Option.bind_some _ _).symm.trans H; with_reducible exact H2_) | with_reducible exact H | (rw [hy240]; exact H) | exact H
 have Ny240 := aM hy240
 clear hy240
 by_cases c2 : y240.length + l0_3.length < 8796093022208
 ·rw [if_pos c2] at H
  have LMc2 := aM c2
  clear c2
  obtain ⟨y243, hy243⟩ : ∃ y_ : List ByteArray, y_ = (y240 ++ l0_3) := ⟨_, rfl⟩
  replace H : (laws_from.l0 k 0 a0_0 a0_1 a0_2 l0_3 l0_4 a0_0 a0_1 a0_2 y243 ([] : List (S25))) = some (r1, r2, r3, r4, r5) := by first | (rw [hy243]; with_reducible exact H) | (have H2_ := (Option.bind_some _ _).symm.trans H; rw [hy243]; with_reducible exact H2_) | (have H2_ := (Option.bind_some _ _).symm.trans H; with_reducible exact H2_) | with_reducible exact H | (rw [hy243]; exact H) | exact H
  have Ny243 := aM hy243
  clear hy243
  have H' := aM H
  clear H
  go_enter Tryz.func12, Tryz.ntmps12
  try go_wp2_with (first | ((with_reducible refine gate_dst (N := 1) rfl ?_); refine box_event ?hg (N := 1) ?hd (cs := #[.int .i64 a0_0, .int .i64 a0_1, .string a0_2, .slice A0_3 l0_3.length c0_3, .slice A0_4 l0_4.length c0_4]) (t := 31) ?hr ?_; (case hd => rfl); (case hg => rfl); (case hr => first | (go_simp; done) | (go_simp; rfl)); intro gb238 hg w3 hbox hb; have n0_ := aM (below_step (by repeat (first | (with_reducible first | exact HB.out | apply below_alloc | apply pw_below_drewN | apply below_drew1) | exact HB.out)) hb); have n1_ := aM (hbox); have n2_ := aM ((by rw [hg]; exact (below_size (by repeat (first | (with_reducible first | exact HB.out | apply below_alloc | apply pw_below_drewN | apply below_drew1) | exact HB.out))) : w.heap.size ≤ gb238)); have n3_ := aM ((by rw [hg]; exact (below_size (by repeat (first | (with_reducible first | exact HB.out | apply below_alloc | apply pw_below_drewN | apply below_drew1) | exact HB.out))) : w.heap.size ≤ gb238)); clear HB; have HB := n0_; have BK238 := n1_; have GW238 := n2_; have GE238 := n3_; clear n0_ n1_ n2_ n3_; clear hb hbox hg) | ((with_reducible refine gate_dst (N := 2) rfl ?_); refine box_event ?hg (N := 2) ?hd (cs := #[.int .i64 0, .int .i64 0, .string (⟨#[]⟩ : ByteArray), .slice none 0 0, .slice none 0 0]) (t := 25) ?hr ?_; (case hd => rfl); (case hg => rfl); (case hr => first | (go_simp; done) | (go_simp; rfl)); intro gb239 hg w4 hbox hb; have n0_ := aM (blk_below (g := gb238) (o := .cells #[.int .i64 a0_0, .int .i64 a0_1, .string a0_2, .slice A0_3 l0_3.length c0_3, .slice A0_4 l0_4.length c0_4] 31 (0, 0)) (by (with_reducible repeat (first | refine blk_drewN ?_ _ | refine blk_drew ?_ | refine blk_alloc ?_ _)); exact BK238.out) hb); have n1_ := aM (below_step (by repeat (first | (with_reducible first | exact HB.out | apply below_alloc | apply pw_below_drewN | apply below_drew1 | refine below_set ?_ GE238.out) | exact HB.out)) hb); have n2_ := aM (hbox); have n3_ := aM ((by rw [hg]; exact (below_size (by repeat (first | (with_reducible first | exact HB.out | apply below_alloc | apply pw_below_drewN | apply below_drew1 | refine below_set ?_ GE238.out) | exact HB.out))) : w.heap.size ≤ gb239)); have n4_ := aM ((by rw [hg]; exact (below_size (by repeat (first | (with_reducible first | exact HB.out | apply below_alloc | apply pw_below_drewN | apply below_drew1 | refine below_set ?_ GE238.out) | exact HB.out))) : w.heap.size ≤ gb239)); have n5_ := aM ((by rw [hg]; exact Nat.ne_of_lt (blk_lt (g := gb238) (o := .cells #[.int .i64 a0_0, .int .i64 a0_1, .string a0_2, .slice A0_3 l0_3.length c0_3, .slice A0_4 l0_4.length c0_4] 31 (0, 0)) (by (with_reducible repeat (first | refine blk_drewN ?_ _ | refine blk_drew ?_ | refine blk_alloc ?_ _)); exact BK238.out)) : gb238 ≠ gb239)); have n6_ := aM ((by rw [hg]; exact Nat.ne_of_gt (blk_lt (g := gb238) (o := .cells #[.int .i64 a0_0, .int .i64 a0_1, .string a0_2, .slice A0_3 l0_3.length c0_3, .slice A0_4 l0_4.length c0_4] 31 (0, 0)) (by (with_reducible repeat (first | refine blk_drewN ?_ _ | refine blk_drew ?_ | refine blk_alloc ?_ _)); exact BK238.out)) : gb239 ≠ gb238)); clear BK238; clear HB; have BK238 := n0_; have HB := n1_; have BK239 := n2_; have GW239 := n3_; have GE239 := n4_; have NB238_239 := n5_; have NB239_238 := n6_; clear n0_ n1_ n2_ n3_ n4_ n5_ n6_; clear hb hbox hg))
  have n0_ := aM (blk_drew BK238.out)
  have n1_ := aM (blk_drew BK239.out)
  have n2_ := aM (below_drew1 HB.out)
  clear BK238 BK239 HB; have BK238 := n0_; have BK239 := n1_; have HB := n2_; clear n0_ n1_ n2_
  refine start_ (n := 13) (S := fun w' => w'.cell? ⟨gb238, 0, none⟩ = some (.int .i64 a0_0) ∧ w'.cell? ⟨gb238, 1, none⟩ = some (.int .i64 a0_1) ∧ w'.cell? ⟨gb238, 2, none⟩ = some (.string a0_2) ∧ w'.cell? ⟨gb238, 3, none⟩ = some (.slice A0_3 l0_3.length c0_3) ∧ w'.cell? ⟨gb238, 4, none⟩ = some (.slice A0_4 l0_4.length c0_4)) (ds := []) #[false, false, false, false, false, false, false, false, false, false, false, false, false] (by kernel_rfl) rfl rfl ⟨(blk_cell BK238.out 0).trans rfl, (blk_cell BK238.out 1).trans rfl, (blk_cell BK238.out 2).trans rfl, (blk_cell BK238.out 3).trans rfl, (blk_cell BK238.out 4).trans rfl⟩ (fun hHeld => ?_); refine with_tabW laws_from.tab1 laws_from.bits1 (fun HT_ HW_ => ?_)
  generalize w4.drew = w5 at BK238 BK239 HB hHeld ⊢
  refine pure_ (i := 0) (N := some 5) (v := ?_) (a' := ?_) #[true, false, false, false, false, false, false, false, false, false, false, false, false] rfl rfl (any_of HT_.out (by kernel_rfl)) (fun _ _ _ h => h) (Or.inl ⟨by rfl, ?_⟩) ?_ ?_
  rotate_left
  ·intro w'; go_simp; with_reducible rfl
  rotate_left
  ·simp only [Act.put, sA, sB, sC, i64_w, i32_w]; rfl
  refine pure_ (i := 2) (N := some 7) (v := ?_) (a' := ?_) #[true, false, true, false, false, false, false, false, false, false, false, false, false] rfl rfl (any_of HT_.out (by kernel_rfl)) (fun _ _ _ h => h) (Or.inl ⟨by rfl, ?_⟩) ?_ ?_
  rotate_left
  ·intro w'; go_simp; with_reducible rfl
  rotate_left
  ·simp only [Act.put, sA, sB, sC, i64_w, i32_w]; rfl
  refine pure_ (i := 4) (N := some 9) (v := ?_) (a' := ?_) #[true, false, true, false, true, false, false, false, false, false, false, false, false] rfl rfl (any_of HT_.out (by kernel_rfl)) (fun _ _ _ h => h) (Or.inl ⟨by rfl, ?_⟩) ?_ ?_
  rotate_left
  ·intro w'; go_simp; with_reducible rfl
  rotate_left
  ·simp only [Act.put, sA, sB, sC, i64_w, i32_w]; rfl
  refine pure_ (i := 7) (N := some 12) (v := ?_) (a' := ?_) #[true, false, true, false, true, false, false, true, false, false, false, false, false] rfl rfl (any_of HT_.out (by kernel_rfl)) (fun _ _ _ h => h) (Or.inl ⟨by rfl, ?_⟩) ?_ ?_
  rotate_left
  ·intro w'; go_simp; with_reducible rfl
  rotate_left
  ·simp only [Act.put, sA, sB, sC, i64_w, i32_w]; rfl
  refine take_ (i := 1) (N := some 6) (v := ?_) (a' := ?_) #[true, true, true, false, true, false, false, true, false, false, false, false, false] rfl rfl (take_ofW HT_.out HW_.out (by kernel_rfl)) (fun _ _ _ h => h) (Or.inl ⟨by rfl, ?_⟩) hHeld ?_ ?_
  rotate_left
  ·rintro w' ⟨s0, s1, s2, s3, s4⟩
   go_simp; with_reducible rfl
  rotate_left
  ·simp only [Act.put, sA, sB, sC, i64_w, i32_w]; rfl
  refine take_ (i := 3) (N := some 8) (v := ?_) (a' := ?_) #[true, true, true, true, true, false, false, true, false, false, false, false, false] rfl rfl (take_ofW HT_.out HW_.out (by kernel_rfl)) (fun _ _ _ h => h) (Or.inl ⟨by rfl, ?_⟩) hHeld ?_ ?_
  rotate_left
  ·rintro w' ⟨s0, s1, s2, s3, s4⟩
   go_simp; with_reducible rfl
  rotate_left
  ·simp only [Act.put, sA, sB, sC, i64_w, i32_w]; rfl
  refine take_ (i := 5) (N := some 10) (v := ?_) (a' := ?_) #[true, true, true, true, true, true, false, true, false, false, false, false, false] rfl rfl (take_ofW HT_.out HW_.out (by kernel_rfl)) (fun _ _ _ h => h) (Or.inl ⟨by rfl, ?_⟩) hHeld ?_ ?_
  rotate_left
  ·rintro w' ⟨s0, s1, s2, s3, s4⟩
   go_simp; with_reducible rfl
  rotate_left
  ·simp only [Act.put, sA, sB, sC, i64_w, i32_w]; rfl
  refine take_ (i := 8) (N := some 13) (v := ?_) (a' := ?_) #[true, true, true, true, true, true, false, true, true, false, false, false, false] rfl rfl (take_ofW HT_.out HW_.out (by kernel_rfl)) (fun _ _ _ h => h) (Or.inl ⟨by rfl, ?_⟩) hHeld ?_ ?_
  rotate_left
  ·rintro w' ⟨s0, s1, s2, s3, s4⟩
   go_simp; with_reducible rfl
  rotate_left
  ·simp only [Act.put, sA, sB, sC, i64_w, i32_w]; rfl
  refine join_ (σ := Value × Value × Nat) 1 #[true, true, true, true, true, true, true, true, true, true, true, true, false] (fun s_ => [(11, s_.1), (14, s_.2.1), (3, .pointer (some ⟨s_.2.2, 0, none⟩)), (15, .agg #[.int .i64 a0_0, .int .i64 a0_1, .string a0_2, s_.2.1, .slice none 0 0])]) (fun s_ w' => (w'.cell? ⟨gb238, 0, none⟩ = some (.int .i64 a0_0) ∧ w'.cell? ⟨gb238, 1, none⟩ = some (.int .i64 a0_1) ∧ w'.cell? ⟨gb238, 2, none⟩ = some (.string a0_2) ∧ w'.cell? ⟨gb238, 3, none⟩ = some (.slice A0_3 l0_3.length c0_3) ∧ w'.cell? ⟨gb238, 4, none⟩ = some (.slice A0_4 l0_4.length c0_4)) ∧ (Kd.R Kd.string 9 w' w.heap.size (fun _ => True) s_.2.1 y243) ∧ (w'.heap[gb238]? = some (.cells #[.int .i64 a0_0, .int .i64 a0_1, .string a0_2, .slice A0_3 l0_3.length c0_3, .slice A0_4 l0_4.length c0_4] 31 (0, 0))) ∧ (w'.heap[gb239]? = some (.cells #[.int .i64 0, .int .i64 0, .string (⟨#[]⟩ : ByteArray), .slice none 0 0, .slice none 0 0] 25 (0, 0))) ∧ (w'.heap[s_.2.2]? = some (.cells #[.int .i64 0, .int .i64 0, .string (⟨#[]⟩ : ByteArray), .slice none 0 0, .slice none 0 0] 25 (0, 0))) ∧ (w.heap.size ≤ s_.2.2) ∧ (w.heap.size ≤ s_.2.2) ∧ (gb238 ≠ s_.2.2) ∧ (s_.2.2 ≠ gb238) ∧ (gb239 ≠ s_.2.2) ∧ (s_.2.2 ≠ gb239) ∧ (Below w.heap.size w w')) ?_ ?_
  rotate_left
  ·intro hCont
   refine two_ (i := 6) (j := 11) (Ni := some 11) (Nj := some 3) #[true, true, true, true, true, true, true, true, true, false, false, false, false] #[true, true, true, true, true, true, false, true, true, false, false, true, false] rfl rfl rfl rfl (two_of HT_.out (by kernel_rfl)) (by decide) (by decide) (fun K hK => ?_) (fun K hK => ?_)
   ·skip
    refine Kd.R_lit_step Kd.string _ 9 ?hg (N := 11) ?hd (xs := ([] : List ByteArray)) (inner := []) (ok := fun _ => True) (okp := fun _ => True) ?hr ?hp (fun _ hk => hk) trivial (Below.refl _ _) (Nat.le_refl _) (by simp) ?_; (case hd => rfl); (case hg => rfl); (case hr => first | (go_simp; done) | (go_simp; rfl)); (case hp => exact (Reps.none _ _))
    intro v241 w6 ho7 hb hg_ hnew_; clear hg_ hnew_
    (first | rw [← Ny240.out] at ho7 | (simp only [Int.reduceToNat] at ho7; rw [← Ny240.out] at ho7))
    have n0_ := aM (Kd.R_lower ho7 (below_size (by repeat (first | (with_reducible first | exact HB.out | apply below_alloc | apply pw_below_drewN | apply below_drew1 | refine below_set ?_ GE238.out | refine below_set ?_ GE239.out) | exact HB.out))))
    have n1_ := aM (blk_below (g := gb238) (o := .cells #[.int .i64 a0_0, .int .i64 a0_1, .string a0_2, .slice A0_3 l0_3.length c0_3, .slice A0_4 l0_4.length c0_4] 31 (0, 0)) (by (with_reducible repeat (first | refine blk_drewN ?_ _ | refine blk_drew ?_ | refine blk_alloc ?_ _)); exact BK238.out) hb)
    have n2_ := aM (blk_below (g := gb239) (o := .cells #[.int .i64 0, .int .i64 0, .string (⟨#[]⟩ : ByteArray), .slice none 0 0, .slice none 0 0] 25 (0, 0)) (by (with_reducible repeat (first | refine blk_drewN ?_ _ | refine blk_drew ?_ | refine blk_alloc ?_ _)); exact BK239.out) hb)
    have n3_ := aM (below_step (by repeat (first | (with_reducible first | exact HB.out | apply below_alloc | apply pw_below_drewN | apply below_drew1 | refine below_set ?_ GE238.out | refine below_set ?_ GE239.out) | exact HB.out)) hb)
    clear BK238 BK239 HB; have HO242 := n0_; have BK238 := n1_; have BK239 := n2_; have HB := n3_; clear n0_ n1_ n2_ n3_ hb ho7
    refine hK.out _ _ ⟨(blk_cell BK238.out 0).trans rfl, (blk_cell BK238.out 1).trans rfl, (blk_cell BK238.out 2).trans rfl, (blk_cell BK238.out 3).trans rfl, (blk_cell BK238.out 4).trans rfl⟩ (fun hHeld => ?_)
    clear hK K
    refine norm_ (a' := ?_) ?_ ?_
    rotate_left
    ·show Act.put _ (some 11) _ = _
     simp only [Act.put, sA, sB, sC, i64_w, i32_w]; rfl
    refine two_ (i := 9) (j := 11) (Ni := some 14) (Nj := some 3) #[true, true, true, true, true, true, true, true, true, true, false, false, false] #[true, true, true, true, true, true, true, true, true, false, false, true, false] rfl rfl rfl rfl (two_of HT_.out (by kernel_rfl)) (by decide) (by decide) (fun K hK => ?_) (fun K hK => ?_)
    ·skip
     refine Kd.R_append_rows_step Kd.string (w0 := w) w.heap.size (by rfl) (.tmp 11) (.tmp 13) 22 9 (.string ⟨#[]⟩) 16 rfl Tryz.underlying22 info9 rfl (by decide) (by omega) v241 y240 l0_3 _ _ _ (fun _ => True) (fun _ => False) rfl rfl ?aO ?aR (fun _ _ h => h) (fun _ h => h.elim) ?aF ?aB ?aS ?aL ?_
     (case aR => repeat (first | exact (Kd.C_below HR0_3.out HB.out) | (with_reducible refine Kd.C_alloc ?_ _) | (with_reducible refine Kd.C_drewN ?_ _) | (with_reducible refine Kd.C_drew ?_)))
     (case aB => exact (by repeat (first | (with_reducible first | exact HB.out | apply below_alloc | apply pw_below_drewN | apply below_drew1 | refine below_set ?_ GE238.out | refine below_set ?_ GE239.out) | exact HB.out)))
     (case aF => exact (fun _ _ => trivial))
     (case aO => exact (by (with_reducible repeat (first | apply Kd.R_alloc | apply Kd.R_drewN | apply Kd.R_drew)); exact HO242.out))
     (case aS => exact (below_size (by repeat (first | (with_reducible first | exact HB.out | apply below_alloc | apply pw_below_drewN | apply below_drew1 | refine below_set ?_ GE238.out | refine below_set ?_ GE239.out) | exact HB.out))))
     (case aL => have := LMc2.out; omega)
     intro v244 w8 ho hb hg hat
     rw [← Ny243.out] at ho
     have n0_ := aM (blk_grown (g := gb238) (o := .cells #[.int .i64 a0_0, .int .i64 a0_1, .string a0_2, .slice A0_3 l0_3.length c0_3, .slice A0_4 l0_4.length c0_4] 31 (0, 0)) (by (with_reducible repeat (first | refine blk_drewN ?_ _ | refine blk_drew ?_ | refine blk_alloc ?_ _)); exact BK238.out) hg (Kd.R_ne HO242.out BK238.out (by decide)))
     have n1_ := aM (blk_grown (g := gb239) (o := .cells #[.int .i64 0, .int .i64 0, .string (⟨#[]⟩ : ByteArray), .slice none 0 0, .slice none 0 0] 25 (0, 0)) (by (with_reducible repeat (first | refine blk_drewN ?_ _ | refine blk_drew ?_ | refine blk_alloc ?_ _)); exact BK239.out) hg (Kd.R_ne HO242.out BK239.out (by decide)))
     have n2_ := aM (hb)
     have n3_ := aM (ho)
     clear BK238 BK239 HB HO242; have BK238 := n0_; have BK239 := n1_; have HB := n2_; have HO245 := n3_; clear n0_ n1_ n2_ n3_ ho hb hg hat
     obtain ⟨Ao9, co9, eo9⟩ := Kd.R_slice HO245.out
     (first | subst eo9 | (injection eo9 with f1_ f2_ f3_; have f4_ := f1_.symm; have f5_ := f3_.symm; clear f1_ f2_ f3_; subst f4_; subst f5_))
     refine hK.out _ _ ⟨(blk_cell BK238.out 0).trans rfl, (blk_cell BK238.out 1).trans rfl, (blk_cell BK238.out 2).trans rfl, (blk_cell BK238.out 3).trans rfl, (blk_cell BK238.out 4).trans rfl⟩ (fun hHeld => ?_)
     clear hK K
     refine norm_ (a' := ?_) ?_ ?_
     rotate_left
     ·show Act.put _ (some 14) _ = _
      simp only [Act.put, sA, sB, sC, i64_w, i32_w]; rfl
     refine pure_ (i := 10) (N := some 15) (v := ?_) (a' := ?_) #[true, true, true, true, true, true, true, true, true, true, true, false, false] rfl rfl (any_of HT_.out (by kernel_rfl)) (fun _ _ _ h => h) (Or.inl ⟨by rfl, ?_⟩) ?_ ?_
     rotate_left
     ·intro w'; go_simp; with_reducible rfl
     rotate_left
     ·simp only [Act.put, sA, sB, sC, i64_w, i32_w]; rfl
     refine one_ (i := 11) (N := some 3) #[true, true, true, true, true, true, true, true, true, true, true, true, false] rfl rfl (one_of HT_.out (by kernel_rfl)) (by decide) (fun K hK => ?_)
     refine box_step ?hg (N := 3) ?hd (cs := #[.int .i64 0, .int .i64 0, .string (⟨#[]⟩ : ByteArray), .slice none 0 0, .slice none 0 0]) (t := 25) ?hr ?_; (case hd => rfl); (case hg => rfl); (case hr => first | (go_simp; done) | (go_simp; rfl))
     intro gb246 hg w10 hbox hb
     have n0_ := aM (Kd.R_below (by (with_reducible repeat (first | apply Kd.R_alloc | apply Kd.R_drewN | apply Kd.R_drew)); exact HO245.out) hb)
     have n1_ := aM (blk_below (g := gb238) (o := .cells #[.int .i64 a0_0, .int .i64 a0_1, .string a0_2, .slice A0_3 l0_3.length c0_3, .slice A0_4 l0_4.length c0_4] 31 (0, 0)) (by (with_reducible repeat (first | refine blk_drewN ?_ _ | refine blk_drew ?_ | refine blk_alloc ?_ _)); exact BK238.out) hb)
     have n2_ := aM (blk_below (g := gb239) (o := .cells #[.int .i64 0, .int .i64 0, .string (⟨#[]⟩ : ByteArray), .slice none 0 0, .slice none 0 0] 25 (0, 0)) (by (with_reducible repeat (first | refine blk_drewN ?_ _ | refine blk_drew ?_ | refine blk_alloc ?_ _)); exact BK239.out) hb)
     have n3_ := aM (below_step (by repeat (first | (with_reducible first | exact HB.out | apply below_alloc | apply pw_below_drewN | apply below_drew1 | refine below_set ?_ GE238.out | refine below_set ?_ GE239.out) | exact HB.out)) hb)
     have n4_ := aM (hbox)
     have n5_ := aM ((by rw [hg]; exact (below_size (by repeat (first | (with_reducible first | exact HB.out | apply below_alloc | apply pw_below_drewN | apply below_drew1 | refine below_set ?_ GE238.out | refine below_set ?_ GE239.out) | exact HB.out))) : w.heap.size ≤ gb246))
     have n6_ := aM ((by rw [hg]; exact (below_size (by repeat (first | (with_reducible first | exact HB.out | apply below_alloc | apply pw_below_drewN | apply below_drew1 | refine below_set ?_ GE238.out | refine below_set ?_ GE239.out) | exact HB.out))) : w.heap.size ≤ gb246))
     have n7_ := aM ((by rw [hg]; exact Nat.ne_of_lt (blk_lt (g := gb238) (o := .cells #[.int .i64 a0_0, .int .i64 a0_1, .string a0_2, .slice A0_3 l0_3.length c0_3, .slice A0_4 l0_4.length c0_4] 31 (0, 0)) (by (with_reducible repeat (first | refine blk_drewN ?_ _ | refine blk_drew ?_ | refine blk_alloc ?_ _)); exact BK238.out)) : gb238 ≠ gb246))
     have n8_ := aM ((by rw [hg]; exact Nat.ne_of_gt (blk_lt (g := gb238) (o := .cells #[.int .i64 a0_0, .int .i64 a0_1, .string a0_2, .slice A0_3 l0_3.length c0_3, .slice A0_4 l0_4.length c0_4] 31 (0, 0)) (by (with_reducible repeat (first | refine blk_drewN ?_ _ | refine blk_drew ?_ | refine blk_alloc ?_ _)); exact BK238.out)) : gb246 ≠ gb238))
     have n9_ := aM ((by rw [hg]; exact Nat.ne_of_lt (blk_lt (g := gb239) (o := .cells #[.int .i64 0, .int .i64 0, .string (⟨#[]⟩ : ByteArray), .slice none 0 0, .slice none 0 0] 25 (0, 0)) (by (with_reducible repeat (first | refine blk_drewN ?_ _ | refine blk_drew ?_ | refine blk_alloc ?_ _)); exact BK239.out)) : gb239 ≠ gb246))
     have n10_ := aM ((by rw [hg]; exact Nat.ne_of_gt (blk_lt (g := gb239) (o := .cells #[.int .i64 0, .int .i64 0, .string (⟨#[]⟩ : ByteArray), .slice none 0 0, .slice none 0 0] 25 (0, 0)) (by (with_reducible repeat (first | refine blk_drewN ?_ _ | refine blk_drew ?_ | refine blk_alloc ?_ _)); exact BK239.out)) : gb246 ≠ gb239))
     clear HO245 BK238 BK239 HB; have HO245 := n0_; have BK238 := n1_; have BK239 := n2_; have HB := n3_; have BK246 := n4_; have GW246 := n5_; have GE246 := n6_; have NB238_246 := n7_; have NB246_238 := n8_; have NB239_246 := n9_; have NB246_239 := n10_; clear n0_ n1_ n2_ n3_ n4_ n5_ n6_ n7_ n8_ n9_ n10_ hb hbox hg
     refine hK.out _ _ ⟨(blk_cell BK238.out 0).trans rfl, (blk_cell BK238.out 1).trans rfl, (blk_cell BK238.out 2).trans rfl, (blk_cell BK238.out 3).trans rfl, (blk_cell BK238.out 4).trans rfl⟩ (fun hHeld => ?_)
     clear hK K
     refine norm_ (a' := ?_) ?_ ?_
     rotate_left
     ·show Act.put _ (some 3) _ = _
      simp only [Act.put, sA, sB, sC, i64_w, i32_w]; rfl
     exact norm_ (by simp only [putAll, Act.put, sA, sB, sC]) (hCont (v241, .slice Ao9 y243.length co9, gb246) _ ⟨hHeld, (by (with_reducible repeat (first | apply Kd.R_alloc | apply Kd.R_drewN | apply Kd.R_drew)); exact HO245.out), (by (with_reducible repeat (first | refine blk_drewN ?_ _ | refine blk_drew ?_ | refine blk_alloc ?_ _)); exact BK238.out), (by (with_reducible repeat (first | refine blk_drewN ?_ _ | refine blk_drew ?_ | refine blk_alloc ?_ _)); exact BK239.out), (by (with_reducible repeat (first | refine blk_drewN ?_ _ | refine blk_drew ?_ | refine blk_alloc ?_ _)); exact BK246.out), GW246.out, GE246.out, NB238_246.out, NB246_238.out, NB239_246.out, NB246_239.out, (by repeat (first | (with_reducible first | exact HB.out | apply below_alloc | apply pw_below_drewN | apply below_drew1 | refine below_set ?_ GE238.out | refine below_set ?_ GE239.out | refine below_set ?_ GE246.out) | exact HB.out))⟩)
    ·skip
     refine box_step ?hg (N := 3) ?hd (cs := #[.int .i64 0, .int .i64 0, .string (⟨#[]⟩ : ByteArray), .slice none 0 0, .slice none 0 0]) (t := 25) ?hr ?_; (case hd => rfl); (case hg => rfl); (case hr => first | (go_simp; done) | (go_simp; rfl))
     intro gb246 hg w8 hbox hb
     have n0_ := aM (Kd.R_below (by (with_reducible repeat (first | apply Kd.R_alloc | apply Kd.R_drewN | apply Kd.R_drew)); exact HO242.out) hb)
     have n1_ := aM (blk_below (g := gb238) (o := .cells #[.int .i64 a0_0, .int .i64 a0_1, .string a0_2, .slice A0_3 l0_3.length c0_3, .slice A0_4 l0_4.length c0_4] 31 (0, 0)) (by (with_reducible repeat (first | refine blk_drewN ?_ _ | refine blk_drew ?_ | refine blk_alloc ?_ _)); exact BK238.out) hb)
     have n2_ := aM (blk_below (g := gb239) (o := .cells #[.int .i64 0, .int .i64 0, .string (⟨#[]⟩ : ByteArray), .slice none 0 0, .slice none 0 0] 25 (0, 0)) (by (with_reducible repeat (first | refine blk_drewN ?_ _ | refine blk_drew ?_ | refine blk_alloc ?_ _)); exact BK239.out) hb)
     have n3_ := aM (below_step (by repeat (first | (with_reducible first | exact HB.out | apply below_alloc | apply pw_below_drewN | apply below_drew1 | refine below_set ?_ GE238.out | refine below_set ?_ GE239.out) | exact HB.out)) hb)
     have n4_ := aM (hbox)
     have n5_ := aM ((by rw [hg]; exact (below_size (by repeat (first | (with_reducible first | exact HB.out | apply below_alloc | apply pw_below_drewN | apply below_drew1 | refine below_set ?_ GE238.out | refine below_set ?_ GE239.out) | exact HB.out))) : w.heap.size ≤ gb246))
     have n6_ := aM ((by rw [hg]; exact (below_size (by repeat (first | (with_reducible first | exact HB.out | apply below_alloc | apply pw_below_drewN | apply below_drew1 | refine below_set ?_ GE238.out | refine below_set ?_ GE239.out) | exact HB.out))) : w.heap.size ≤ gb246))
     have n7_ := aM ((by rw [hg]; exact Nat.ne_of_lt (blk_lt (g := gb238) (o := .cells #[.int .i64 a0_0, .int .i64 a0_1, .string a0_2, .slice A0_3 l0_3.length c0_3, .slice A0_4 l0_4.length c0_4] 31 (0, 0)) (by (with_reducible repeat (first | refine blk_drewN ?_ _ | refine blk_drew ?_ | refine blk_alloc ?_ _)); exact BK238.out)) : gb238 ≠ gb246))
     have n8_ := aM ((by rw [hg]; exact Nat.ne_of_gt (blk_lt (g := gb238) (o := .cells #[.int .i64 a0_0, .int .i64 a0_1, .string a0_2, .slice A0_3 l0_3.length c0_3, .slice A0_4 l0_4.length c0_4] 31 (0, 0)) (by (with_reducible repeat (first | refine blk_drewN ?_ _ | refine blk_drew ?_ | refine blk_alloc ?_ _)); exact BK238.out)) : gb246 ≠ gb238))
     have n9_ := aM ((by rw [hg]; exact Nat.ne_of_lt (blk_lt (g := gb239) (o := .cells #[.int .i64 0, .int .i64 0, .string (⟨#[]⟩ : ByteArray), .slice none 0 0, .slice none 0 0] 25 (0, 0)) (by (with_reducible repeat (first | refine blk_drewN ?_ _ | refine blk_drew ?_ | refine blk_alloc ?_ _)); exact BK239.out)) : gb239 ≠ gb246))
     have n10_ := aM ((by rw [hg]; exact Nat.ne_of_gt (blk_lt (g := gb239) (o := .cells #[.int .i64 0, .int .i64 0, .string (⟨#[]⟩ : ByteArray), .slice none 0 0, .slice none 0 0] 25 (0, 0)) (by (with_reducible repeat (first | refine blk_drewN ?_ _ | refine blk_drew ?_ | refine blk_alloc ?_ _)); exact BK239.out)) : gb246 ≠ gb239))
     clear HO242 BK238 BK239 HB; have HO242 := n0_; have BK238 := n1_; have BK239 := n2_; have HB := n3_; have BK246 := n4_; have GW246 := n5_; have GE246 := n6_; have NB238_246 := n7_; have NB246_238 := n8_; have NB239_246 := n9_; have NB246_239 := n10_; clear n0_ n1_ n2_ n3_ n4_ n5_ n6_ n7_ n8_ n9_ n10_ hb hbox hg
     refine hK.out _ _ ⟨(blk_cell BK238.out 0).trans rfl, (blk_cell BK238.out 1).trans rfl, (blk_cell BK238.out 2).trans rfl, (blk_cell BK238.out 3).trans rfl, (blk_cell BK238.out 4).trans rfl⟩ (fun hHeld => ?_)
     clear hK K
     refine norm_ (a' := ?_) ?_ ?_
     rotate_left
     ·show Act.put _ (some 3) _ = _
      simp only [Act.put, sA, sB, sC, i64_w, i32_w]; rfl
     refine one_ (i := 9) (N := some 14) #[true, true, true, true, true, true, true, true, true, true, false, true, false] rfl rfl (one_of HT_.out (by kernel_rfl)) (by decide) (fun K hK => ?_)
     refine Kd.R_append_rows_step Kd.string (w0 := w) w.heap.size (by rfl) (.tmp 11) (.tmp 13) 22 9 (.string ⟨#[]⟩) 16 rfl Tryz.underlying22 info9 rfl (by decide) (by omega) v241 y240 l0_3 _ _ _ (fun _ => True) (fun _ => False) rfl rfl ?aO ?aR (fun _ _ h => h) (fun _ h => h.elim) ?aF ?aB ?aS ?aL ?_
     (case aR => repeat (first | exact (Kd.C_below HR0_3.out HB.out) | (with_reducible refine Kd.C_alloc ?_ _) | (with_reducible refine Kd.C_drewN ?_ _) | (with_reducible refine Kd.C_drew ?_)))
     (case aB => exact (by repeat (first | (with_reducible first | exact HB.out | apply below_alloc | apply pw_below_drewN | apply below_drew1 | refine below_set ?_ GE238.out | refine below_set ?_ GE239.out | refine below_set ?_ GE246.out) | exact HB.out)))
     (case aF => exact (fun _ _ => trivial))
     (case aO => exact (by (with_reducible repeat (first | apply Kd.R_alloc | apply Kd.R_drewN | apply Kd.R_drew)); exact HO242.out))
     (case aS => exact (below_size (by repeat (first | (with_reducible first | exact HB.out | apply below_alloc | apply pw_below_drewN | apply below_drew1 | refine below_set ?_ GE238.out | refine below_set ?_ GE239.out | refine below_set ?_ GE246.out) | exact HB.out))))
     (case aL => have := LMc2.out; omega)
     intro v244 w9 ho hb hg hat
     rw [← Ny243.out] at ho
     have n0_ := aM (blk_grown (g := gb238) (o := .cells #[.int .i64 a0_0, .int .i64 a0_1, .string a0_2, .slice A0_3 l0_3.length c0_3, .slice A0_4 l0_4.length c0_4] 31 (0, 0)) (by (with_reducible repeat (first | refine blk_drewN ?_ _ | refine blk_drew ?_ | refine blk_alloc ?_ _)); exact BK238.out) hg (Kd.R_ne HO242.out BK238.out (by decide)))
     have n1_ := aM (blk_grown (g := gb239) (o := .cells #[.int .i64 0, .int .i64 0, .string (⟨#[]⟩ : ByteArray), .slice none 0 0, .slice none 0 0] 25 (0, 0)) (by (with_reducible repeat (first | refine blk_drewN ?_ _ | refine blk_drew ?_ | refine blk_alloc ?_ _)); exact BK239.out) hg (Kd.R_ne HO242.out BK239.out (by decide)))
     have n2_ := aM (blk_grown (g := gb246) (o := .cells #[.int .i64 0, .int .i64 0, .string (⟨#[]⟩ : ByteArray), .slice none 0 0, .slice none 0 0] 25 (0, 0)) (by (with_reducible repeat (first | refine blk_drewN ?_ _ | refine blk_drew ?_ | refine blk_alloc ?_ _)); exact BK246.out) hg (Kd.R_ne HO242.out BK246.out (by decide)))
     have n3_ := aM (hb)
     have n4_ := aM (ho)
     clear BK238 BK239 BK246 HB HO242; have BK238 := n0_; have BK239 := n1_; have BK246 := n2_; have HB := n3_; have HO245 := n4_; clear n0_ n1_ n2_ n3_ n4_ ho hb hg hat
     obtain ⟨Ao10, co10, eo10⟩ := Kd.R_slice HO245.out
     (first | subst eo10 | (injection eo10 with f1_ f2_ f3_; have f4_ := f1_.symm; have f5_ := f3_.symm; clear f1_ f2_ f3_; subst f4_; subst f5_))
     refine hK.out _ _ ⟨(blk_cell BK238.out 0).trans rfl, (blk_cell BK238.out 1).trans rfl, (blk_cell BK238.out 2).trans rfl, (blk_cell BK238.out 3).trans rfl, (blk_cell BK238.out 4).trans rfl⟩ (fun hHeld => ?_)
     clear hK K
     refine norm_ (a' := ?_) ?_ ?_
     rotate_left
     ·show Act.put _ (some 14) _ = _
      simp only [Act.put, sA, sB, sC, i64_w, i32_w]; rfl
     refine pure_ (i := 10) (N := some 15) (v := ?_) (a' := ?_) #[true, true, true, true, true, true, true, true, true, true, true, true, false] rfl rfl (any_of HT_.out (by kernel_rfl)) (fun _ _ _ h => h) (Or.inl ⟨by rfl, ?_⟩) ?_ ?_
     rotate_left
     ·intro w'; go_simp; with_reducible rfl
     rotate_left
     ·simp only [Act.put, sA, sB, sC, i64_w, i32_w]; rfl
     exact norm_ (by simp only [putAll, Act.put, sA, sB, sC]) (hCont (v241, .slice Ao10 y243.length co10, gb246) _ ⟨hHeld, (by (with_reducible repeat (first | apply Kd.R_alloc | apply Kd.R_drewN | apply Kd.R_drew)); exact HO245.out), (by (with_reducible repeat (first | refine blk_drewN ?_ _ | refine blk_drew ?_ | refine blk_alloc ?_ _)); exact BK238.out), (by (with_reducible repeat (first | refine blk_drewN ?_ _ | refine blk_drew ?_ | refine blk_alloc ?_ _)); exact BK239.out), (by (with_reducible repeat (first | refine blk_drewN ?_ _ | refine blk_drew ?_ | refine blk_alloc ?_ _)); exact BK246.out), GW246.out, GE246.out, NB238_246.out, NB246_238.out, NB239_246.out, NB246_239.out, (by repeat (first | (with_reducible first | exact HB.out | apply below_alloc | apply pw_below_drewN | apply below_drew1 | refine below_set ?_ GE238.out | refine below_set ?_ GE239.out | refine below_set ?_ GE246.out) | exact HB.out))⟩)
   ·skip
    refine box_step ?hg (N := 3) ?hd (cs := #[.int .i64 0, .int .i64 0, .string (⟨#[]⟩ : ByteArray), .slice none 0 0, .slice none 0 0]) (t := 25) ?hr ?_; (case hd => rfl); (case hg => rfl); (case hr => first | (go_simp; done) | (go_simp; rfl))
    intro gb246 hg w6 hbox hb
    have n0_ := aM (blk_below (g := gb238) (o := .cells #[.int .i64 a0_0, .int .i64 a0_1, .string a0_2, .slice A0_3 l0_3.length c0_3, .slice A0_4 l0_4.length c0_4] 31 (0, 0)) (by (with_reducible repeat (first | refine blk_drewN ?_ _ | refine blk_drew ?_ | refine blk_alloc ?_ _)); exact BK238.out) hb)
    have n1_ := aM (blk_below (g := gb239) (o := .cells #[.int .i64 0, .int .i64 0, .string (⟨#[]⟩ : ByteArray), .slice none 0 0, .slice none 0 0] 25 (0, 0)) (by (with_reducible repeat (first | refine blk_drewN ?_ _ | refine blk_drew ?_ | refine blk_alloc ?_ _)); exact BK239.out) hb)
    have n2_ := aM (below_step (by repeat (first | (with_reducible first | exact HB.out | apply below_alloc | apply pw_below_drewN | apply below_drew1 | refine below_set ?_ GE238.out | refine below_set ?_ GE239.out) | exact HB.out)) hb)
    have n3_ := aM (hbox)
    have n4_ := aM ((by rw [hg]; exact (below_size (by repeat (first | (with_reducible first | exact HB.out | apply below_alloc | apply pw_below_drewN | apply below_drew1 | refine below_set ?_ GE238.out | refine below_set ?_ GE239.out) | exact HB.out))) : w.heap.size ≤ gb246))
    have n5_ := aM ((by rw [hg]; exact (below_size (by repeat (first | (with_reducible first | exact HB.out | apply below_alloc | apply pw_below_drewN | apply below_drew1 | refine below_set ?_ GE238.out | refine below_set ?_ GE239.out) | exact HB.out))) : w.heap.size ≤ gb246))
    have n6_ := aM ((by rw [hg]; exact Nat.ne_of_lt (blk_lt (g := gb238) (o := .cells #[.int .i64 a0_0, .int .i64 a0_1, .string a0_2, .slice A0_3 l0_3.length c0_3, .slice A0_4 l0_4.length c0_4] 31 (0, 0)) (by (with_reducible repeat (first | refine blk_drewN ?_ _ | refine blk_drew ?_ | refine blk_alloc ?_ _)); exact BK238.out)) : gb238 ≠ gb246))
    have n7_ := aM ((by rw [hg]; exact Nat.ne_of_gt (blk_lt (g := gb238) (o := .cells #[.int .i64 a0_0, .int .i64 a0_1, .string a0_2, .slice A0_3 l0_3.length c0_3, .slice A0_4 l0_4.length c0_4] 31 (0, 0)) (by (with_reducible repeat (first | refine blk_drewN ?_ _ | refine blk_drew ?_ | refine blk_alloc ?_ _)); exact BK238.out)) : gb246 ≠ gb238))
    have n8_ := aM ((by rw [hg]; exact Nat.ne_of_lt (blk_lt (g := gb239) (o := .cells #[.int .i64 0, .int .i64 0, .string (⟨#[]⟩ : ByteArray), .slice none 0 0, .slice none 0 0] 25 (0, 0)) (by (with_reducible repeat (first | refine blk_drewN ?_ _ | refine blk_drew ?_ | refine blk_alloc ?_ _)); exact BK239.out)) : gb239 ≠ gb246))
    have n9_ := aM ((by rw [hg]; exact Nat.ne_of_gt (blk_lt (g := gb239) (o := .cells #[.int .i64 0, .int .i64 0, .string (⟨#[]⟩ : ByteArray), .slice none 0 0, .slice none 0 0] 25 (0, 0)) (by (with_reducible repeat (first | refine blk_drewN ?_ _ | refine blk_drew ?_ | refine blk_alloc ?_ _)); exact BK239.out)) : gb246 ≠ gb239))
    clear BK238 BK239 HB; have BK238 := n0_; have BK239 := n1_; have HB := n2_; have BK246 := n3_; have GW246 := n4_; have GE246 := n5_; have NB238_246 := n6_; have NB246_238 := n7_; have NB239_246 := n8_; have NB246_239 := n9_; clear n0_ n1_ n2_ n3_ n4_ n5_ n6_ n7_ n8_ n9_ hb hbox hg
    refine hK.out _ _ ⟨(blk_cell BK238.out 0).trans rfl, (blk_cell BK238.out 1).trans rfl, (blk_cell BK238.out 2).trans rfl, (blk_cell BK238.out 3).trans rfl, (blk_cell BK238.out 4).trans rfl⟩ (fun hHeld => ?_)
    clear hK K
    refine norm_ (a' := ?_) ?_ ?_
    rotate_left
    ·show Act.put _ (some 3) _ = _
     simp only [Act.put, sA, sB, sC, i64_w, i32_w]; rfl
    refine one_ (i := 6) (N := some 11) #[true, true, true, true, true, true, true, true, true, false, false, true, false] rfl rfl (one_of HT_.out (by kernel_rfl)) (by decide) (fun K hK => ?_)
    refine Kd.R_lit_step Kd.string _ 9 ?hg (N := 11) ?hd (xs := ([] : List ByteArray)) (inner := []) (ok := fun _ => True) (okp := fun _ => True) ?hr ?hp (fun _ hk => hk) trivial (Below.refl _ _) (Nat.le_refl _) (by simp) ?_; (case hd => rfl); (case hg => rfl); (case hr => first | (go_simp; done) | (go_simp; rfl)); (case hp => exact (Reps.none _ _))
    intro v241 w7 ho8 hb hg_ hnew_; clear hg_ hnew_
    (first | rw [← Ny240.out] at ho8 | (simp only [Int.reduceToNat] at ho8; rw [← Ny240.out] at ho8))
    have n0_ := aM (Kd.R_lower ho8 (below_size (by repeat (first | (with_reducible first | exact HB.out | apply below_alloc | apply pw_below_drewN | apply below_drew1 | refine below_set ?_ GE238.out | refine below_set ?_ GE239.out | refine below_set ?_ GE246.out) | exact HB.out))))
    have n1_ := aM (blk_below (g := gb238) (o := .cells #[.int .i64 a0_0, .int .i64 a0_1, .string a0_2, .slice A0_3 l0_3.length c0_3, .slice A0_4 l0_4.length c0_4] 31 (0, 0)) (by (with_reducible repeat (first | refine blk_drewN ?_ _ | refine blk_drew ?_ | refine blk_alloc ?_ _)); exact BK238.out) hb)
    have n2_ := aM (blk_below (g := gb239) (o := .cells #[.int .i64 0, .int .i64 0, .string (⟨#[]⟩ : ByteArray), .slice none 0 0, .slice none 0 0] 25 (0, 0)) (by (with_reducible repeat (first | refine blk_drewN ?_ _ | refine blk_drew ?_ | refine blk_alloc ?_ _)); exact BK239.out) hb)
    have n3_ := aM (blk_below (g := gb246) (o := .cells #[.int .i64 0, .int .i64 0, .string (⟨#[]⟩ : ByteArray), .slice none 0 0, .slice none 0 0] 25 (0, 0)) (by (with_reducible repeat (first | refine blk_drewN ?_ _ | refine blk_drew ?_ | refine blk_alloc ?_ _)); exact BK246.out) hb)
    have n4_ := aM (below_step (by repeat (first | (with_reducible first | exact HB.out | apply below_alloc | apply pw_below_drewN | apply below_drew1 | refine below_set ?_ GE238.out | refine below_set ?_ GE239.out | refine below_set ?_ GE246.out) | exact HB.out)) hb)
    clear BK238 BK239 BK246 HB; have HO242 := n0_; have BK238 := n1_; have BK239 := n2_; have BK246 := n3_; have HB := n4_; clear n0_ n1_ n2_ n3_ n4_ hb ho8
    refine hK.out _ _ ⟨(blk_cell BK238.out 0).trans rfl, (blk_cell BK238.out 1).trans rfl, (blk_cell BK238.out 2).trans rfl, (blk_cell BK238.out 3).trans rfl, (blk_cell BK238.out 4).trans rfl⟩ (fun hHeld => ?_)
    clear hK K
    refine norm_ (a' := ?_) ?_ ?_
    rotate_left
    ·show Act.put _ (some 11) _ = _
     simp only [Act.put, sA, sB, sC, i64_w, i32_w]; rfl
    refine one_ (i := 9) (N := some 14) #[true, true, true, true, true, true, true, true, true, true, false, true, false] rfl rfl (one_of HT_.out (by kernel_rfl)) (by decide) (fun K hK => ?_)
    refine Kd.R_append_rows_step Kd.string (w0 := w) w.heap.size (by rfl) (.tmp 11) (.tmp 13) 22 9 (.string ⟨#[]⟩) 16 rfl Tryz.underlying22 info9 rfl (by decide) (by omega) v241 y240 l0_3 _ _ _ (fun _ => True) (fun _ => False) rfl rfl ?aO ?aR (fun _ _ h => h) (fun _ h => h.elim) ?aF ?aB ?aS ?aL ?_
    (case aR => repeat (first | exact (Kd.C_below HR0_3.out HB.out) | (with_reducible refine Kd.C_alloc ?_ _) | (with_reducible refine Kd.C_drewN ?_ _) | (with_reducible refine Kd.C_drew ?_)))
    (case aB => exact (by repeat (first | (with_reducible first | exact HB.out | apply below_alloc | apply pw_below_drewN | apply below_drew1 | refine below_set ?_ GE238.out | refine below_set ?_ GE239.out | refine below_set ?_ GE246.out) | exact HB.out)))
    (case aF => exact (fun _ _ => trivial))
    (case aO => exact (by (with_reducible repeat (first | apply Kd.R_alloc | apply Kd.R_drewN | apply Kd.R_drew)); exact HO242.out))
    (case aS => exact (below_size (by repeat (first | (with_reducible first | exact HB.out | apply below_alloc | apply pw_below_drewN | apply below_drew1 | refine below_set ?_ GE238.out | refine below_set ?_ GE239.out | refine below_set ?_ GE246.out) | exact HB.out))))
    (case aL => have := LMc2.out; omega)
    intro v244 w9 ho hb hg hat
    rw [← Ny243.out] at ho
    have n0_ := aM (blk_grown (g := gb238) (o := .cells #[.int .i64 a0_0, .int .i64 a0_1, .string a0_2, .slice A0_3 l0_3.length c0_3, .slice A0_4 l0_4.length c0_4] 31 (0, 0)) (by (with_reducible repeat (first | refine blk_drewN ?_ _ | refine blk_drew ?_ | refine blk_alloc ?_ _)); exact BK238.out) hg (Kd.R_ne HO242.out BK238.out (by decide)))
    have n1_ := aM (blk_grown (g := gb239) (o := .cells #[.int .i64 0, .int .i64 0, .string (⟨#[]⟩ : ByteArray), .slice none 0 0, .slice none 0 0] 25 (0, 0)) (by (with_reducible repeat (first | refine blk_drewN ?_ _ | refine blk_drew ?_ | refine blk_alloc ?_ _)); exact BK239.out) hg (Kd.R_ne HO242.out BK239.out (by decide)))
    have n2_ := aM (blk_grown (g := gb246) (o := .cells #[.int .i64 0, .int .i64 0, .string (⟨#[]⟩ : ByteArray), .slice none 0 0, .slice none 0 0] 25 (0, 0)) (by (with_reducible repeat (first | refine blk_drewN ?_ _ | refine blk_drew ?_ | refine blk_alloc ?_ _)); exact BK246.out) hg (Kd.R_ne HO242.out BK246.out (by decide)))
    have n3_ := aM (hb)
    have n4_ := aM (ho)
    clear BK238 BK239 BK246 HB HO242; have BK238 := n0_; have BK239 := n1_; have BK246 := n2_; have HB := n3_; have HO245 := n4_; clear n0_ n1_ n2_ n3_ n4_ ho hb hg hat
    obtain ⟨Ao10, co10, eo10⟩ := Kd.R_slice HO245.out
    (first | subst eo10 | (injection eo10 with f1_ f2_ f3_; have f4_ := f1_.symm; have f5_ := f3_.symm; clear f1_ f2_ f3_; subst f4_; subst f5_))
    refine hK.out _ _ ⟨(blk_cell BK238.out 0).trans rfl, (blk_cell BK238.out 1).trans rfl, (blk_cell BK238.out 2).trans rfl, (blk_cell BK238.out 3).trans rfl, (blk_cell BK238.out 4).trans rfl⟩ (fun hHeld => ?_)
    clear hK K
    refine norm_ (a' := ?_) ?_ ?_
    rotate_left
    ·show Act.put _ (some 14) _ = _
     simp only [Act.put, sA, sB, sC, i64_w, i32_w]; rfl
    refine pure_ (i := 10) (N := some 15) (v := ?_) (a' := ?_) #[true, true, true, true, true, true, true, true, true, true, true, true, false] rfl rfl (any_of HT_.out (by kernel_rfl)) (fun _ _ _ h => h) (Or.inl ⟨by rfl, ?_⟩) ?_ ?_
    rotate_left
    ·intro w'; go_simp; with_reducible rfl
    rotate_left
    ·simp only [Act.put, sA, sB, sC, i64_w, i32_w]; rfl
    exact norm_ (by simp only [putAll, Act.put, sA, sB, sC]) (hCont (v241, .slice Ao10 y243.length co10, gb246) _ ⟨hHeld, (by (with_reducible repeat (first | apply Kd.R_alloc | apply Kd.R_drewN | apply Kd.R_drew)); exact HO245.out), (by (with_reducible repeat (first | refine blk_drewN ?_ _ | refine blk_drew ?_ | refine blk_alloc ?_ _)); exact BK238.out), (by (with_reducible repeat (first | refine blk_drewN ?_ _ | refine blk_drew ?_ | refine blk_alloc ?_ _)); exact BK239.out), (by (with_reducible repeat (first | refine blk_drewN ?_ _ | refine blk_drew ?_ | refine blk_alloc ?_ _)); exact BK246.out), GW246.out, GE246.out, NB238_246.out, NB246_238.out, NB239_246.out, NB246_239.out, (by repeat (first | (with_reducible first | exact HB.out | apply below_alloc | apply pw_below_drewN | apply below_drew1 | refine below_set ?_ GE238.out | refine below_set ?_ GE239.out | refine below_set ?_ GE246.out) | exact HB.out))⟩)
  rintro ⟨v241, v244, gb246⟩ w11 ⟨hS_, h0_, h1_, h2_, h3_, h4_, h5_, h6_, h7_, h8_, h9_, h10_⟩
  have n0_ : Aside0 (Kd.R Kd.string 9 w11 w.heap.size (fun _ => True) v244 y243) := ⟨h0_⟩
  have n1_ : Aside0 (w11.heap[gb238]? = some (.cells #[.int .i64 a0_0, .int .i64 a0_1, .string a0_2, .slice A0_3 l0_3.length c0_3, .slice A0_4 l0_4.length c0_4] 31 (0, 0))) := ⟨h1_⟩
  have n2_ : Aside0 (w11.heap[gb239]? = some (.cells #[.int .i64 0, .int .i64 0, .string (⟨#[]⟩ : ByteArray), .slice none 0 0, .slice none 0 0] 25 (0, 0))) := ⟨h2_⟩
  have n3_ : Aside0 (w11.heap[gb246]? = some (.cells #[.int .i64 0, .int .i64 0, .string (⟨#[]⟩ : ByteArray), .slice none 0 0, .slice none 0 0] 25 (0, 0))) := ⟨h3_⟩
  have n4_ : Aside0 (w.heap.size ≤ gb246) := ⟨h4_⟩
  have n5_ : Aside0 (w.heap.size ≤ gb246) := ⟨h5_⟩
  have n6_ : Aside0 (gb238 ≠ gb246) := ⟨h6_⟩
  have n7_ : Aside0 (gb246 ≠ gb238) := ⟨h7_⟩
  have n8_ : Aside0 (gb239 ≠ gb246) := ⟨h8_⟩
  have n9_ : Aside0 (gb246 ≠ gb239) := ⟨h9_⟩
  have n10_ : Aside0 (Below w.heap.size w w11) := ⟨h10_⟩
  clear BK238 BK239 HB h0_ h1_ h2_ h3_ h4_ h5_ h6_ h7_ h8_ h9_ h10_; have HO245 := n0_; have BK238 := n1_; have BK239 := n2_; have BK246 := n3_; have GW246 := n4_; have GE246 := n5_; have NB238_246 := n6_; have NB246_238 := n7_; have NB239_246 := n8_; have NB246_239 := n9_; have HB := n10_; clear n0_ n1_ n2_ n3_ n4_ n5_ n6_ n7_ n8_ n9_ n10_
  have hHeld : w11.cell? ⟨gb238, 0, none⟩ = some (.int .i64 a0_0) ∧ w11.cell? ⟨gb238, 1, none⟩ = some (.int .i64 a0_1) ∧ w11.cell? ⟨gb238, 2, none⟩ = some (.string a0_2) ∧ w11.cell? ⟨gb238, 3, none⟩ = some (.slice A0_3 l0_3.length c0_3) ∧ w11.cell? ⟨gb238, 4, none⟩ = some (.slice A0_4 l0_4.length c0_4) := hS_
  obtain ⟨Ao12, co12, eo12⟩ := Kd.R_slice HO245.out
  (first | subst eo12 | (injection eo12 with f1_ f2_ f3_; have f4_ := f1_.symm; have f5_ := f3_.symm; clear f1_ f2_ f3_; subst f4_; subst f5_))
  refine norm_ (a' := ?_) ?_ ?_
  rotate_left
  ·simp only [putAll, Act.put, sA, sB, sC]
   rfl
  refine one_ (i := 12) (N := none) #[true, true, true, true, true, true, true, true, true, true, true, true, true] rfl rfl (one_of HT_.out (by kernel_rfl)) (by decide) (fun K hK => ?_)
  have hs13 : w11.cell? ⟨gb246, 0, none⟩ = some (.int .i64 0) := (blk_cell BK246.out 0).trans rfl
  have hfs13 := blk_frozen BK246.out 0
  have hns13_0 := NB238_246.out
  have hns13_1 := NB239_246.out
  have hms13_0 := NB246_238.out
  have hms13_1 := NB246_239.out
  have hs14 : w11.cell? ⟨gb246, 1, none⟩ = some (.int .i64 0) := (blk_cell BK246.out 1).trans rfl
  have hfs14 := blk_frozen BK246.out 1
  have hns14_0 := NB238_246.out
  have hns14_1 := NB239_246.out
  have hms14_0 := NB246_238.out
  have hms14_1 := NB246_239.out
  have hs15 : w11.cell? ⟨gb246, 2, none⟩ = some (.string (⟨#[]⟩ : ByteArray)) := (blk_cell BK246.out 2).trans rfl
  have hfs15 := blk_frozen BK246.out 2
  have hns15_0 := NB238_246.out
  have hns15_1 := NB239_246.out
  have hms15_0 := NB246_238.out
  have hms15_1 := NB246_239.out
  have hs16 : w11.cell? ⟨gb246, 3, none⟩ = some (.slice none 0 0) := (blk_cell BK246.out 3).trans rfl
  have hfs16 := blk_frozen BK246.out 3
  have hns16_0 := NB238_246.out
  have hns16_1 := NB239_246.out
  have hms16_0 := NB246_238.out
  have hms16_1 := NB246_239.out
  have hs17 : w11.cell? ⟨gb246, 4, none⟩ = some (.slice none 0 0) := (blk_cell BK246.out 4).trans rfl
  have hfs17 := blk_frozen BK246.out 4
  have hns17_0 := NB238_246.out
  have hns17_1 := NB239_246.out
  have hms17_0 := NB246_238.out
  have hms17_1 := NB246_239.out
  refine skip_ (w1 := ?_) (by rfl) rfl ?_ ?_
  rotate_left
  ·go_simp; rfl
  refine hK.out _ _ ⟨((cell_far (p := ⟨gb246, _, none⟩) NB238_246.out _).trans (((cell_far (p := ⟨gb246, _, none⟩) NB238_246.out _).trans (((cell_far (p := ⟨gb246, _, none⟩) NB238_246.out _).trans (((cell_far (p := ⟨gb246, _, none⟩) NB238_246.out _).trans (((cell_far (p := ⟨gb246, _, none⟩) NB238_246.out _).trans (hHeld.1)))))))))), ((cell_far (p := ⟨gb246, _, none⟩) NB238_246.out _).trans (((cell_far (p := ⟨gb246, _, none⟩) NB238_246.out _).trans (((cell_far (p := ⟨gb246, _, none⟩) NB238_246.out _).trans (((cell_far (p := ⟨gb246, _, none⟩) NB238_246.out _).trans (((cell_far (p := ⟨gb246, _, none⟩) NB238_246.out _).trans (hHeld.2.1)))))))))), ((cell_far (p := ⟨gb246, _, none⟩) NB238_246.out _).trans (((cell_far (p := ⟨gb246, _, none⟩) NB238_246.out _).trans (((cell_far (p := ⟨gb246, _, none⟩) NB238_246.out _).trans (((cell_far (p := ⟨gb246, _, none⟩) NB238_246.out _).trans (((cell_far (p := ⟨gb246, _, none⟩) NB238_246.out _).trans (hHeld.2.2.1)))))))))), ((cell_far (p := ⟨gb246, _, none⟩) NB238_246.out _).trans (((cell_far (p := ⟨gb246, _, none⟩) NB238_246.out _).trans (((cell_far (p := ⟨gb246, _, none⟩) NB238_246.out _).trans (((cell_far (p := ⟨gb246, _, none⟩) NB238_246.out _).trans (((cell_far (p := ⟨gb246, _, none⟩) NB238_246.out _).trans (hHeld.2.2.2.1)))))))))), ((cell_far (p := ⟨gb246, _, none⟩) NB238_246.out _).trans (((cell_far (p := ⟨gb246, _, none⟩) NB238_246.out _).trans (((cell_far (p := ⟨gb246, _, none⟩) NB238_246.out _).trans (((cell_far (p := ⟨gb246, _, none⟩) NB238_246.out _).trans (((cell_far (p := ⟨gb246, _, none⟩) NB238_246.out _).trans (hHeld.2.2.2.2))))))))))⟩ (fun hHeld => ?_)
  clear hK K
  refine done_ (done_of HT_.out (by kernel_rfl)) ?_
  try go_wp2
  go_loopg [4] k (fun kq v4 w' => ∃ (x4_1 : Int) (x247004_1 : List (S25)) (u247004 : Value), v4 = .int .i64 x4_1 ∧ Aside0 (laws_from.l0 kq x4_1 a0_0 a0_1 a0_2 l0_3 l0_4 a0_0 a0_1 a0_2 y243 x247004_1 = some (r1, r2, r3, r4, r5)) ∧ Aside0 (kq ≤ k) ∧ Aside0 (Kd.R Kd.string 9 w' w.heap.size (fun _ => True) (.slice Ao12 y243.length co12) y243) ∧ Aside0 (Kd.R k25 25 w' w.heap.size (fun k_ => some k_ ≠ ((.slice Ao12 y243.length co12) : Value).ownBlock ∧ k_ ≠ gb239 ∧ k_ ≠ gb246) u247004 x247004_1) ∧ Aside0 (w'.heap[gb238]? = some (.cells #[.int .i64 a0_0, .int .i64 a0_1, .string a0_2, (.slice A0_3 l0_3.length c0_3), (.slice A0_4 l0_4.length c0_4)] 31 (0, 0))) ∧ Aside0 (w'.heap[gb239]? = some (.cells #[.int .i64 0, .int .i64 0, .string (⟨#[]⟩ : ByteArray), (.slice none 0 0), (.slice none 0 0)] 25 (0, 0))) ∧ Aside0 (w'.heap[gb246]? = some (.cells #[.int .i64 a0_0, .int .i64 a0_1, .string a0_2, (.slice Ao12 y243.length co12), u247004] 25 (0, 0))) ∧ Aside0 (Below w.heap.size w w'))
  case atStart => exact ⟨(0), (([] : List (S25))), (.slice none 0 0), (by first | rfl | (simp; done) | (simp [*]; done)), H', ⟨Nat.le_refl _⟩, ⟨by (with_reducible repeat (first | apply Kd.R_alloc | apply Kd.R_drewN | apply Kd.R_drew)); exact Kd.R_mono (Kd.R_far (p := ⟨gb246, 4, none⟩) (Kd.R_far (p := ⟨gb246, 3, none⟩) (Kd.R_far (p := ⟨gb246, 2, none⟩) (Kd.R_far (p := ⟨gb246, 1, none⟩) (Kd.R_far (p := ⟨gb246, 0, none⟩) (Kd.R_types HO245.out BK246.out (by decide)) (fun _ hk => hk.2) (.int .i64 a0_0)) (fun _ hk => hk.2) (.int .i64 a0_1)) (fun _ hk => hk.2) (.string a0_2)) (fun _ hk => hk.2) (.slice Ao12 y243.length co12)) (fun _ hk => hk.2) (.slice none 0 0)) (fun _ hk => trivial)⟩, ⟨by first | exact Kd.R_nil _ _ _ _ _ | exact Kd.N_nil _ _ _ _ _ | exact Kd.V_nil _ _ _ _ _ | exact Kd.Q_nil _ _ _ _ _ | exact Kd.S_nil _ _ _ _ _⟩, ⟨by (with_reducible repeat (first | refine blk_drewN ?_ _ | refine blk_drew ?_ | refine blk_alloc ?_ _)); refine blk_far ?_ NB238_246.out _; (with_reducible repeat (first | refine blk_drewN ?_ _ | refine blk_drew ?_ | refine blk_alloc ?_ _)); refine blk_far ?_ NB238_246.out _; (with_reducible repeat (first | refine blk_drewN ?_ _ | refine blk_drew ?_ | refine blk_alloc ?_ _)); refine blk_far ?_ NB238_246.out _; (with_reducible repeat (first | refine blk_drewN ?_ _ | refine blk_drew ?_ | refine blk_alloc ?_ _)); refine blk_far ?_ NB238_246.out _; (with_reducible repeat (first | refine blk_drewN ?_ _ | refine blk_drew ?_ | refine blk_alloc ?_ _)); refine blk_far ?_ NB238_246.out _; (with_reducible repeat (first | refine blk_drewN ?_ _ | refine blk_drew ?_ | refine blk_alloc ?_ _)); exact BK238.out⟩, ⟨by (with_reducible repeat (first | refine blk_drewN ?_ _ | refine blk_drew ?_ | refine blk_alloc ?_ _)); refine blk_far ?_ NB239_246.out _; (with_reducible repeat (first | refine blk_drewN ?_ _ | refine blk_drew ?_ | refine blk_alloc ?_ _)); refine blk_far ?_ NB239_246.out _; (with_reducible repeat (first | refine blk_drewN ?_ _ | refine blk_drew ?_ | refine blk_alloc ?_ _)); refine blk_far ?_ NB239_246.out _; (with_reducible repeat (first | refine blk_drewN ?_ _ | refine blk_drew ?_ | refine blk_alloc ?_ _)); refine blk_far ?_ NB239_246.out _; (with_reducible repeat (first | refine blk_drewN ?_ _ | refine blk_drew ?_ | refine blk_alloc ?_ _)); refine blk_far ?_ NB239_246.out _; (with_reducible repeat (first | refine blk_drewN ?_ _ | refine blk_drew ?_ | refine blk_alloc ?_ _)); exact BK239.out⟩, ⟨by (with_reducible repeat (first | refine blk_drewN ?_ _ | refine blk_drew ?_ | refine blk_alloc ?_ _)); refine blk_put (cs := #[.int .i64 a0_0, .int .i64 a0_1, .string a0_2, .slice Ao12 y243.length co12, .slice none 0 0]) ?_ 4 _ rfl; (with_reducible repeat (first | refine blk_drewN ?_ _ | refine blk_drew ?_ | refine blk_alloc ?_ _)); refine blk_put (cs := #[.int .i64 a0_0, .int .i64 a0_1, .string a0_2, .slice none 0 0, .slice none 0 0]) ?_ 3 _ rfl; (with_reducible repeat (first | refine blk_drewN ?_ _ | refine blk_drew ?_ | refine blk_alloc ?_ _)); refine blk_put (cs := #[.int .i64 a0_0, .int .i64 a0_1, .string (⟨#[]⟩ : ByteArray), .slice none 0 0, .slice none 0 0]) ?_ 2 _ rfl; (with_reducible repeat (first | refine blk_drewN ?_ _ | refine blk_drew ?_ | refine blk_alloc ?_ _)); refine blk_put (cs := #[.int .i64 a0_0, .int .i64 0, .string (⟨#[]⟩ : ByteArray), .slice none 0 0, .slice none 0 0]) ?_ 1 _ rfl; (with_reducible repeat (first | refine blk_drewN ?_ _ | refine blk_drew ?_ | refine blk_alloc ?_ _)); refine blk_put (cs := #[.int .i64 0, .int .i64 0, .string (⟨#[]⟩ : ByteArray), .slice none 0 0, .slice none 0 0]) ?_ 0 _ rfl; (with_reducible repeat (first | refine blk_drewN ?_ _ | refine blk_drew ?_ | refine blk_alloc ?_ _)); exact BK246.out⟩, ⟨by repeat (first | (with_reducible first | exact HB.out | apply below_alloc | apply pw_below_drewN | apply below_drew1 | refine below_set ?_ GE238.out | refine below_set ?_ GE239.out | refine below_set ?_ GE246.out) | exact HB.out)⟩⟩
  case round =>
   clear H'
   try clear c1
   try clear c2
   try clear p2
   try clear c12
   obtain ⟨x4_1, x247004_1, u247004, rfl, HA, HK1, HO_247003, HO_247004, BK238, BK239, BK246, HB⟩ := hrel
   cases gk with
   | zero => exact absurd HA.out (by simp [laws_from.l0])
   | succ k1 =>
    have H := HA.out
    clear HA
    simp only [laws_from.l0] at H
    by_cases c18 : x4_1 < (l0_4.length : Int)
    ·rw [if_pos c18] at H
     have c18b0 : decide (x4_1 < (l0_4.length : Int)) = true := decide_eq_true c18
     clear c18
     by_cases c19 : 0 ≤ x4_1
     ·rw [if_pos c19] at H
      have c19b0 : decide (0 ≤ x4_1) = true := decide_eq_true c19
      clear c19
      replace H := Option.bind_eq_some_iff.mp H
      obtain ⟨⟨t248, t249, t250, t251, t254⟩, A200, H⟩ := H
      replace H : (if x247004_1.length < 1759218604441 then (laws_from.l0 k1 (wrap64 (x4_1 + 1)) a0_0 a0_1 a0_2 l0_3 l0_4 a0_0 a0_1 a0_2 y243 (x247004_1 ++ [(⟨t248, t249, t250, t251, t254⟩ : S25)])) else (none)) = some (r1, r2, r3, r4, r5) := H
      have A20 := aM A200
      clear A200
      by_cases c21 : x247004_1.length < 1759218604441
      ·rw [if_pos c21] at H
       have LMc21 := aM c21
       clear c21
       obtain ⟨y257, hy257⟩ : ∃ y_ : List (S25), y_ = (x247004_1 ++ [(⟨t248, t249, t250, t251, t254⟩ : S25)]) := ⟨_, rfl⟩
       replace H : (laws_from.l0 k1 (wrap64 (x4_1 + 1)) a0_0 a0_1 a0_2 l0_3 l0_4 a0_0 a0_1 a0_2 y243 y257) = some (r1, r2, r3, r4, r5) := by first | (rw [hy257]; with_reducible exact H) | (have H2_ := (Option.bind_some _ _).symm.trans H; rw [hy257]; with_reducible exact H2_) | (have H2_ := (Option.bind_some _ _).symm.trans H; with_reducible exact H2_) | with_reducible exact H | (rw [hy257]; exact H) | exact H
       have Ny257 := aM hy257
       clear hy257
       have H' := aM H
       clear H
       have hnb22 := NB238_239.out
       have hnc22 := NB239_238.out
       have hnb23 := NB238_246.out
       have hnc23 := NB246_238.out
       have hcz24_0 : wr.cell? ⟨gb238, 0, none⟩ = some (.int .i64 a0_0) := (blk_cell BK238.out 0).trans rfl
       have hcz24_1 : wr.cell? ⟨gb238, 1, none⟩ = some (.int .i64 a0_1) := (blk_cell BK238.out 1).trans rfl
       have hcz24_2 : wr.cell? ⟨gb238, 2, none⟩ = some (.string a0_2) := (blk_cell BK238.out 2).trans rfl
       have hcz24_3 : wr.cell? ⟨gb238, 3, none⟩ = some (.slice A0_3 l0_3.length c0_3) := (blk_cell BK238.out 3).trans rfl
       have hcz24_4 : wr.cell? ⟨gb238, 4, none⟩ = some (.slice A0_4 l0_4.length c0_4) := (blk_cell BK238.out 4).trans rfl
       have hfz24_0 := blk_frozen BK238.out 0
       have hfz24_1 := blk_frozen BK238.out 1
       have hfz24_2 := blk_frozen BK238.out 2
       have hfz24_3 := blk_frozen BK238.out 3
       have hfz24_4 := blk_frozen BK238.out 4
       try go_wp2
       have n0_ := aM (Kd.R_drew HO_247003.out)
       have n1_ := aM (Kd.R_drew HO_247004.out)
       have n2_ := aM (blk_drew BK238.out)
       have n3_ := aM (blk_drew BK239.out)
       have n4_ := aM (blk_drew BK246.out)
       have n5_ := aM (below_drew1 HB.out)
       clear HO_247003 HO_247004 BK238 BK239 BK246 HB; have HO_247003 := n0_; have HO_247004 := n1_; have BK238 := n2_; have BK239 := n3_; have BK246 := n4_; have HB := n5_; clear n0_ n1_ n2_ n3_ n4_ n5_
       have p247 : 0 ≤ (x4_1 : Int) := of_decide_eq_true (by first | (with_reducible assumption) | assumption)
       have q247 : x4_1 < (l0_4.length : Int) := of_decide_eq_true (by first | (with_reducible assumption) | assumption)
       obtain ⟨ad247, A247_3, c247_3, A247_4, c247_4, e247, hx247_0, hx247_1, hx247_2, hx247_3, hx247_4, hl247_3, hi247_3, hl247_4, hi247_4⟩ := at_T31 HR0_4.out x4_1 p247 q247
       have hw247_4 := hx247_4
       have hw247_3 := hx247_3
       have hw247_2 := hx247_2
       have hw247_1 := hx247_1
       have hw247_0 := hx247_0
       cases e247
       replace hx247_0 := (HB.out.cell (World.block_lt_of_cell? w _ hx247_0)).trans hx247_0
       replace hx247_1 := (HB.out.cell (World.block_lt_of_cell? w _ hx247_1)).trans hx247_1
       replace hx247_2 := (HB.out.cell (World.block_lt_of_cell? w _ hx247_2)).trans hx247_2
       replace hx247_3 := (HB.out.cell (World.block_lt_of_cell? w _ hx247_3)).trans hx247_3
       replace hx247_4 := (HB.out.cell (World.block_lt_of_cell? w _ hx247_4)).trans hx247_4
       have HR247_3 := aM hi247_3
       have HC247_3 := aM hl247_3
       clear hi247_3 hl247_3
       have HR247_4 := aM hi247_4
       have HC247_4 := aM hl247_4
       clear hi247_4 hl247_4
       replace p247 := eq_true p247
       replace q247 := eq_true q247
       refine start_ (n := 12) (S := fun w' => w'.cell? ⟨gb246, 0, none⟩ = some (.int .i64 a0_0) ∧ w'.cell? ⟨gb246, 1, none⟩ = some (.int .i64 a0_1) ∧ w'.cell? ⟨gb246, 2, none⟩ = some (.string a0_2) ∧ w'.cell? ⟨gb246, 3, none⟩ = some (.slice Ao12 y243.length co12) ∧ w'.cell? ⟨gb246, 4, none⟩ = some (u247004) ∧ w'.cell? ⟨gb238, 0, none⟩ = some (.int .i64 a0_0) ∧ w'.cell? ⟨gb238, 1, none⟩ = some (.int .i64 a0_1) ∧ w'.cell? ⟨gb238, 2, none⟩ = some (.string a0_2) ∧ w'.cell? ⟨gb238, 3, none⟩ = some (.slice A0_3 l0_3.length c0_3) ∧ w'.cell? ⟨gb238, 4, none⟩ = some (.slice (some ad247) l0_4.length c0_4) ∧ w'.cell? (ad247.add ((x4_1).toNat * 5)) = some (.int .i64 ((rd_T31 l0_4 x4_1).f0)) ∧ w'.cell? ⟨(ad247.add ((x4_1).toNat * 5)).block, (ad247.add ((x4_1).toNat * 5)).off + 1, none⟩ = some (.int .i64 ((rd_T31 l0_4 x4_1).f1)) ∧ w'.cell? ⟨(ad247.add ((x4_1).toNat * 5)).block, (ad247.add ((x4_1).toNat * 5)).off + 2, none⟩ = some (.string ((rd_T31 l0_4 x4_1).f2)) ∧ w'.cell? ⟨(ad247.add ((x4_1).toNat * 5)).block, (ad247.add ((x4_1).toNat * 5)).off + 3, none⟩ = some (.slice A247_3 ((rd_T31 l0_4 x4_1).f3).length c247_3) ∧ w'.cell? ⟨(ad247.add ((x4_1).toNat * 5)).block, (ad247.add ((x4_1).toNat * 5)).off + 4, none⟩ = some (.slice A247_4 ((rd_T31 l0_4 x4_1).f4).length c247_4)) (ds := [11]) #[false, false, false, false, false, false, false, false, false, false, false, false] (by kernel_rfl) rfl rfl ⟨(blk_cell BK246.out 0).trans rfl, (blk_cell BK246.out 1).trans rfl, (blk_cell BK246.out 2).trans rfl, (blk_cell BK246.out 3).trans rfl, (blk_cell BK246.out 4).trans rfl, (blk_cell BK238.out 0).trans rfl, (blk_cell BK238.out 1).trans rfl, (blk_cell BK238.out 2).trans rfl, (blk_cell BK238.out 3).trans rfl, (blk_cell BK238.out 4).trans rfl, ((HB.out.cell (World.block_lt_of_cell? w _ hw247_0)).trans hw247_0), ((HB.out.cell (World.block_lt_of_cell? w _ hw247_1)).trans hw247_1), ((HB.out.cell (World.block_lt_of_cell? w _ hw247_2)).trans hw247_2), ((HB.out.cell (World.block_lt_of_cell? w _ hw247_3)).trans hw247_3), ((HB.out.cell (World.block_lt_of_cell? w _ hw247_4)).trans hw247_4)⟩ (fun hHeld => ?_); refine with_tabW laws_from.tab5 laws_from.bits5 (fun HT_ HW_ => ?_)
       generalize wr.drew = w25 at HO_247003 HO_247004 BK238 BK239 BK246 HB HR247_3 HR247_4 hx247_0 hx247_1 hx247_2 hx247_3 hx247_4 hHeld ⊢
       refine pure_ (i := 0) (N := some 23) (v := ?_) (a' := ?_) #[true, false, false, false, false, false, false, false, false, false, false, false] rfl rfl (any_of HT_.out (by kernel_rfl)) (fun _ _ _ h => h) (Or.inl ⟨by rfl, ?_⟩) ?_ ?_
       rotate_left
       ·intro w'; go_simp; with_reducible rfl
       rotate_left
       ·simp only [Act.put, sA, sB, sC, i64_w, i32_w]; rfl
       refine pure_ (i := 2) (N := some 25) (v := ?_) (a' := ?_) #[true, false, true, false, false, false, false, false, false, false, false, false] rfl rfl (any_of HT_.out (by kernel_rfl)) (fun _ _ _ h => h) (Or.inl ⟨by rfl, ?_⟩) ?_ ?_
       rotate_left
       ·intro w'; go_simp; with_reducible rfl
       rotate_left
       ·simp only [Act.put, sA, sB, sC, i64_w, i32_w]; rfl
       refine pure_ (i := 4) (N := some 27) (v := ?_) (a' := ?_) #[true, false, true, false, true, false, false, false, false, false, false, false] rfl rfl (any_of HT_.out (by kernel_rfl)) (fun _ _ _ h => h) (Or.inl ⟨by rfl, ?_⟩) ?_ ?_
       rotate_left
       ·intro w'; go_simp; with_reducible rfl
       rotate_left
       ·simp only [Act.put, sA, sB, sC, i64_w, i32_w]; rfl
       refine take_ (i := 1) (N := some 24) (v := ?_) (a' := ?_) #[true, true, true, false, true, false, false, false, false, false, false, false] rfl rfl (take_ofW HT_.out HW_.out (by kernel_rfl)) (fun _ _ _ h => h) (Or.inl ⟨by rfl, ?_⟩) hHeld ?_ ?_
       rotate_left
       ·rintro w' ⟨s0, s1, s2, s3, s4, s5, s6, s7, s8, s9, s10, s11, s12, s13, s14⟩
        go_simp; with_reducible rfl
       rotate_left
       ·simp only [Act.put, sA, sB, sC, i64_w, i32_w]; rfl
       refine take_ (i := 3) (N := some 26) (v := ?_) (a' := ?_) #[true, true, true, true, true, false, false, false, false, false, false, false] rfl rfl (take_ofW HT_.out HW_.out (by kernel_rfl)) (fun _ _ _ h => h) (Or.inl ⟨by rfl, ?_⟩) hHeld ?_ ?_
       rotate_left
       ·rintro w' ⟨s0, s1, s2, s3, s4, s5, s6, s7, s8, s9, s10, s11, s12, s13, s14⟩
        go_simp; with_reducible rfl
       rotate_left
       ·simp only [Act.put, sA, sB, sC, i64_w, i32_w]; rfl
       refine pure_ (i := 5) (N := some 28) (v := ?_) (a' := ?_) #[true, true, true, true, true, true, false, false, false, false, false, false] rfl rfl (any_of HT_.out (by kernel_rfl)) (fun _ _ _ h => h) (Or.inl ⟨by rfl, ?_⟩) ?_ ?_
       rotate_left
       ·intro w'; go_simp; with_reducible rfl
       rotate_left
       ·simp only [Act.put, sA, sB, sC, i64_w, i32_w]; rfl
       refine take_ (i := 6) (N := some 29) (v := ?_) (a' := ?_) #[true, true, true, true, true, true, true, false, false, false, false, false] rfl rfl (take_ofW HT_.out HW_.out (by kernel_rfl)) (fun _ _ _ h => h) (Or.inl ⟨by rfl, ?_⟩) hHeld ?_ ?_
       rotate_left
       ·rintro w' ⟨s0, s1, s2, s3, s4, s5, s6, s7, s8, s9, s10, s11, s12, s13, s14⟩
        go_simp; with_reducible rfl
       rotate_left
       ·simp only [Act.put, sA, sB, sC, i64_w, i32_w]; rfl
       refine one_ (i := 7) (N := some 30) #[true, true, true, true, true, true, true, true, false, false, false, false] rfl rfl (one_of HT_.out (by kernel_rfl)) (by decide) (fun K hK => ?_)
       refine goes_ Tryz.func12 (by kernel_rfl) rfl #[.agg #[.int .i64 ((rd_T31 l0_4 x4_1).f0), .int .i64 ((rd_T31 l0_4 x4_1).f1), .string ((rd_T31 l0_4 x4_1).f2), .slice A247_3 ((rd_T31 l0_4 x4_1).f3).length c247_3, .slice A247_4 ((rd_T31 l0_4 x4_1).f4).length c247_4]] (by rfl) rfl rfl (by (try simp only [List.map_toArray, List.map_cons, List.map_nil]); first | done | rfl | (simp only [List.length_drop, List.length_take]; rfl)) ?_
       with_reducible refine (ih k1 (by have := HK1.out; omega) ((rd_T31 l0_4 x4_1).f0) ((rd_T31 l0_4 x4_1).f1) ((rd_T31 l0_4 x4_1).f2) _ _ ((rd_T31 l0_4 x4_1).f3) _ _ ((rd_T31 l0_4 x4_1).f4) t248 t249 t250 t251 t254 _ ?side1 ?side2 ?side3 ?side4 A20.out).mono ?_
       (case side1 => repeat (first | exact (Kd.C_below HR247_3.out HB.out) | (with_reducible refine Kd.C_alloc ?_ _) | (with_reducible refine Kd.C_drewN ?_ _) | (with_reducible refine Kd.C_drew ?_)))
       (case side2 => exact HC247_3.out)
       (case side3 => repeat (first | exact (Kd.C_below HR247_4.out HB.out) | (with_reducible refine Kd.C_alloc ?_ _) | (with_reducible refine Kd.C_drewN ?_ _) | (with_reducible refine Kd.C_drew ?_)))
       (case side4 => exact HC247_4.out)
       rintro e w26 ⟨v252, v255, rfl, ho0, ho1, hb⟩
       refine ⟨_, rfl, ?_⟩
       have n0_ := aM (Kd.R_elder' (by (with_reducible repeat (first | apply Kd.R_alloc | apply Kd.R_drewN | apply Kd.R_drew)); exact HO_247003.out) (Kd.R_base ho0) hb)
       have n1_ := aM (Kd.R_mono (Kd.R_told (Kd.R_told (Kd.R_old (by (with_reducible repeat (first | apply Kd.R_alloc | apply Kd.R_drewN | apply Kd.R_drew)); exact HO_247004.out) hb) (Kd.R_base ho0)) (Kd.R_base ho1)) (fun _ h_ => h_.1))
       have n2_ := aM (Kd.R_lower (Kd.R_new' ho0 (Kd.R_lt (by (with_reducible repeat (first | apply Kd.R_alloc | apply Kd.R_drewN | apply Kd.R_drew)); exact HO_247003.out))) (below_size (by repeat (first | (with_reducible first | exact HB.out | apply below_alloc | apply pw_below_drewN | apply below_drew1 | refine below_set ?_ GE238.out | refine below_set ?_ GE239.out | refine below_set ?_ GE246.out) | exact HB.out))))
       have n3_ := aM (Kd.R_lower (Kd.R_newB (Kd.R_newB (Kd.R_new' (Kd.R_new' ho1 (Kd.R_lt (by (with_reducible repeat (first | apply Kd.R_alloc | apply Kd.R_drewN | apply Kd.R_drew)); exact HO_247003.out))) (Kd.R_lt (by (with_reducible repeat (first | apply Kd.R_alloc | apply Kd.R_drewN | apply Kd.R_drew)); exact HO_247004.out))) (g := gb239) (o := .cells #[.int .i64 0, .int .i64 0, .string (⟨#[]⟩ : ByteArray), .slice none 0 0, .slice none 0 0] 25 (0, 0)) (by (with_reducible repeat (first | refine blk_drewN ?_ _ | refine blk_drew ?_ | refine blk_alloc ?_ _)); exact BK239.out)) (g := gb246) (o := .cells #[.int .i64 a0_0, .int .i64 a0_1, .string a0_2, .slice Ao12 y243.length co12, u247004] 25 (0, 0)) (by (with_reducible repeat (first | refine blk_drewN ?_ _ | refine blk_drew ?_ | refine blk_alloc ?_ _)); exact BK246.out)) (below_size (by repeat (first | (with_reducible first | exact HB.out | apply below_alloc | apply pw_below_drewN | apply below_drew1 | refine below_set ?_ GE238.out | refine below_set ?_ GE239.out | refine below_set ?_ GE246.out) | exact HB.out))))
       have n4_ := aM (blk_below (g := gb238) (o := .cells #[.int .i64 a0_0, .int .i64 a0_1, .string a0_2, .slice A0_3 l0_3.length c0_3, .slice (some ad247) l0_4.length c0_4] 31 (0, 0)) (by (with_reducible repeat (first | refine blk_drewN ?_ _ | refine blk_drew ?_ | refine blk_alloc ?_ _)); exact BK238.out) hb)
       have n5_ := aM (blk_below (g := gb239) (o := .cells #[.int .i64 0, .int .i64 0, .string (⟨#[]⟩ : ByteArray), .slice none 0 0, .slice none 0 0] 25 (0, 0)) (by (with_reducible repeat (first | refine blk_drewN ?_ _ | refine blk_drew ?_ | refine blk_alloc ?_ _)); exact BK239.out) hb)
       have n6_ := aM (blk_below (g := gb246) (o := .cells #[.int .i64 a0_0, .int .i64 a0_1, .string a0_2, .slice Ao12 y243.length co12, u247004] 25 (0, 0)) (by (with_reducible repeat (first | refine blk_drewN ?_ _ | refine blk_drew ?_ | refine blk_alloc ?_ _)); exact BK246.out) hb)
       have n7_ := aM (below_step (by repeat (first | (with_reducible first | exact HB.out | apply below_alloc | apply pw_below_drewN | apply below_drew1 | refine below_set ?_ GE238.out | refine below_set ?_ GE239.out | refine below_set ?_ GE246.out) | exact HB.out)) hb)
       clear HO_247003 HO_247004 BK238 BK239 BK246 HB; have HO_247003 := n0_; have HO_247004 := n1_; have HO253 := n2_; have HO256 := n3_; have BK238 := n4_; have BK239 := n5_; have BK246 := n6_; have HB := n7_; clear n0_ n1_ n2_ n3_ n4_ n5_ n6_ n7_
       (try clear hb)
       (try clear hb2)
       (try clear hk)
       (try clear hi)
       (try clear ho0)
       (try clear ho1)
       obtain ⟨Ao28, co28, eo28⟩ := Kd.R_slice HO253.out
       (first | subst eo28 | (injection eo28 with f1_ f2_ f3_; have f4_ := f1_.symm; have f5_ := f3_.symm; clear f1_ f2_ f3_; subst f4_; subst f5_))
       obtain ⟨Ao29, co29, eo29⟩ := Kd.R_slice HO256.out
       (first | subst eo29 | (injection eo29 with f1_ f2_ f3_; have f4_ := f1_.symm; have f5_ := f3_.symm; clear f1_ f2_ f3_; subst f4_; subst f5_))
       refine hK.out _ _ ⟨(blk_cell BK246.out 0).trans rfl, (blk_cell BK246.out 1).trans rfl, (blk_cell BK246.out 2).trans rfl, (blk_cell BK246.out 3).trans rfl, (blk_cell BK246.out 4).trans rfl, (blk_cell BK238.out 0).trans rfl, (blk_cell BK238.out 1).trans rfl, (blk_cell BK238.out 2).trans rfl, (blk_cell BK238.out 3).trans rfl, (blk_cell BK238.out 4).trans rfl, ((HB.out.cell (World.block_lt_of_cell? w _ hw247_0)).trans hw247_0), ((HB.out.cell (World.block_lt_of_cell? w _ hw247_1)).trans hw247_1), ((HB.out.cell (World.block_lt_of_cell? w _ hw247_2)).trans hw247_2), ((HB.out.cell (World.block_lt_of_cell? w _ hw247_3)).trans hw247_3), ((HB.out.cell (World.block_lt_of_cell? w _ hw247_4)).trans hw247_4)⟩ (fun hHeld => ?_)
       clear hK K
       refine norm_ (a' := ?_) ?_ ?_
       rotate_left
       ·show Act.put _ (some 30) _ = _
        simp only [Act.put, sA, sB, sC, i64_w, i32_w]; rfl
       refine one_ (i := 8) (N := some 31) #[true, true, true, true, true, true, true, true, true, false, false, false] rfl rfl (one_of HT_.out (by kernel_rfl)) (by decide) (fun K hK => ?_)
       refine value_ (w1 := ?_) (v := ?_) (by rfl) rfl ?_ ?_
       rotate_left 2
       ·go_simp; constructor
        ·rfl
        ·rfl
       refine hK.out _ _ ⟨(blk_cell (blk_alloc BK246.out _) 0).trans rfl, (blk_cell (blk_alloc BK246.out _) 1).trans rfl, (blk_cell (blk_alloc BK246.out _) 2).trans rfl, (blk_cell (blk_alloc BK246.out _) 3).trans rfl, (blk_cell (blk_alloc BK246.out _) 4).trans rfl, (blk_cell (blk_alloc BK238.out _) 0).trans rfl, (blk_cell (blk_alloc BK238.out _) 1).trans rfl, (blk_cell (blk_alloc BK238.out _) 2).trans rfl, (blk_cell (blk_alloc BK238.out _) 3).trans rfl, (blk_cell (blk_alloc BK238.out _) 4).trans rfl, (World.cell?_alloc_lt _ _ _ (World.block_lt_of_cell? _ _ (((HB.out.cell (World.block_lt_of_cell? w _ hw247_0)).trans hw247_0)))).trans (((HB.out.cell (World.block_lt_of_cell? w _ hw247_0)).trans hw247_0)), (World.cell?_alloc_lt _ _ _ (World.block_lt_of_cell? _ _ (((HB.out.cell (World.block_lt_of_cell? w _ hw247_1)).trans hw247_1)))).trans (((HB.out.cell (World.block_lt_of_cell? w _ hw247_1)).trans hw247_1)), (World.cell?_alloc_lt _ _ _ (World.block_lt_of_cell? _ _ (((HB.out.cell (World.block_lt_of_cell? w _ hw247_2)).trans hw247_2)))).trans (((HB.out.cell (World.block_lt_of_cell? w _ hw247_2)).trans hw247_2)), (World.cell?_alloc_lt _ _ _ (World.block_lt_of_cell? _ _ (((HB.out.cell (World.block_lt_of_cell? w _ hw247_3)).trans hw247_3)))).trans (((HB.out.cell (World.block_lt_of_cell? w _ hw247_3)).trans hw247_3)), (World.cell?_alloc_lt _ _ _ (World.block_lt_of_cell? _ _ (((HB.out.cell (World.block_lt_of_cell? w _ hw247_4)).trans hw247_4)))).trans (((HB.out.cell (World.block_lt_of_cell? w _ hw247_4)).trans hw247_4))⟩ (fun hHeld => ?_)
       clear hK K
       refine norm_ (a' := ?_) ?_ ?_
       rotate_left
       ·show Act.put _ (some 31) _ = _
        simp only [Act.put, sA, sB, sC, i64_w, i32_w]; rfl
       refine one_ (i := 9) (N := some 32) #[true, true, true, true, true, true, true, true, true, true, false, false] rfl rfl (one_of HT_.out (by kernel_rfl)) (by decide) (fun K hK => ?_)
       refine Kd.R_append_step k25 (w0 := w) w.heap.size (by rfl) (.tmp 24) (.tmp 31) 23 25 (.agg #[(.int .i64 0), (.int .i64 0), (.string ⟨#[]⟩), (.slice none 0 0), (.slice none 0 0)]) 80 rfl Tryz.underlying23 info25 rfl (by decide) (by omega) u247004 x247004_1 (⟨t248, t249, t250, t251, t254⟩ : S25) [.int .i64 t248, .int .i64 t249, .string t250, .slice Ao28 t251.length co28, .slice Ao29 t254.length co29] (fun k_ => some k_ ≠ (.slice Ao12 y243.length co12 : Value).ownBlock ∧ k_ ≠ gb239 ∧ k_ ≠ gb246) (fun k_ => ((fun k_ => some k_ ≠ (.slice Ao12 y243.length co12 : Value).ownBlock ∧ k_ ≠ gb239 ∧ k_ ≠ gb246)) k_ ∧ some k_ ≠ (u247004 : Value).ownBlock) rfl rfl ?aP (fun _ hk => hk) ?aF ?aO ?aB ?aS ?aL ?_
       (case aP => exact k25_mkM _ _ _ (⟨t248, t249, t250, t251, t254⟩ : S25) (Kd.R_mono (Kd.R_types (Kd.R_types (Kd.R_apart' (HO253.out) (Kd.R_typed HO_247004.out) (by decide)) BK239.out (by decide)) BK246.out (by decide)) (fun k_ hk => ⟨⟨hk.1.1.1.2, ⟨hk.1.2, hk.2⟩⟩, hk.1.1.2⟩)) (Kd.R_mono (HO256.out) (fun k_ hk => ⟨⟨hk.1.1.1.2, ⟨hk.1.2, hk.2⟩⟩, hk.1.1.2⟩)))
       (case aB => exact (by repeat (first | (with_reducible first | exact HB.out | apply below_alloc | apply pw_below_drewN | apply below_drew1 | refine below_set ?_ GE238.out | refine below_set ?_ GE239.out | refine below_set ?_ GE246.out) | exact HB.out)))
       (case aF => exact (fun k_ hk => ⟨Kd.fresh' (Kd.R_lt (by (with_reducible repeat (first | apply Kd.R_alloc | apply Kd.R_drewN | apply Kd.R_drew)); exact HO_247003.out)) k_ hk, Kd.freshB (g := gb239) (o := .cells #[.int .i64 0, .int .i64 0, .string (⟨#[]⟩ : ByteArray), .slice none 0 0, .slice none 0 0] 25 (0, 0)) (by (with_reducible repeat (first | refine blk_drewN ?_ _ | refine blk_drew ?_ | refine blk_alloc ?_ _)); exact BK239.out) k_ hk, Kd.freshB (g := gb246) (o := .cells #[.int .i64 a0_0, .int .i64 a0_1, .string a0_2, .slice Ao12 y243.length co12, u247004] 25 (0, 0)) (by (with_reducible repeat (first | refine blk_drewN ?_ _ | refine blk_drew ?_ | refine blk_alloc ?_ _)); exact BK246.out) k_ hk⟩))
       (case aO => exact (by (with_reducible repeat (first | apply Kd.R_alloc | apply Kd.R_drewN | apply Kd.R_drew)); exact Kd.R_mono HO_247004.out (fun _ hk => ⟨hk.1.1.1, ⟨hk.1.1.2.1, hk.1.1.2.2⟩⟩)))
       (case aS => exact (below_size (by repeat (first | (with_reducible first | exact HB.out | apply below_alloc | apply pw_below_drewN | apply below_drew1 | refine below_set ?_ GE238.out | refine below_set ?_ GE239.out | refine below_set ?_ GE246.out) | exact HB.out))))
       (case aL => have := LMc21.out; omega)
       intro v258 w27 ho hb hg hat
       rw [← Ny257.out] at ho
       have n0_ := aM (Kd.R_over' (by (with_reducible repeat (first | apply Kd.R_alloc | apply Kd.R_drewN | apply Kd.R_drew)); exact HO_247003.out) (Kd.R_typed (by (with_reducible repeat (first | apply Kd.R_alloc | apply Kd.R_drewN | apply Kd.R_drew)); exact HO_247004.out)) (by decide) hg)
       have n1_ := aM (blk_grown (g := gb238) (o := .cells #[.int .i64 a0_0, .int .i64 a0_1, .string a0_2, .slice A0_3 l0_3.length c0_3, .slice (some ad247) l0_4.length c0_4] 31 (0, 0)) (by (with_reducible repeat (first | refine blk_drewN ?_ _ | refine blk_drew ?_ | refine blk_alloc ?_ _)); exact BK238.out) hg (Kd.R_ne HO_247004.out BK238.out (by decide)))
       have n2_ := aM (blk_grown (g := gb239) (o := .cells #[.int .i64 0, .int .i64 0, .string (⟨#[]⟩ : ByteArray), .slice none 0 0, .slice none 0 0] 25 (0, 0)) (by (with_reducible repeat (first | refine blk_drewN ?_ _ | refine blk_drew ?_ | refine blk_alloc ?_ _)); exact BK239.out) hg (Kd.R_away HO_247004.out (fun _ hk => hk.1.1.2.1)))
       have n3_ := aM (blk_grown (g := gb246) (o := .cells #[.int .i64 a0_0, .int .i64 a0_1, .string a0_2, .slice Ao12 y243.length co12, u247004] 25 (0, 0)) (by (with_reducible repeat (first | refine blk_drewN ?_ _ | refine blk_drew ?_ | refine blk_alloc ?_ _)); exact BK246.out) hg (Kd.R_away HO_247004.out (fun _ hk => hk.1.1.2.2)))
       have n4_ := aM (hb)
       have n5_ := aM (ho)
       clear HO_247003 BK238 BK239 BK246 HB HO_247004 HO253 HO256; have HO_247003 := n0_; have BK238 := n1_; have BK239 := n2_; have BK246 := n3_; have HB := n4_; have HO259 := n5_; clear n0_ n1_ n2_ n3_ n4_ n5_ ho hb hg hat
       obtain ⟨Ao30, co30, eo30⟩ := Kd.R_slice HO259.out
       (first | subst eo30 | (injection eo30 with f1_ f2_ f3_; have f4_ := f1_.symm; have f5_ := f3_.symm; clear f1_ f2_ f3_; subst f4_; subst f5_))
       refine hK.out _ _ ⟨(blk_cell BK246.out 0).trans rfl, (blk_cell BK246.out 1).trans rfl, (blk_cell BK246.out 2).trans rfl, (blk_cell BK246.out 3).trans rfl, (blk_cell BK246.out 4).trans rfl, (blk_cell BK238.out 0).trans rfl, (blk_cell BK238.out 1).trans rfl, (blk_cell BK238.out 2).trans rfl, (blk_cell BK238.out 3).trans rfl, (blk_cell BK238.out 4).trans rfl, ((HB.out.cell (World.block_lt_of_cell? w _ hw247_0)).trans hw247_0), ((HB.out.cell (World.block_lt_of_cell? w _ hw247_1)).trans hw247_1), ((HB.out.cell (World.block_lt_of_cell? w _ hw247_2)).trans hw247_2), ((HB.out.cell (World.block_lt_of_cell? w _ hw247_3)).trans hw247_3), ((HB.out.cell (World.block_lt_of_cell? w _ hw247_4)).trans hw247_4)⟩ (fun hHeld => ?_)
       clear hK K
       refine norm_ (a' := ?_) ?_ ?_
       rotate_left
       ·show Act.put _ (some 32) _ = _
        simp only [Act.put, sA, sB, sC, i64_w, i32_w]; rfl
       refine pure_ (i := 10) (N := some 33) (v := ?_) (a' := ?_) #[true, true, true, true, true, true, true, true, true, true, true, false] rfl rfl (any_of HT_.out (by kernel_rfl)) (fun _ _ _ h => h) (Or.inl ⟨by rfl, ?_⟩) ?_ ?_
       rotate_left
       ·intro w'; go_simp; with_reducible rfl
       rotate_left
       ·simp only [Act.put, sA, sB, sC, i64_w, i32_w]; rfl
       refine last_ (i := 11) (N := none) #[true, true, true, true, true, true, true, true, true, true, true, true] rfl rfl (one_of HT_.out (by kernel_rfl)) (by decide) (fun K hK => ?_)
       have hs31 : w27.cell? ⟨gb246, 4, none⟩ = some (u247004) := (blk_cell BK246.out 4).trans rfl
       have hfs31 := blk_frozen BK246.out 4
       have hns31_0 := NB238_246.out
       have hns31_1 := NB239_246.out
       have hms31_0 := NB246_238.out
       have hms31_1 := NB246_239.out
       refine skip_ (w1 := ?_) (by rfl) rfl ?_ ?_
       rotate_left
       ·go_simp; rfl
       refine hK.out _ _ ?_
       clear hK K
       refine done_ (done_of HT_.out (by kernel_rfl)) ?_
       try go_wp2
       go_roundg k1
       case measure => have := HK1.out; omega
       case rel => exact ⟨(wrap64 (x4_1 + 1)), (y257), (.slice Ao30 y257.length co30), (by first | rfl | (simp; done) | (simp [*]; done)), H', ⟨by have := HK1.out; omega⟩, ⟨by (with_reducible repeat (first | apply Kd.R_alloc | apply Kd.R_drewN | apply Kd.R_drew)); exact Kd.R_mono (Kd.R_far (p := ⟨gb246, 4, none⟩) (Kd.R_types HO_247003.out BK246.out (by decide)) (fun _ hk => hk.2) (.slice Ao30 y257.length co30)) (fun _ hk => trivial)⟩, ⟨by (with_reducible repeat (first | apply Kd.R_alloc | apply Kd.R_drewN | apply Kd.R_drew)); exact Kd.R_mono (Kd.R_far (p := ⟨gb246, 4, none⟩) (Kd.R_mono HO259.out (fun k_ hk => (⟨hk, hk.2.2⟩ : _ ∧ k_ ≠ gb246))) (fun _ hk => hk.2) (.slice Ao30 y257.length co30)) (fun _ hk => ⟨hk.1.1, ⟨hk.1.2.1, hk.1.2.2⟩⟩)⟩, ⟨by (with_reducible repeat (first | refine blk_drewN ?_ _ | refine blk_drew ?_ | refine blk_alloc ?_ _)); refine blk_far ?_ NB238_246.out _; (with_reducible repeat (first | refine blk_drewN ?_ _ | refine blk_drew ?_ | refine blk_alloc ?_ _)); exact BK238.out⟩, ⟨by (with_reducible repeat (first | refine blk_drewN ?_ _ | refine blk_drew ?_ | refine blk_alloc ?_ _)); refine blk_far ?_ NB239_246.out _; (with_reducible repeat (first | refine blk_drewN ?_ _ | refine blk_drew ?_ | refine blk_alloc ?_ _)); exact BK239.out⟩, ⟨by (with_reducible repeat (first | refine blk_drewN ?_ _ | refine blk_drew ?_ | refine blk_alloc ?_ _)); refine blk_put (cs := #[.int .i64 a0_0, .int .i64 a0_1, .string a0_2, .slice Ao12 y243.length co12, u247004]) ?_ 4 _ rfl; (with_reducible repeat (first | refine blk_drewN ?_ _ | refine blk_drew ?_ | refine blk_alloc ?_ _)); exact BK246.out⟩, ⟨by repeat (first | (with_reducible first | exact HB.out | apply below_alloc | apply pw_below_drewN | apply below_drew1 | refine below_set ?_ GE238.out | refine below_set ?_ GE239.out | refine below_set ?_ GE246.out) | exact HB.out)⟩⟩
      ·rw [if_neg c21] at H
       exact absurd H (by simp)
     ·rw [if_neg c19] at H
      exact absurd H (by simp)
    ·rw [if_neg c18] at H
     have c18b0 : decide (x4_1 < (l0_4.length : Int)) = false := decide_eq_false c18
     clear c18
     simp only [Option.some.injEq, Prod.mk.injEq] at H
     obtain ⟨rfl, rfl, rfl, rfl, rfl⟩ := H
     have hnb32 := NB238_239.out
     have hnc32 := NB239_238.out
     have hnb33 := NB238_246.out
     have hnc33 := NB246_238.out
     have hcz34_0 : wr.cell? ⟨gb238, 0, none⟩ = some (.int .i64 a0_0) := (blk_cell BK238.out 0).trans rfl
     have hcz34_1 : wr.cell? ⟨gb238, 1, none⟩ = some (.int .i64 a0_1) := (blk_cell BK238.out 1).trans rfl
     have hcz34_2 : wr.cell? ⟨gb238, 2, none⟩ = some (.string a0_2) := (blk_cell BK238.out 2).trans rfl
     have hcz34_3 : wr.cell? ⟨gb238, 3, none⟩ = some (.slice A0_3 l0_3.length c0_3) := (blk_cell BK238.out 3).trans rfl
     have hcz34_4 : wr.cell? ⟨gb238, 4, none⟩ = some (.slice A0_4 l0_4.length c0_4) := (blk_cell BK238.out 4).trans rfl
     have hfz34_0 := blk_frozen BK238.out 0
     have hfz34_1 := blk_frozen BK238.out 1
     have hfz34_2 := blk_frozen BK238.out 2
     have hfz34_3 := blk_frozen BK238.out 3
     have hfz34_4 := blk_frozen BK238.out 4
     have hnb35 := NB246_239.out
     have hnc35 := NB239_246.out
     have hcz36_0 : wr.cell? ⟨gb246, 0, none⟩ = some (.int .i64 a0_0) := (blk_cell BK246.out 0).trans rfl
     have hcz36_1 : wr.cell? ⟨gb246, 1, none⟩ = some (.int .i64 a0_1) := (blk_cell BK246.out 1).trans rfl
     have hcz36_2 : wr.cell? ⟨gb246, 2, none⟩ = some (.string a0_2) := (blk_cell BK246.out 2).trans rfl
     have hcz36_3 : wr.cell? ⟨gb246, 3, none⟩ = some (.slice Ao12 y243.length co12) := (blk_cell BK246.out 3).trans rfl
     have hcz36_4 : wr.cell? ⟨gb246, 4, none⟩ = some (u247004) := (blk_cell BK246.out 4).trans rfl
     have hfz36_0 := blk_frozen BK246.out 0
     have hfz36_1 := blk_frozen BK246.out 1
     have hfz36_2 := blk_frozen BK246.out 2
     have hfz36_3 := blk_frozen BK246.out 3
     have hfz36_4 := blk_frozen BK246.out 4
     have hcz37_0 : wr.cell? ⟨gb239, 0, none⟩ = some (.int .i64 0) := (blk_cell BK239.out 0).trans rfl
     have hcz37_1 : wr.cell? ⟨gb239, 1, none⟩ = some (.int .i64 0) := (blk_cell BK239.out 1).trans rfl
     have hcz37_2 : wr.cell? ⟨gb239, 2, none⟩ = some (.string (⟨#[]⟩ : ByteArray)) := (blk_cell BK239.out 2).trans rfl
     have hcz37_3 : wr.cell? ⟨gb239, 3, none⟩ = some (.slice none 0 0) := (blk_cell BK239.out 3).trans rfl
     have hcz37_4 : wr.cell? ⟨gb239, 4, none⟩ = some (.slice none 0 0) := (blk_cell BK239.out 4).trans rfl
     have hfz37_0 := blk_frozen BK239.out 0
     have hfz37_1 := blk_frozen BK239.out 1
     have hfz37_2 := blk_frozen BK239.out 2
     have hfz37_3 := blk_frozen BK239.out 3
     have hfz37_4 := blk_frozen BK239.out 4
     obtain ⟨Ao38, co38, eo38⟩ := Kd.R_slice HO_247004.out
     subst eo38
     go_wp2
     refine bodyPost_ret (results_cell_row rfl _ _ gb239 25 #[.int .i64 a0_0, .int .i64 a0_1, .string a0_2, .slice Ao12 y243.length co12, .slice Ao38 x247004_1.length co38] (0, 0) _ rfl (by (with_reducible repeat (first | refine blk_drewN ?_ _ | refine blk_drew ?_ | refine blk_alloc ?_ _)); refine blk_put (cs := #[.int .i64 a0_0, .int .i64 a0_1, .string a0_2, .slice Ao12 y243.length co12, .slice none 0 0]) ?_ 4 _ rfl; (with_reducible repeat (first | refine blk_drewN ?_ _ | refine blk_drew ?_ | refine blk_alloc ?_ _)); refine blk_put (cs := #[.int .i64 a0_0, .int .i64 a0_1, .string a0_2, .slice none 0 0, .slice none 0 0]) ?_ 3 _ rfl; (with_reducible repeat (first | refine blk_drewN ?_ _ | refine blk_drew ?_ | refine blk_alloc ?_ _)); refine blk_put (cs := #[.int .i64 a0_0, .int .i64 a0_1, .string (⟨#[]⟩ : ByteArray), .slice none 0 0, .slice none 0 0]) ?_ 2 _ rfl; (with_reducible repeat (first | refine blk_drewN ?_ _ | refine blk_drew ?_ | refine blk_alloc ?_ _)); refine blk_put (cs := #[.int .i64 a0_0, .int .i64 0, .string (⟨#[]⟩ : ByteArray), .slice none 0 0, .slice none 0 0]) ?_ 1 _ rfl; (with_reducible repeat (first | refine blk_drewN ?_ _ | refine blk_drew ?_ | refine blk_alloc ?_ _)); refine blk_put (cs := #[.int .i64 0, .int .i64 0, .string (⟨#[]⟩ : ByteArray), .slice none 0 0, .slice none 0 0]) ?_ 0 _ rfl; (with_reducible repeat (first | refine blk_drewN ?_ _ | refine blk_drew ?_ | refine blk_alloc ?_ _)); exact BK239.out) Tryz.underlying25 rfl (by kernel_rfl)) rfl ?_
     exact ⟨_, _, by first | rfl | (simp [errW_none, errW_some] <;> rfl) | (simp [*, errW_none, errW_some] <;> rfl), by (with_reducible repeat (first | apply Kd.R_alloc | apply Kd.R_drewN | apply Kd.R_drew)); exact Kd.R_mono (Kd.R_far (p := ⟨gb239, 4, none⟩) (Kd.R_far (p := ⟨gb239, 3, none⟩) (Kd.R_far (p := ⟨gb239, 2, none⟩) (Kd.R_far (p := ⟨gb239, 1, none⟩) (Kd.R_far (p := ⟨gb239, 0, none⟩) (Kd.R_types HO_247003.out BK239.out (by decide)) (fun _ hk => hk.2) (.int .i64 a0_0)) (fun _ hk => hk.2) (.int .i64 a0_1)) (fun _ hk => hk.2) (.string a0_2)) (fun _ hk => hk.2) (.slice Ao12 y243.length co12)) (fun _ hk => hk.2) (.slice Ao38 x247004_1.length co38)) (fun _ hk => trivial), by (with_reducible repeat (first | apply Kd.R_alloc | apply Kd.R_drewN | apply Kd.R_drew)); exact Kd.R_mono (Kd.R_far (p := ⟨gb239, 4, none⟩) (Kd.R_far (p := ⟨gb239, 3, none⟩) (Kd.R_far (p := ⟨gb239, 2, none⟩) (Kd.R_far (p := ⟨gb239, 1, none⟩) (Kd.R_far (p := ⟨gb239, 0, none⟩) (Kd.R_mono HO_247004.out (fun k_ hk => (⟨hk, hk.2.1⟩ : _ ∧ k_ ≠ gb239))) (fun _ hk => hk.2) (.int .i64 a0_0)) (fun _ hk => hk.2) (.int .i64 a0_1)) (fun _ hk => hk.2) (.string a0_2)) (fun _ hk => hk.2) (.slice Ao12 y243.length co12)) (fun _ hk => hk.2) (.slice Ao38 x247004_1.length co38)) (fun _ hk => hk.1.1), by repeat (first | (with_reducible first | exact HB.out | apply below_alloc | apply pw_below_drewN | apply below_drew1 | refine below_set ?_ GE238.out | refine below_set ?_ GE239.out | refine below_set ?_ GE246.out) | exact HB.out)⟩
 ·rw [if_neg c2] at H
  exact absurd H (by simp)
end Go.Proofs.YtgdmdflbcbibjaaGreatDoor.PS
namespace Go.Proofs.YtgdmdflbcbibjaaGreatDoor.Tr
open Go.RowKit Go.Proofs.YtgdmdflbcbibjaaGreatDoorW.PrintWords Go.Proofs.YtgdmdflbcbibjaaGreatDoorW.PrintLast Go.Proofs.YtgdmdflbcbibjaaGreatDoor.Str Go.Proofs.YtgdmdflbcbibjaaGreatDoor.Kit Go.Proofs.YtgdmdflbcbibjaaGreatDoor.MapV Go.Proofs.YtgdmdflbcbibjaaGreatDoor.Frame Go.Proofs.YtgdmdflbcbibjaaGreatDoor.PS
set_option linter.unusedVariables false
set_option linter.unusedSimpArgs false
mutual
def fromI : VI → VS
 | ⟨k, n, t, ks, vs⟩ => ⟨k, n, t, ks, fromL vs⟩
def fromL : List VI → List VS
 | [] => []
 | v :: r => fromI v :: fromL r
end
theorem fromL_map : ∀ vs, fromL vs = vs.map fromI
 | [] => by simp [fromL]
 | v :: r => by simp [fromL, fromL_map r]
theorem fromL_length (vs : List VI) : (fromL vs).length = vs.length := by rw [fromL_map, List.length_map]
theorem etaS' (x : VS) : (⟨x.f0, x.f1, x.f2, x.f3, x.f4⟩ : VS) = x := by cases x; rfl
theorem fromI_eq (x : VI) : fromI x = ⟨x.f0, x.f1, x.f2, x.f3, fromL x.f4⟩ := by cases x; simp [fromI]
theorem fromL_drop {vs : List VI} {i : Nat} (h : i < vs.length) : (fromL vs).drop i = fromI vs[i] :: (fromL vs).drop (i + 1) := by
 rw [List.drop_eq_getElem_cons (by rw [fromL_length]; exact h)]
 simp only [fromL_map, List.getElem_map]
theorem rdI' {xs : List VI} {i : Nat} (h : i < xs.length) : rd_T31 xs (i : Int) = xs[i] := by
 unfold rd_T31
 simp [List.getD_eq_getElem?_getD, h]
theorem wrapF (i : Nat) (h : i < 4611686018427387904) : wrap64 ((i : Int) + 1) = ((i + 1 : Nat) : Int) := by unfold wrap64; omega
def tupS (x : VS) : Int × Int × BA × List BA × List VS := (x.f0, x.f1, x.f2, x.f3, x.f4)
def FromEv (x : VI) : Prop := Ev (fun k => laws_from.f k x.f0 x.f1 x.f2 x.f3 x.f4) (tupS (fromI x))
theorem ev_from_l0 (a b : Int) (c : BA) (ks : List BA) (vs : List VI) (p q : Int) (r : BA) (rk : List BA) (hvl : vs.length ≤ 1759218604400) (hch : ∀ v, v ∈ vs → FromEv v) : ∀ (d i : Nat) (acc : List VS), i + d = vs.length → acc.length = i →
  Ev (fun k => laws_from.l0 k (i : Int) a b c ks vs p q r rk acc) (p, q, r, rk, acc ++ (fromL vs).drop i) := by
 intro d
 induction d with
 | zero =>
  intro i acc hi ha
  refine Ev.step (fun k => ?_) (Ev.now _)
  simp only [laws_from.l0]
  rw [if_neg (by omega), List.drop_eq_nil_of_le (by rw [fromL_length]; omega), List.append_nil]
 | succ d ih =>
  intro i acc hi ha
  have hlt : i < vs.length := by omega
  refine Ev.step (f := fun k => (laws_from.f k vs[i].f0 vs[i].f1 vs[i].f2 vs[i].f3 vs[i].f4).bind fun bt => laws_from.l0 k ((i + 1 : Nat) : Int) a b c ks vs p q r rk (acc ++ [(⟨bt.1, bt.2.1, bt.2.2.1, bt.2.2.2.1, bt.2.2.2.2⟩ : VS)])) (fun k => ?_) ?_
  ·simp only [laws_from.l0]
   rw [if_pos (by omega), if_pos (by omega), rdI' hlt]
   refine congrArg _ (funext fun bt => ?_)
   rw [if_pos (by omega), wrapF i (by omega)]
  ·refine Ev.bind (hch vs[i] (List.getElem_mem hlt)) ?_
   have := ih (i + 1) (acc ++ [fromI vs[i]]) (by omega) (by simp [ha])
   rw [List.append_assoc, List.singleton_append, ← fromL_drop hlt] at this
   simp only [tupS, etaS']
   exact this
theorem ev_from : ∀ x : VI, Small x → FromEv x := by
 intro x hx
 induction hx with
 | mk x hk hkl hvl hv ih =>
  obtain ⟨k, n, t, ks, vs⟩ := x
  have hkl' : ks.length ≤ 8796093022000 := hkl
  have h := ev_from_l0 k n t ks vs k n t ks hvl ih vs.length 0 [] (by omega) rfl
  rw [List.drop_zero, List.nil_append] at h
  unfold FromEv
  rw [fromI_eq]
  refine Ev.step (fun j => ?_) h
  simp only [laws_from.f, Option.bind_some, List.nil_append, List.length_nil, Nat.zero_add]
  rw [if_pos (by omega)]
  rfl
end Go.Proofs.YtgdmdflbcbibjaaGreatDoor.Tr
namespace Go.Proofs.YtgdmdflbcbibjaaGreatDoor.Tr
open Go.RowKit Go.Proofs.YtgdmdflbcbibjaaGreatDoorW.PrintWords Go.Proofs.YtgdmdflbcbibjaaGreatDoorW.PrintLast Go.Proofs.YtgdmdflbcbibjaaGreatDoor.Str Go.Proofs.YtgdmdflbcbibjaaGreatDoor.Kit Go.Proofs.YtgdmdflbcbibjaaGreatDoor.MapV Go.Proofs.YtgdmdflbcbibjaaGreatDoor.Frame Go.Proofs.YtgdmdflbcbibjaaGreatDoor.PS
open Go.Proofs.YtgdmdflbcbibjaaGreatDoor.Val (place placeI placeB placeI_hit placeI_end)
set_option linter.unusedVariables false
set_option linter.unusedSimpArgs false
inductive Canon : VS → Prop
 | null : Canon (leaf 0 0 ⟨#[]⟩)
 | bool (b : Bool) : Canon (leaf 1 (if b then 1 else 0) ⟨#[]⟩)
 | int (n : Int) : Canon (leaf 2 n ⟨#[]⟩)
 | text (s : BA) : Canon (leaf 3 0 s)
 | list (l : List VS) (h : ∀ v, v ∈ l → Canon v) : Canon ⟨4, 0, ⟨#[]⟩, [], l⟩
 | map (ks : List BA) (vs : List VS) (hr : RiseK ks) (hl : ks.length = vs.length) (h : ∀ v, v ∈ vs → Canon v) : Canon ⟨5, 0, ⟨#[]⟩, ks, vs⟩
theorem canon_fit : ∀ x : VS, SmallS x → Canon (fitV x) := by
 intro x hx
 induction hx with
 | mk x ht hk hkl hvl hv ih =>
  obtain ⟨k, n, t, ks, vs⟩ := x
  have hch : ∀ v, v ∈ fitL vs → Canon v := fun v hv' => by
   rw [fitL_map] at hv'
   obtain ⟨u, hu, rfl⟩ := List.mem_map.1 hv'
   exact ih u hu
  by_cases h1 : k = 1
  ·subst h1
   by_cases hn : n = 0
   ·have := Canon.bool false
    simpa [fitV, hn] using this
   ·have := Canon.bool true
    simpa [fitV, hn] using this
  by_cases h2 : k = 2
  ·subst h2; have := Canon.int n; simpa [fitV] using this
  by_cases h3 : k = 3
  ·subst h3; have := Canon.text t; simpa [fitV] using this
  by_cases h4 : k = 4
  ·subst h4
   have := Canon.list (fitL vs) hch
   simpa [fitV] using this
  by_cases h5 : k = 5
  ·subst h5
   obtain ⟨a, b, c, d, e, f⟩ := fitW_facts ks (fitL vs) [] [] rfl List.Pairwise.nil
   have := Canon.map _ _ b a (fun v h => by
    rcases f v h with h | h
    ·cases h
    ·exact hch v h)
   simpa [fitV] using this
  ·have := Canon.null
   simpa [fitV, h1, h2, h3, h4, h5] using this
theorem zip_keys {α : Type} : ∀ (ks : List BA) (ys : List α), ks.length = ys.length → ((ks.map lb).zip ys).map (fun p => (⟨p.1.toArray⟩ : BA)) = ks
 | [], _, _ => rfl
 | k :: ks, y :: ys, h => by
  rw [List.map_cons, List.zip_cons_cons, List.map_cons, zip_keys ks ys (by simpa using h)]
 | _ :: _, [], h => by simp at h
theorem zip_vals {α β : Type} (g : α → β) : ∀ (ks : List BA) (ys : List α), ks.length = ys.length → ((ks.map lb).zip ys).map (fun p => g p.2) = ys.map g
 | [], [], _ => rfl
 | k :: ks, y :: ys, h => by
  rw [List.map_cons, List.zip_cons_cons, List.map_cons, zip_vals g ks ys (by simpa using h), List.map_cons]
 | _ :: _, [], h => by simp at h
 | [], _ :: _, h => by simp at h
theorem canon_anyOf_map {ks : List BA} {vs : List VS} (hr : RiseK ks) (n : Int) (t : BA) : anyOf (toI ⟨5, n, t, ks, vs⟩) = .map ((ks.map lb).zip (anyL (toL vs))) := by
 rw [toI_eq]
 simp only [anyOf]
 rw [if_neg (by decide), if_neg (by decide), if_neg (by decide), if_neg (by decide), if_pos trivial, fitM_id (pairs_rise hr)]
theorem canon_back {x : VS} (h : Canon x) : valOf (anyOf (toI x)) = toI x := by
 induction h with
 | null => simp [leaf, toI, toL, anyOf, valOf]
 | bool b => cases b <;> simp [leaf, toI, toL, anyOf, valOf]
 | int n => simp [leaf, toI, toL, anyOf, valOf]
 | text s => simp [leaf, toI, toL, anyOf, valOf]
 | list l h ih =>
  simp only [toI_eq, anyOf]
  rw [if_neg (by decide), if_neg (by decide), if_neg (by decide), if_pos trivial]
  simp only [valOf]
  rw [valL_map, anyL_map, toL_map, List.map_map, List.map_map]
  have e : l.map ((valOf ∘ anyOf) ∘ toI) = l.map toI := List.map_congr_left (fun v hv => ih v hv)
  rw [e]
 | map ks vs hr hl h ih =>
  have hl2 : ks.length = (anyL (toL vs)).length := by rw [anyL_length, toL_length]; exact hl
  rw [canon_anyOf_map hr, toI_eq]
  simp only [valOf]
  rw [valM_map, zip_keys ks _ hl2, zip_vals valOf ks _ hl2, anyL_map, toL_map, List.map_map, List.map_map]
  have e : vs.map ((valOf ∘ anyOf) ∘ toI) = vs.map toI := List.map_congr_left (fun v hv => ih v hv)
  rw [e]
mutual
theorem from_to : ∀ x : VS, fromI (toI x) = x
 | ⟨k, n, t, ks, vs⟩ => by rw [toI, fromI, from_toL vs]
theorem from_toL : ∀ l : List VS, fromL (toL l) = l
 | [] => by simp [toL, fromL]
 | v :: r => by rw [toL, fromL, from_to v, from_toL r]
end
end Go.Proofs.YtgdmdflbcbibjaaGreatDoor.Tr
