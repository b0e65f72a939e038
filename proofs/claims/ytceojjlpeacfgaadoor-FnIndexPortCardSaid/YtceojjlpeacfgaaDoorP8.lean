/- Parts of the proof, laid together: QLawsTo, MapStep, FitPlain, Any, ToMap, ToAny, PureFit, PortTell, PortWithout, PortL, PortPorts, PortPart, PureTo, Shelf, At, PortPlain, PortImpl. -/
import Derived.Test.YtceojjlpeacfgaaDoorP3
import Derived.Test.YtceojjlpeacfgaaDoorP1
import Derived.Laws.IdiomCopy
import Derived.Test.YtceojjlpeacfgaaDoorP4
import Derived.Test.YtceojjlpeacfgaaDoorP7
import Derived.Test.YtceojjlpeacfgaaDoorP6
import Derived.Test.YtceojjlpeacfgaaDoorP5
import Derived.Shelf.Strings.Builder1
import Derived.Shelf.Strings.Builder2
import Derived.Shelf.Strings.OnBuilder
import Derived.Shelf.Small.Wraps
import Derived.Shelf.Strings.BuilderF
import Derived.Shelf.Strings.BuilderK
import Derived.Shelf.Strconv.Itoa0
import Derived.Shelf.Strconv.Itoa1
import Derived.Shelf.LaysM
import Derived.Shelf.Strconv.Itoa2
import Derived.Shelf.Strconv.Itoa3
import Derived.Test.YtceojjlpeacfgaaDoorProg
import Derived.Lib.ItoaNum
import Derived.Test.YtceojjlpeacfgaaDoorP2
import Derived.Lib.AppendIntMem
import Derived.Lib.LaidTab
set_option linter.unusedVariables false
set_option linter.unusedSimpArgs false
namespace Go.Proofs.YtceojjlpeacfgaaDoor.PS
open Go.RowKit Go.Proofs.YtceojjlpeacfgaaDoorW.PrintWords Go.Proofs.YtceojjlpeacfgaaDoorW.PrintLast Go.Proofs.YtceojjlpeacfgaaDoorW.PrintMore
attribute [local go_sem] xf xd xj xi yw yu xe xc 
mutual
def laws_to.l0 : Nat → Int → Int → Int → ByteArray → List ByteArray → List (S25) → Int → Int → ByteArray → List ByteArray → List (S32) → Option (Int × Int × ByteArray × List ByteArray × (List (S32)))
 | 0, _, _, _, _, _, _, _, _, _, _, _ => none
 | k + 1, x4, x347000, x347001, x347002, x347003, x347004, x355000, x355001, x355002, x355003, x355004 => if x4 < (x347004.length : Int) then (if 0 ≤ x4 then ((laws_to.f k ((rd_T25 x347004 x4).f0) ((rd_T25 x347004 x4).f1) ((rd_T25 x347004 x4).f2) ((rd_T25 x347004 x4).f3) ((rd_T25 x347004 x4).f4)).bind fun bt356 => (if x355004.length < 1759218604441 then (laws_to.l0 k (wrap64 (x4 + 1)) x347000 x347001 x347002 x347003 x347004 x355000 x355001 x355002 x355003 (x355004 ++ [(⟨bt356.1, bt356.2.1, bt356.2.2.1, bt356.2.2.2.1, bt356.2.2.2.2⟩ : S32)])) else (none))) else (none)) else (some (x355000, x355001, x355002, x355003, x355004))
def laws_to.f : Nat → Int → Int → ByteArray → List ByteArray → List (S25) → Option (Int × Int × ByteArray × List ByteArray × (List (S32)))
 | 0, _, _, _, _, _ => none
 | k + 1, a0_0, a0_1, a0_2, l0_3, l0_4 => (some (([] : List ByteArray) : List ByteArray)).bind fun y348 => (if y348.length + l0_3.length < 8796093022208 then (laws_to.l0 k 0 a0_0 a0_1 a0_2 l0_3 l0_4 a0_0 a0_1 a0_2 (y348 ++ l0_3) ([] : List (S32))) else (none))
end
def laws_to.T1 : Bool × List (List Nat × List Nat) := (true, [([], []), ([0], [0]), ([], []), ([2], [2]), ([], []), ([4], [4]), ([], []), ([], []), ([7], [7]), ([6, 8], [6, 8]), ([1, 3, 5, 9], [1, 3, 5, 9]), ([], []), ([11, 10, 9, 0, 1, 2, 3, 4, 5, 6, 7, 8, 9, 10, 11], [10, 11])])
def laws_to.B1 : List Nat := [0, 1, 0, 4, 0, 16, 0, 0, 128, 448, 1023, 0, 4095]
theorem laws_to.tab1 : rtab .any (opsOf Tryd.f8 1) = laws_to.T1 := by kernel_rfl
theorem laws_to.bits1 : waitsOk laws_to.T1.2 laws_to.B1 = true := by kernel_rfl
def laws_to.T5 : Bool × List (List Nat × List Nat) := (true, [([], []), ([0], [0]), ([], []), ([2], [2]), ([], []), ([3, 4], [3, 4]), ([5], [5]), ([6], [6]), ([7], [7]), ([1, 8, 7], [1, 8]), ([0, 1, 2, 3, 4, 5, 6, 7, 8, 9], []), ([10, 9, 9, 0, 1, 2, 3, 4, 5, 6, 7, 8, 9], [9, 10])])
def laws_to.B5 : List Nat := [0, 1, 0, 4, 0, 28, 60, 124, 252, 511, 1023, 2047]
theorem laws_to.tab5 : rtab .any (opsOf Tryd.f8 5) = laws_to.T5 := by kernel_rfl
theorem laws_to.bits5 : waitsOk laws_to.T5.2 laws_to.B5 = true := by kernel_rfl
set_option maxHeartbeats 8000000 in
set_option maxRecDepth 100000 in
theorem laws_to.calls (k : Nat) : ∀ (a0_0 : Int) (a0_1 : Int) (a0_2 : ByteArray) (A0_3 : Option Addr) (c0_3 : Nat) (l0_3 : List ByteArray) (A0_4 : Option Addr) (c0_4 : Nat) (l0_4 : List (S25)) (r1 : Int) (r2 : Int) (r3 : ByteArray) (r4 : List ByteArray) (r5 : List (S32)) (w : World) (hr0_3 : Kd.C Kd.string w A0_3 l0_3.length l0_3) (hc0_3 : l0_3.length ≤ c0_3) (hr0_4 : Kd.C k25 w A0_4 l0_4.length l0_4) (hc0_4 : l0_4.length ≤ c0_4) (h : laws_to.f k a0_0 a0_1 a0_2 l0_3 l0_4 = some (r1, r2, r3, r4, r5)),
  Calls Tryd.prog 8 #[.agg #[.int .i64 a0_0, .int .i64 a0_1, .string a0_2, .slice A0_3 l0_3.length c0_3, .slice A0_4 l0_4.length c0_4]] w fun e w' => ∃ v3_ v4_ : Value, e = .returned (.agg #[.int .i64 r1, .int .i64 r2, .string r3, v3_, v4_]) ∧ Kd.R Kd.string 9 w' w.heap.size (fun _ => True) v3_ r4 ∧ Kd.R k32 32 w' w.heap.size (fun k_ => some k_ ≠ (v3_ : Value).ownBlock) v4_ r5 ∧ Below w.heap.size w w' := by
 induction k using Nat.strongRecOn with
 | _ k ih =>
 intro a0_0 a0_1 a0_2 A0_3 c0_3 l0_3 A0_4 c0_4 l0_4 r1 r2 r3 r4 r5 w hr0_3 hc0_3 hr0_4 hc0_4 h
 cases k with
 | zero => exact absurd h (by simp [laws_to.f])
 | succ k =>
 simp only [laws_to.f] at h; have hu25 := Tryd.underlying25; have hu32 := Tryd.underlying32; have HR0_3 := aM hr0_3; have HC0_3 := aM hc0_3; clear hr0_3 hc0_3; have HR0_4 := aM hr0_4; have HC0_4 := aM hc0_4; clear hr0_4 hc0_4; have HB := aM (Below.refl w.heap.size w); have H : ((some (([] : List ByteArray) : List ByteArray)).bind fun y348 => (if y348.length + l0_3.length < 8796093022208 then (laws_to.l0 k 0 a0_0 a0_1 a0_2 l0_3 l0_4 a0_0 a0_1 a0_2 (y348 ++ l0_3) ([] : List (S32))) else (none))) = some (r1, r2, r3, r4, r5) := h; clear h
 obtain ⟨y348, hy348⟩ : ∃ y_ : List ByteArray, y_ = (([] : List ByteArray)) := ⟨_, rfl⟩
 replace H : (if y348.length + l0_3.length < 8796093022208 then (laws_to.l0 k 0 a0_0 a0_1 a0_2 l0_3 l0_4 a0_0 a0_1 a0_2 (y348 ++ l0_3) ([] : List (S32))) else (none)) = some (r1, r2, r3, r4, r5) := by first | (rw [hy348]; with_reducible exact H) | (have H2_ := (Option.bind_some _ _).symm.trans H; rw [hy348]; with_reducible exact H2_) | (have H2_ := (Option.bind_some _ _).symm.trans H; with_reducible exact H2_) | with_reducible exact H | (rw [hy348]; exact H) | exact H
 have Ny348 := aM hy348; clear hy348
 by_cases c2 : y348.length + l0_3.length < 8796093022208
 ·rw [if_pos c2] at H; have LMc2 := aM c2; clear c2
  obtain ⟨y351, hy351⟩ : ∃ y_ : List ByteArray, y_ = (y348 ++ l0_3) := ⟨_, rfl⟩
  replace H : (laws_to.l0 k 0 a0_0 a0_1 a0_2 l0_3 l0_4 a0_0 a0_1 a0_2 y351 ([] : List (S32))) = some (r1, r2, r3, r4, r5) := by first | (rw [hy351]; with_reducible exact H) | (have H2_ := (Option.bind_some _ _).symm.trans H; rw [hy351]; with_reducible exact H2_) | (have H2_ := (Option.bind_some _ _).symm.trans H; with_reducible exact H2_) | with_reducible exact H | (rw [hy351]; exact H) | exact H
  have Ny351 := aM hy351; clear hy351; have H' := aM H; clear H
  go_enter Tryd.func8, Tryd.ntmps8
  try go_wp2_with (first | ((with_reducible refine ya (N := 1) rfl ?_); refine zw ?hg (N := 1) ?hd (cs := #[.int .i64 a0_0, .int .i64 a0_1, .string a0_2, .slice A0_3 l0_3.length c0_3, .slice A0_4 l0_4.length c0_4]) (t := 25) ?hr ?_; (case hd => rfl); (case hg => rfl); (case hr => first | (go_simp; done) | (go_simp; rfl)); intro gb346 hg w3 hbox hb; have n0_ := aM (zo (by repeat (first | (with_reducible first | exact HB.out | apply zf | apply zc | apply zj) | exact HB.out)) hb); have n1_ := aM (hbox); have n2_ := aM ((by rw [hg]; exact (zm (by repeat (first | (with_reducible first | exact HB.out | apply zf | apply zc | apply zj) | exact HB.out))) : w.heap.size ≤ gb346)); have n3_ := aM ((by rw [hg]; exact (zm (by repeat (first | (with_reducible first | exact HB.out | apply zf | apply zc | apply zj) | exact HB.out))) : w.heap.size ≤ gb346)); clear HB; have HB := n0_; have BK346 := n1_; have GW346 := n2_; have GE346 := n3_; clear n0_ n1_ n2_ n3_; clear hb hbox hg) | ((with_reducible refine ya (N := 2) rfl ?_); refine zw ?hg (N := 2) ?hd (cs := #[.int .i64 0, .int .i64 0, .string (⟨#[]⟩ : ByteArray), .slice none 0 0, .slice none 0 0]) (t := 32) ?hr ?_; (case hd => rfl); (case hg => rfl); (case hr => first | (go_simp; done) | (go_simp; rfl)); intro gb347 hg w4 hbox hb; have n0_ := aM (zq (g := gb346) (o := .cells #[.int .i64 a0_0, .int .i64 a0_1, .string a0_2, .slice A0_3 l0_3.length c0_3, .slice A0_4 l0_4.length c0_4] 25 (0, 0)) (by (with_reducible repeat (first | refine zg ?_ _ | refine zh ?_ | refine ze ?_ _)); exact BK346.out) hb); have n1_ := aM (zo (by repeat (first | (with_reducible first | exact HB.out | apply zf | apply zc | apply zj | refine zi ?_ GE346.out) | exact HB.out)) hb); have n2_ := aM (hbox); have n3_ := aM ((by rw [hg]; exact (zm (by repeat (first | (with_reducible first | exact HB.out | apply zf | apply zc | apply zj | refine zi ?_ GE346.out) | exact HB.out))) : w.heap.size ≤ gb347)); have n4_ := aM ((by rw [hg]; exact (zm (by repeat (first | (with_reducible first | exact HB.out | apply zf | apply zc | apply zj | refine zi ?_ GE346.out) | exact HB.out))) : w.heap.size ≤ gb347)); have n5_ := aM ((by rw [hg]; exact Nat.ne_of_lt (ye (g := gb346) (o := .cells #[.int .i64 a0_0, .int .i64 a0_1, .string a0_2, .slice A0_3 l0_3.length c0_3, .slice A0_4 l0_4.length c0_4] 25 (0, 0)) (by (with_reducible repeat (first | refine zg ?_ _ | refine zh ?_ | refine ze ?_ _)); exact BK346.out)) : gb346 ≠ gb347)); have n6_ := aM ((by rw [hg]; exact Nat.ne_of_gt (ye (g := gb346) (o := .cells #[.int .i64 a0_0, .int .i64 a0_1, .string a0_2, .slice A0_3 l0_3.length c0_3, .slice A0_4 l0_4.length c0_4] 25 (0, 0)) (by (with_reducible repeat (first | refine zg ?_ _ | refine zh ?_ | refine ze ?_ _)); exact BK346.out)) : gb347 ≠ gb346)); clear BK346; clear HB; have BK346 := n0_; have HB := n1_; have BK347 := n2_; have GW347 := n3_; have GE347 := n4_; have NB346_347 := n5_; have NB347_346 := n6_; clear n0_ n1_ n2_ n3_ n4_ n5_ n6_; clear hb hbox hg))
  have n0_ := aM (zh BK346.out); have n1_ := aM (zh BK347.out); have n2_ := aM (zj HB.out); clear BK346 BK347 HB; have BK346 := n0_; have BK347 := n1_; have HB := n2_; clear n0_ n1_ n2_; refine xl (n := 13) (S := fun w' => w'.cell? ⟨gb346, 0, none⟩ = some (.int .i64 a0_0) ∧ w'.cell? ⟨gb346, 1, none⟩ = some (.int .i64 a0_1) ∧ w'.cell? ⟨gb346, 2, none⟩ = some (.string a0_2) ∧ w'.cell? ⟨gb346, 3, none⟩ = some (.slice A0_3 l0_3.length c0_3) ∧ w'.cell? ⟨gb346, 4, none⟩ = some (.slice A0_4 l0_4.length c0_4)) (ds := []) (bZ 13 0) (by kernel_rfl) rfl rfl ⟨(za BK346.out 0).trans rfl, (za BK346.out 1).trans rfl, (za BK346.out 2).trans rfl, (za BK346.out 3).trans rfl, (za BK346.out 4).trans rfl⟩ (fun hHeld => ?_); refine xq laws_to.tab1 laws_to.bits1 (fun HT_ HW_ => ?_); generalize w4.drew = w5 at BK346 BK347 HB hHeld ⊢; refine pU 0 (some 5) (bZ 13 1) rfl (yj HT_.out (by kernel_rfl)) ?_; refine pU 2 (some 7) (bZ 13 5) rfl (yj HT_.out (by kernel_rfl)) ?_; refine pU 4 (some 9) (bZ 13 21) rfl (yj HT_.out (by kernel_rfl)) ?_; refine pU 7 (some 12) (bZ 13 149) rfl (yj HT_.out (by kernel_rfl)) ?_; refine tU 1 (some 6) (bZ 13 151) rfl (yn HT_.out HW_.out (by kernel_rfl)) (Or.inl ⟨by rfl, by rintro w' ⟨s0, s1, s2, s3, s4⟩; go_simp; with_reducible rfl⟩) hHeld ?_; refine tU 3 (some 8) (bZ 13 159) rfl (yn HT_.out HW_.out (by kernel_rfl)) (Or.inl ⟨by rfl, by rintro w' ⟨s0, s1, s2, s3, s4⟩; go_simp; with_reducible rfl⟩) hHeld ?_; refine tU 5 (some 10) (bZ 13 191) rfl (yn HT_.out HW_.out (by kernel_rfl)) (Or.inl ⟨by rfl, by rintro w' ⟨s0, s1, s2, s3, s4⟩; go_simp; with_reducible rfl⟩) hHeld ?_; refine tU 8 (some 13) (bZ 13 447) rfl (yn HT_.out HW_.out (by kernel_rfl)) (Or.inl ⟨by rfl, by rintro w' ⟨s0, s1, s2, s3, s4⟩; go_simp; with_reducible rfl⟩) hHeld ?_; refine join_ (σ := Value × Value × Nat) 1 (bZ 13 4095) (fun s_ => [(11, s_.1), (14, s_.2.1), (3, .pointer (some ⟨s_.2.2, 0, none⟩)), (15, .agg #[.int .i64 a0_0, .int .i64 a0_1, .string a0_2, s_.2.1, .slice none 0 0])]) (fun s_ w' => (w'.cell? ⟨gb346, 0, none⟩ = some (.int .i64 a0_0) ∧ w'.cell? ⟨gb346, 1, none⟩ = some (.int .i64 a0_1) ∧ w'.cell? ⟨gb346, 2, none⟩ = some (.string a0_2) ∧ w'.cell? ⟨gb346, 3, none⟩ = some (.slice A0_3 l0_3.length c0_3) ∧ w'.cell? ⟨gb346, 4, none⟩ = some (.slice A0_4 l0_4.length c0_4)) ∧ (Kd.R Kd.string 9 w' w.heap.size (fun _ => True) s_.2.1 y351) ∧ (w'.heap[gb346]? = some (.cells #[.int .i64 a0_0, .int .i64 a0_1, .string a0_2, .slice A0_3 l0_3.length c0_3, .slice A0_4 l0_4.length c0_4] 25 (0, 0))) ∧ (w'.heap[gb347]? = some (.cells #[.int .i64 0, .int .i64 0, .string (⟨#[]⟩ : ByteArray), .slice none 0 0, .slice none 0 0] 32 (0, 0))) ∧ (w'.heap[s_.2.2]? = some (.cells #[.int .i64 0, .int .i64 0, .string (⟨#[]⟩ : ByteArray), .slice none 0 0, .slice none 0 0] 32 (0, 0))) ∧ (w.heap.size ≤ s_.2.2) ∧ (w.heap.size ≤ s_.2.2) ∧ (gb346 ≠ s_.2.2) ∧ (s_.2.2 ≠ gb346) ∧ (gb347 ≠ s_.2.2) ∧ (s_.2.2 ≠ gb347) ∧ (Below w.heap.size w w')) ?_ ?_; rotate_left
  ·intro hCont; refine two_ (i := 6) (j := 11) (Ni := some 11) (Nj := some 3) (bZ 13 511) (bZ 13 2495) rfl rfl rfl rfl (two_of HT_.out (by kernel_rfl)) (by decide) (by decide) (fun K hK => ?_) (fun K hK => ?_)
   ·skip
    refine Kd.R_lit_step Kd.string _ 9 ?hg (N := 11) ?hd (xs := ([] : List ByteArray)) (inner := []) (ok := fun _ => True) (okp := fun _ => True) ?hr ?hp (fun _ hk => hk) trivial (Below.refl _ _) (Nat.le_refl _) (by simp) ?_; (case hd => rfl); (case hg => rfl); (case hr => first | (go_simp; done) | (go_simp; rfl)); (case hp => exact (Reps.none _ _)); intro v349 w6 ho7 hb hg_ hnew_; clear hg_ hnew_
    (first | rw [← Ny348.out] at ho7 | (simp only [Int.reduceToNat] at ho7; rw [← Ny348.out] at ho7))
    have n0_ := aM (Kd.R_lower ho7 (zm (by repeat (first | (with_reducible first | exact HB.out | apply zf | apply zc | apply zj | refine zi ?_ GE346.out | refine zi ?_ GE347.out) | exact HB.out)))); have n1_ := aM (zq (g := gb346) (o := .cells #[.int .i64 a0_0, .int .i64 a0_1, .string a0_2, .slice A0_3 l0_3.length c0_3, .slice A0_4 l0_4.length c0_4] 25 (0, 0)) (by (with_reducible repeat (first | refine zg ?_ _ | refine zh ?_ | refine ze ?_ _)); exact BK346.out) hb); have n2_ := aM (zq (g := gb347) (o := .cells #[.int .i64 0, .int .i64 0, .string (⟨#[]⟩ : ByteArray), .slice none 0 0, .slice none 0 0] 32 (0, 0)) (by (with_reducible repeat (first | refine zg ?_ _ | refine zh ?_ | refine ze ?_ _)); exact BK347.out) hb); have n3_ := aM (zo (by repeat (first | (with_reducible first | exact HB.out | apply zf | apply zc | apply zj | refine zi ?_ GE346.out | refine zi ?_ GE347.out) | exact HB.out)) hb); clear BK346 BK347 HB; have HO350 := n0_; have BK346 := n1_; have BK347 := n2_; have HB := n3_; clear n0_ n1_ n2_ n3_ hb ho7; refine hK.out _ _ ⟨(za BK346.out 0).trans rfl, (za BK346.out 1).trans rfl, (za BK346.out 2).trans rfl, (za BK346.out 3).trans rfl, (za BK346.out 4).trans rfl⟩ (fun hHeld => ?_); clear hK K; refine zx (a' := ?_) ?_ ?_; rotate_left
    ·show Act.put _ (some 11) _ = _
     simp only [Act.put, sA, sB, sC, yb, yc]; rfl
    refine two_ (i := 9) (j := 11) (Ni := some 14) (Nj := some 3) (bZ 13 1023) (bZ 13 2559) rfl rfl rfl rfl (two_of HT_.out (by kernel_rfl)) (by decide) (by decide) (fun K hK => ?_) (fun K hK => ?_)
    ·skip
     refine Kd.R_append_rows_step Kd.string (w0 := w) w.heap.size (by rfl) (.tmp 11) (.tmp 13) 22 9 (.string ⟨#[]⟩) 16 rfl Tryd.underlying22 info9 rfl (by decide) (by omega) v349 y348 l0_3 _ _ _ (fun _ => True) (fun _ => False) rfl rfl ?aO ?aR (fun _ _ h => h) (fun _ h => h.elim) ?aF ?aB ?aS ?aL ?_
     (case aR => repeat (first | exact (Kd.C_below HR0_3.out HB.out) | (with_reducible refine Kd.C_alloc ?_ _) | (with_reducible refine Kd.C_drewN ?_ _) | (with_reducible refine Kd.C_drew ?_)))
     (case aB => exact (by repeat (first | (with_reducible first | exact HB.out | apply zf | apply zc | apply zj | refine zi ?_ GE346.out | refine zi ?_ GE347.out) | exact HB.out)))
     (case aF => exact (fun _ _ => trivial))
     (case aO => exact (by (with_reducible repeat (first | apply Kd.R_alloc | apply Kd.R_drewN | apply Kd.R_drew)); exact HO350.out))
     (case aS => exact (zm (by repeat (first | (with_reducible first | exact HB.out | apply zf | apply zc | apply zj | refine zi ?_ GE346.out | refine zi ?_ GE347.out) | exact HB.out))))
     (case aL => have := LMc2.out; omega)
     intro v352 w8 ho hb hg hat; rw [← Ny351.out] at ho; have n0_ := aM (ym (g := gb346) (o := .cells #[.int .i64 a0_0, .int .i64 a0_1, .string a0_2, .slice A0_3 l0_3.length c0_3, .slice A0_4 l0_4.length c0_4] 25 (0, 0)) (by (with_reducible repeat (first | refine zg ?_ _ | refine zh ?_ | refine ze ?_ _)); exact BK346.out) hg (Kd.R_ne HO350.out BK346.out (by decide))); have n1_ := aM (ym (g := gb347) (o := .cells #[.int .i64 0, .int .i64 0, .string (⟨#[]⟩ : ByteArray), .slice none 0 0, .slice none 0 0] 32 (0, 0)) (by (with_reducible repeat (first | refine zg ?_ _ | refine zh ?_ | refine ze ?_ _)); exact BK347.out) hg (Kd.R_ne HO350.out BK347.out (by decide))); have n2_ := aM (hb); have n3_ := aM (ho); clear BK346 BK347 HB HO350; have BK346 := n0_; have BK347 := n1_; have HB := n2_; have HO353 := n3_; clear n0_ n1_ n2_ n3_ ho hb hg hat; obtain ⟨Ao9, co9, eo9⟩ := Kd.R_slice HO353.out
     (first | subst eo9 | (injection eo9 with f1_ f2_ f3_; have f4_ := f1_.symm; have f5_ := f3_.symm; clear f1_ f2_ f3_; subst f4_; subst f5_))
     refine hK.out _ _ ⟨(za BK346.out 0).trans rfl, (za BK346.out 1).trans rfl, (za BK346.out 2).trans rfl, (za BK346.out 3).trans rfl, (za BK346.out 4).trans rfl⟩ (fun hHeld => ?_); clear hK K; refine zx (a' := ?_) ?_ ?_; rotate_left
     ·show Act.put _ (some 14) _ = _
      simp only [Act.put, sA, sB, sC, yb, yc]; rfl
     refine pU 10 (some 15) (bZ 13 2047) rfl (yj HT_.out (by kernel_rfl)) ?_; refine one_ (i := 11) (N := some 3) (bZ 13 4095) rfl rfl (xa HT_.out (by kernel_rfl)) (by decide) (fun K hK => ?_); refine box_step ?hg (N := 3) ?hd (cs := #[.int .i64 0, .int .i64 0, .string (⟨#[]⟩ : ByteArray), .slice none 0 0, .slice none 0 0]) (t := 32) ?hr ?_; (case hd => rfl); (case hg => rfl); (case hr => first | (go_simp; done) | (go_simp; rfl)); intro gb354 hg w10 hbox hb; have n0_ := aM (Kd.R_below (by (with_reducible repeat (first | apply Kd.R_alloc | apply Kd.R_drewN | apply Kd.R_drew)); exact HO353.out) hb); have n1_ := aM (zq (g := gb346) (o := .cells #[.int .i64 a0_0, .int .i64 a0_1, .string a0_2, .slice A0_3 l0_3.length c0_3, .slice A0_4 l0_4.length c0_4] 25 (0, 0)) (by (with_reducible repeat (first | refine zg ?_ _ | refine zh ?_ | refine ze ?_ _)); exact BK346.out) hb); have n2_ := aM (zq (g := gb347) (o := .cells #[.int .i64 0, .int .i64 0, .string (⟨#[]⟩ : ByteArray), .slice none 0 0, .slice none 0 0] 32 (0, 0)) (by (with_reducible repeat (first | refine zg ?_ _ | refine zh ?_ | refine ze ?_ _)); exact BK347.out) hb); have n3_ := aM (zo (by repeat (first | (with_reducible first | exact HB.out | apply zf | apply zc | apply zj | refine zi ?_ GE346.out | refine zi ?_ GE347.out) | exact HB.out)) hb); have n4_ := aM (hbox); have n5_ := aM ((by rw [hg]; exact (zm (by repeat (first | (with_reducible first | exact HB.out | apply zf | apply zc | apply zj | refine zi ?_ GE346.out | refine zi ?_ GE347.out) | exact HB.out))) : w.heap.size ≤ gb354)); have n6_ := aM ((by rw [hg]; exact (zm (by repeat (first | (with_reducible first | exact HB.out | apply zf | apply zc | apply zj | refine zi ?_ GE346.out | refine zi ?_ GE347.out) | exact HB.out))) : w.heap.size ≤ gb354)); have n7_ := aM ((by rw [hg]; exact Nat.ne_of_lt (ye (g := gb346) (o := .cells #[.int .i64 a0_0, .int .i64 a0_1, .string a0_2, .slice A0_3 l0_3.length c0_3, .slice A0_4 l0_4.length c0_4] 25 (0, 0)) (by (with_reducible repeat (first | refine zg ?_ _ | refine zh ?_ | refine ze ?_ _)); exact BK346.out)) : gb346 ≠ gb354)); have n8_ := aM ((by rw [hg]; exact Nat.ne_of_gt (ye (g := gb346) (o := .cells #[.int .i64 a0_0, .int .i64 a0_1, .string a0_2, .slice A0_3 l0_3.length c0_3, .slice A0_4 l0_4.length c0_4] 25 (0, 0)) (by (with_reducible repeat (first | refine zg ?_ _ | refine zh ?_ | refine ze ?_ _)); exact BK346.out)) : gb354 ≠ gb346)); have n9_ := aM ((by rw [hg]; exact Nat.ne_of_lt (ye (g := gb347) (o := .cells #[.int .i64 0, .int .i64 0, .string (⟨#[]⟩ : ByteArray), .slice none 0 0, .slice none 0 0] 32 (0, 0)) (by (with_reducible repeat (first | refine zg ?_ _ | refine zh ?_ | refine ze ?_ _)); exact BK347.out)) : gb347 ≠ gb354)); have n10_ := aM ((by rw [hg]; exact Nat.ne_of_gt (ye (g := gb347) (o := .cells #[.int .i64 0, .int .i64 0, .string (⟨#[]⟩ : ByteArray), .slice none 0 0, .slice none 0 0] 32 (0, 0)) (by (with_reducible repeat (first | refine zg ?_ _ | refine zh ?_ | refine ze ?_ _)); exact BK347.out)) : gb354 ≠ gb347)); clear HO353 BK346 BK347 HB; have HO353 := n0_; have BK346 := n1_; have BK347 := n2_; have HB := n3_; have BK354 := n4_; have GW354 := n5_; have GE354 := n6_; have NB346_354 := n7_; have NB354_346 := n8_; have NB347_354 := n9_; have NB354_347 := n10_; clear n0_ n1_ n2_ n3_ n4_ n5_ n6_ n7_ n8_ n9_ n10_ hb hbox hg; refine hK.out _ _ ⟨(za BK346.out 0).trans rfl, (za BK346.out 1).trans rfl, (za BK346.out 2).trans rfl, (za BK346.out 3).trans rfl, (za BK346.out 4).trans rfl⟩ (fun hHeld => ?_); clear hK K; refine zx (a' := ?_) ?_ ?_; rotate_left
     ·show Act.put _ (some 3) _ = _
      simp only [Act.put, sA, sB, sC, yb, yc]; rfl
     exact zx (by simp only [putAll, Act.put, sA, sB, sC]) (hCont (v349, .slice Ao9 y351.length co9, gb354) _ ⟨hHeld, (by (with_reducible repeat (first | apply Kd.R_alloc | apply Kd.R_drewN | apply Kd.R_drew)); exact HO353.out), (by (with_reducible repeat (first | refine zg ?_ _ | refine zh ?_ | refine ze ?_ _)); exact BK346.out), (by (with_reducible repeat (first | refine zg ?_ _ | refine zh ?_ | refine ze ?_ _)); exact BK347.out), (by (with_reducible repeat (first | refine zg ?_ _ | refine zh ?_ | refine ze ?_ _)); exact BK354.out), GW354.out, GE354.out, NB346_354.out, NB354_346.out, NB347_354.out, NB354_347.out, (by repeat (first | (with_reducible first | exact HB.out | apply zf | apply zc | apply zj | refine zi ?_ GE346.out | refine zi ?_ GE347.out | refine zi ?_ GE354.out) | exact HB.out))⟩)
    ·skip
     refine box_step ?hg (N := 3) ?hd (cs := #[.int .i64 0, .int .i64 0, .string (⟨#[]⟩ : ByteArray), .slice none 0 0, .slice none 0 0]) (t := 32) ?hr ?_; (case hd => rfl); (case hg => rfl); (case hr => first | (go_simp; done) | (go_simp; rfl)); intro gb354 hg w8 hbox hb; have n0_ := aM (Kd.R_below (by (with_reducible repeat (first | apply Kd.R_alloc | apply Kd.R_drewN | apply Kd.R_drew)); exact HO350.out) hb); have n1_ := aM (zq (g := gb346) (o := .cells #[.int .i64 a0_0, .int .i64 a0_1, .string a0_2, .slice A0_3 l0_3.length c0_3, .slice A0_4 l0_4.length c0_4] 25 (0, 0)) (by (with_reducible repeat (first | refine zg ?_ _ | refine zh ?_ | refine ze ?_ _)); exact BK346.out) hb); have n2_ := aM (zq (g := gb347) (o := .cells #[.int .i64 0, .int .i64 0, .string (⟨#[]⟩ : ByteArray), .slice none 0 0, .slice none 0 0] 32 (0, 0)) (by (with_reducible repeat (first | refine zg ?_ _ | refine zh ?_ | refine ze ?_ _)); exact BK347.out) hb); have n3_ := aM (zo (by repeat (first | (with_reducible first | exact HB.out | apply zf | apply zc | apply zj | refine zi ?_ GE346.out | refine zi ?_ GE347.out) | exact HB.out)) hb); have n4_ := aM (hbox); have n5_ := aM ((by rw [hg]; exact (zm (by repeat (first | (with_reducible first | exact HB.out | apply zf | apply zc | apply zj | refine zi ?_ GE346.out | refine zi ?_ GE347.out) | exact HB.out))) : w.heap.size ≤ gb354)); have n6_ := aM ((by rw [hg]; exact (zm (by repeat (first | (with_reducible first | exact HB.out | apply zf | apply zc | apply zj | refine zi ?_ GE346.out | refine zi ?_ GE347.out) | exact HB.out))) : w.heap.size ≤ gb354)); have n7_ := aM ((by rw [hg]; exact Nat.ne_of_lt (ye (g := gb346) (o := .cells #[.int .i64 a0_0, .int .i64 a0_1, .string a0_2, .slice A0_3 l0_3.length c0_3, .slice A0_4 l0_4.length c0_4] 25 (0, 0)) (by (with_reducible repeat (first | refine zg ?_ _ | refine zh ?_ | refine ze ?_ _)); exact BK346.out)) : gb346 ≠ gb354)); have n8_ := aM ((by rw [hg]; exact Nat.ne_of_gt (ye (g := gb346) (o := .cells #[.int .i64 a0_0, .int .i64 a0_1, .string a0_2, .slice A0_3 l0_3.length c0_3, .slice A0_4 l0_4.length c0_4] 25 (0, 0)) (by (with_reducible repeat (first | refine zg ?_ _ | refine zh ?_ | refine ze ?_ _)); exact BK346.out)) : gb354 ≠ gb346)); have n9_ := aM ((by rw [hg]; exact Nat.ne_of_lt (ye (g := gb347) (o := .cells #[.int .i64 0, .int .i64 0, .string (⟨#[]⟩ : ByteArray), .slice none 0 0, .slice none 0 0] 32 (0, 0)) (by (with_reducible repeat (first | refine zg ?_ _ | refine zh ?_ | refine ze ?_ _)); exact BK347.out)) : gb347 ≠ gb354)); have n10_ := aM ((by rw [hg]; exact Nat.ne_of_gt (ye (g := gb347) (o := .cells #[.int .i64 0, .int .i64 0, .string (⟨#[]⟩ : ByteArray), .slice none 0 0, .slice none 0 0] 32 (0, 0)) (by (with_reducible repeat (first | refine zg ?_ _ | refine zh ?_ | refine ze ?_ _)); exact BK347.out)) : gb354 ≠ gb347)); clear HO350 BK346 BK347 HB; have HO350 := n0_; have BK346 := n1_; have BK347 := n2_; have HB := n3_; have BK354 := n4_; have GW354 := n5_; have GE354 := n6_; have NB346_354 := n7_; have NB354_346 := n8_; have NB347_354 := n9_; have NB354_347 := n10_; clear n0_ n1_ n2_ n3_ n4_ n5_ n6_ n7_ n8_ n9_ n10_ hb hbox hg; refine hK.out _ _ ⟨(za BK346.out 0).trans rfl, (za BK346.out 1).trans rfl, (za BK346.out 2).trans rfl, (za BK346.out 3).trans rfl, (za BK346.out 4).trans rfl⟩ (fun hHeld => ?_); clear hK K; refine zx (a' := ?_) ?_ ?_; rotate_left
     ·show Act.put _ (some 3) _ = _
      simp only [Act.put, sA, sB, sC, yb, yc]; rfl
     refine one_ (i := 9) (N := some 14) (bZ 13 3071) rfl rfl (xa HT_.out (by kernel_rfl)) (by decide) (fun K hK => ?_); refine Kd.R_append_rows_step Kd.string (w0 := w) w.heap.size (by rfl) (.tmp 11) (.tmp 13) 22 9 (.string ⟨#[]⟩) 16 rfl Tryd.underlying22 info9 rfl (by decide) (by omega) v349 y348 l0_3 _ _ _ (fun _ => True) (fun _ => False) rfl rfl ?aO ?aR (fun _ _ h => h) (fun _ h => h.elim) ?aF ?aB ?aS ?aL ?_
     (case aR => repeat (first | exact (Kd.C_below HR0_3.out HB.out) | (with_reducible refine Kd.C_alloc ?_ _) | (with_reducible refine Kd.C_drewN ?_ _) | (with_reducible refine Kd.C_drew ?_)))
     (case aB => exact (by repeat (first | (with_reducible first | exact HB.out | apply zf | apply zc | apply zj | refine zi ?_ GE346.out | refine zi ?_ GE347.out | refine zi ?_ GE354.out) | exact HB.out)))
     (case aF => exact (fun _ _ => trivial))
     (case aO => exact (by (with_reducible repeat (first | apply Kd.R_alloc | apply Kd.R_drewN | apply Kd.R_drew)); exact HO350.out))
     (case aS => exact (zm (by repeat (first | (with_reducible first | exact HB.out | apply zf | apply zc | apply zj | refine zi ?_ GE346.out | refine zi ?_ GE347.out | refine zi ?_ GE354.out) | exact HB.out))))
     (case aL => have := LMc2.out; omega)
     intro v352 w9 ho hb hg hat; rw [← Ny351.out] at ho; have n0_ := aM (ym (g := gb346) (o := .cells #[.int .i64 a0_0, .int .i64 a0_1, .string a0_2, .slice A0_3 l0_3.length c0_3, .slice A0_4 l0_4.length c0_4] 25 (0, 0)) (by (with_reducible repeat (first | refine zg ?_ _ | refine zh ?_ | refine ze ?_ _)); exact BK346.out) hg (Kd.R_ne HO350.out BK346.out (by decide))); have n1_ := aM (ym (g := gb347) (o := .cells #[.int .i64 0, .int .i64 0, .string (⟨#[]⟩ : ByteArray), .slice none 0 0, .slice none 0 0] 32 (0, 0)) (by (with_reducible repeat (first | refine zg ?_ _ | refine zh ?_ | refine ze ?_ _)); exact BK347.out) hg (Kd.R_ne HO350.out BK347.out (by decide))); have n2_ := aM (ym (g := gb354) (o := .cells #[.int .i64 0, .int .i64 0, .string (⟨#[]⟩ : ByteArray), .slice none 0 0, .slice none 0 0] 32 (0, 0)) (by (with_reducible repeat (first | refine zg ?_ _ | refine zh ?_ | refine ze ?_ _)); exact BK354.out) hg (Kd.R_ne HO350.out BK354.out (by decide))); have n3_ := aM (hb); have n4_ := aM (ho); clear BK346 BK347 BK354 HB HO350; have BK346 := n0_; have BK347 := n1_; have BK354 := n2_; have HB := n3_; have HO353 := n4_; clear n0_ n1_ n2_ n3_ n4_ ho hb hg hat; obtain ⟨Ao10, co10, eo10⟩ := Kd.R_slice HO353.out
     (first | subst eo10 | (injection eo10 with f1_ f2_ f3_; have f4_ := f1_.symm; have f5_ := f3_.symm; clear f1_ f2_ f3_; subst f4_; subst f5_))
     refine hK.out _ _ ⟨(za BK346.out 0).trans rfl, (za BK346.out 1).trans rfl, (za BK346.out 2).trans rfl, (za BK346.out 3).trans rfl, (za BK346.out 4).trans rfl⟩ (fun hHeld => ?_); clear hK K; refine zx (a' := ?_) ?_ ?_; rotate_left
     ·show Act.put _ (some 14) _ = _
      simp only [Act.put, sA, sB, sC, yb, yc]; rfl
     refine pU 10 (some 15) (bZ 13 4095) rfl (yj HT_.out (by kernel_rfl)) ?_; exact zx (by simp only [putAll, Act.put, sA, sB, sC]) (hCont (v349, .slice Ao10 y351.length co10, gb354) _ ⟨hHeld, (by (with_reducible repeat (first | apply Kd.R_alloc | apply Kd.R_drewN | apply Kd.R_drew)); exact HO353.out), (by (with_reducible repeat (first | refine zg ?_ _ | refine zh ?_ | refine ze ?_ _)); exact BK346.out), (by (with_reducible repeat (first | refine zg ?_ _ | refine zh ?_ | refine ze ?_ _)); exact BK347.out), (by (with_reducible repeat (first | refine zg ?_ _ | refine zh ?_ | refine ze ?_ _)); exact BK354.out), GW354.out, GE354.out, NB346_354.out, NB354_346.out, NB347_354.out, NB354_347.out, (by repeat (first | (with_reducible first | exact HB.out | apply zf | apply zc | apply zj | refine zi ?_ GE346.out | refine zi ?_ GE347.out | refine zi ?_ GE354.out) | exact HB.out))⟩)
   ·skip
    refine box_step ?hg (N := 3) ?hd (cs := #[.int .i64 0, .int .i64 0, .string (⟨#[]⟩ : ByteArray), .slice none 0 0, .slice none 0 0]) (t := 32) ?hr ?_; (case hd => rfl); (case hg => rfl); (case hr => first | (go_simp; done) | (go_simp; rfl)); intro gb354 hg w6 hbox hb; have n0_ := aM (zq (g := gb346) (o := .cells #[.int .i64 a0_0, .int .i64 a0_1, .string a0_2, .slice A0_3 l0_3.length c0_3, .slice A0_4 l0_4.length c0_4] 25 (0, 0)) (by (with_reducible repeat (first | refine zg ?_ _ | refine zh ?_ | refine ze ?_ _)); exact BK346.out) hb); have n1_ := aM (zq (g := gb347) (o := .cells #[.int .i64 0, .int .i64 0, .string (⟨#[]⟩ : ByteArray), .slice none 0 0, .slice none 0 0] 32 (0, 0)) (by (with_reducible repeat (first | refine zg ?_ _ | refine zh ?_ | refine ze ?_ _)); exact BK347.out) hb); have n2_ := aM (zo (by repeat (first | (with_reducible first | exact HB.out | apply zf | apply zc | apply zj | refine zi ?_ GE346.out | refine zi ?_ GE347.out) | exact HB.out)) hb); have n3_ := aM (hbox); have n4_ := aM ((by rw [hg]; exact (zm (by repeat (first | (with_reducible first | exact HB.out | apply zf | apply zc | apply zj | refine zi ?_ GE346.out | refine zi ?_ GE347.out) | exact HB.out))) : w.heap.size ≤ gb354)); have n5_ := aM ((by rw [hg]; exact (zm (by repeat (first | (with_reducible first | exact HB.out | apply zf | apply zc | apply zj | refine zi ?_ GE346.out | refine zi ?_ GE347.out) | exact HB.out))) : w.heap.size ≤ gb354)); have n6_ := aM ((by rw [hg]; exact Nat.ne_of_lt (ye (g := gb346) (o := .cells #[.int .i64 a0_0, .int .i64 a0_1, .string a0_2, .slice A0_3 l0_3.length c0_3, .slice A0_4 l0_4.length c0_4] 25 (0, 0)) (by (with_reducible repeat (first | refine zg ?_ _ | refine zh ?_ | refine ze ?_ _)); exact BK346.out)) : gb346 ≠ gb354)); have n7_ := aM ((by rw [hg]; exact Nat.ne_of_gt (ye (g := gb346) (o := .cells #[.int .i64 a0_0, .int .i64 a0_1, .string a0_2, .slice A0_3 l0_3.length c0_3, .slice A0_4 l0_4.length c0_4] 25 (0, 0)) (by (with_reducible repeat (first | refine zg ?_ _ | refine zh ?_ | refine ze ?_ _)); exact BK346.out)) : gb354 ≠ gb346)); have n8_ := aM ((by rw [hg]; exact Nat.ne_of_lt (ye (g := gb347) (o := .cells #[.int .i64 0, .int .i64 0, .string (⟨#[]⟩ : ByteArray), .slice none 0 0, .slice none 0 0] 32 (0, 0)) (by (with_reducible repeat (first | refine zg ?_ _ | refine zh ?_ | refine ze ?_ _)); exact BK347.out)) : gb347 ≠ gb354)); have n9_ := aM ((by rw [hg]; exact Nat.ne_of_gt (ye (g := gb347) (o := .cells #[.int .i64 0, .int .i64 0, .string (⟨#[]⟩ : ByteArray), .slice none 0 0, .slice none 0 0] 32 (0, 0)) (by (with_reducible repeat (first | refine zg ?_ _ | refine zh ?_ | refine ze ?_ _)); exact BK347.out)) : gb354 ≠ gb347)); clear BK346 BK347 HB; have BK346 := n0_; have BK347 := n1_; have HB := n2_; have BK354 := n3_; have GW354 := n4_; have GE354 := n5_; have NB346_354 := n6_; have NB354_346 := n7_; have NB347_354 := n8_; have NB354_347 := n9_; clear n0_ n1_ n2_ n3_ n4_ n5_ n6_ n7_ n8_ n9_ hb hbox hg; refine hK.out _ _ ⟨(za BK346.out 0).trans rfl, (za BK346.out 1).trans rfl, (za BK346.out 2).trans rfl, (za BK346.out 3).trans rfl, (za BK346.out 4).trans rfl⟩ (fun hHeld => ?_); clear hK K; refine zx (a' := ?_) ?_ ?_; rotate_left
    ·show Act.put _ (some 3) _ = _
     simp only [Act.put, sA, sB, sC, yb, yc]; rfl
    refine one_ (i := 6) (N := some 11) (bZ 13 2559) rfl rfl (xa HT_.out (by kernel_rfl)) (by decide) (fun K hK => ?_); refine Kd.R_lit_step Kd.string _ 9 ?hg (N := 11) ?hd (xs := ([] : List ByteArray)) (inner := []) (ok := fun _ => True) (okp := fun _ => True) ?hr ?hp (fun _ hk => hk) trivial (Below.refl _ _) (Nat.le_refl _) (by simp) ?_; (case hd => rfl); (case hg => rfl); (case hr => first | (go_simp; done) | (go_simp; rfl)); (case hp => exact (Reps.none _ _)); intro v349 w7 ho8 hb hg_ hnew_; clear hg_ hnew_
    (first | rw [← Ny348.out] at ho8 | (simp only [Int.reduceToNat] at ho8; rw [← Ny348.out] at ho8))
    have n0_ := aM (Kd.R_lower ho8 (zm (by repeat (first | (with_reducible first | exact HB.out | apply zf | apply zc | apply zj | refine zi ?_ GE346.out | refine zi ?_ GE347.out | refine zi ?_ GE354.out) | exact HB.out)))); have n1_ := aM (zq (g := gb346) (o := .cells #[.int .i64 a0_0, .int .i64 a0_1, .string a0_2, .slice A0_3 l0_3.length c0_3, .slice A0_4 l0_4.length c0_4] 25 (0, 0)) (by (with_reducible repeat (first | refine zg ?_ _ | refine zh ?_ | refine ze ?_ _)); exact BK346.out) hb); have n2_ := aM (zq (g := gb347) (o := .cells #[.int .i64 0, .int .i64 0, .string (⟨#[]⟩ : ByteArray), .slice none 0 0, .slice none 0 0] 32 (0, 0)) (by (with_reducible repeat (first | refine zg ?_ _ | refine zh ?_ | refine ze ?_ _)); exact BK347.out) hb); have n3_ := aM (zq (g := gb354) (o := .cells #[.int .i64 0, .int .i64 0, .string (⟨#[]⟩ : ByteArray), .slice none 0 0, .slice none 0 0] 32 (0, 0)) (by (with_reducible repeat (first | refine zg ?_ _ | refine zh ?_ | refine ze ?_ _)); exact BK354.out) hb); have n4_ := aM (zo (by repeat (first | (with_reducible first | exact HB.out | apply zf | apply zc | apply zj | refine zi ?_ GE346.out | refine zi ?_ GE347.out | refine zi ?_ GE354.out) | exact HB.out)) hb); clear BK346 BK347 BK354 HB; have HO350 := n0_; have BK346 := n1_; have BK347 := n2_; have BK354 := n3_; have HB := n4_; clear n0_ n1_ n2_ n3_ n4_ hb ho8; refine hK.out _ _ ⟨(za BK346.out 0).trans rfl, (za BK346.out 1).trans rfl, (za BK346.out 2).trans rfl, (za BK346.out 3).trans rfl, (za BK346.out 4).trans rfl⟩ (fun hHeld => ?_); clear hK K; refine zx (a' := ?_) ?_ ?_; rotate_left
    ·show Act.put _ (some 11) _ = _
     simp only [Act.put, sA, sB, sC, yb, yc]; rfl
    refine one_ (i := 9) (N := some 14) (bZ 13 3071) rfl rfl (xa HT_.out (by kernel_rfl)) (by decide) (fun K hK => ?_); refine Kd.R_append_rows_step Kd.string (w0 := w) w.heap.size (by rfl) (.tmp 11) (.tmp 13) 22 9 (.string ⟨#[]⟩) 16 rfl Tryd.underlying22 info9 rfl (by decide) (by omega) v349 y348 l0_3 _ _ _ (fun _ => True) (fun _ => False) rfl rfl ?aO ?aR (fun _ _ h => h) (fun _ h => h.elim) ?aF ?aB ?aS ?aL ?_
    (case aR => repeat (first | exact (Kd.C_below HR0_3.out HB.out) | (with_reducible refine Kd.C_alloc ?_ _) | (with_reducible refine Kd.C_drewN ?_ _) | (with_reducible refine Kd.C_drew ?_)))
    (case aB => exact (by repeat (first | (with_reducible first | exact HB.out | apply zf | apply zc | apply zj | refine zi ?_ GE346.out | refine zi ?_ GE347.out | refine zi ?_ GE354.out) | exact HB.out)))
    (case aF => exact (fun _ _ => trivial))
    (case aO => exact (by (with_reducible repeat (first | apply Kd.R_alloc | apply Kd.R_drewN | apply Kd.R_drew)); exact HO350.out))
    (case aS => exact (zm (by repeat (first | (with_reducible first | exact HB.out | apply zf | apply zc | apply zj | refine zi ?_ GE346.out | refine zi ?_ GE347.out | refine zi ?_ GE354.out) | exact HB.out))))
    (case aL => have := LMc2.out; omega)
    intro v352 w9 ho hb hg hat; rw [← Ny351.out] at ho; have n0_ := aM (ym (g := gb346) (o := .cells #[.int .i64 a0_0, .int .i64 a0_1, .string a0_2, .slice A0_3 l0_3.length c0_3, .slice A0_4 l0_4.length c0_4] 25 (0, 0)) (by (with_reducible repeat (first | refine zg ?_ _ | refine zh ?_ | refine ze ?_ _)); exact BK346.out) hg (Kd.R_ne HO350.out BK346.out (by decide))); have n1_ := aM (ym (g := gb347) (o := .cells #[.int .i64 0, .int .i64 0, .string (⟨#[]⟩ : ByteArray), .slice none 0 0, .slice none 0 0] 32 (0, 0)) (by (with_reducible repeat (first | refine zg ?_ _ | refine zh ?_ | refine ze ?_ _)); exact BK347.out) hg (Kd.R_ne HO350.out BK347.out (by decide))); have n2_ := aM (ym (g := gb354) (o := .cells #[.int .i64 0, .int .i64 0, .string (⟨#[]⟩ : ByteArray), .slice none 0 0, .slice none 0 0] 32 (0, 0)) (by (with_reducible repeat (first | refine zg ?_ _ | refine zh ?_ | refine ze ?_ _)); exact BK354.out) hg (Kd.R_ne HO350.out BK354.out (by decide))); have n3_ := aM (hb); have n4_ := aM (ho); clear BK346 BK347 BK354 HB HO350; have BK346 := n0_; have BK347 := n1_; have BK354 := n2_; have HB := n3_; have HO353 := n4_; clear n0_ n1_ n2_ n3_ n4_ ho hb hg hat; obtain ⟨Ao10, co10, eo10⟩ := Kd.R_slice HO353.out
    (first | subst eo10 | (injection eo10 with f1_ f2_ f3_; have f4_ := f1_.symm; have f5_ := f3_.symm; clear f1_ f2_ f3_; subst f4_; subst f5_))
    refine hK.out _ _ ⟨(za BK346.out 0).trans rfl, (za BK346.out 1).trans rfl, (za BK346.out 2).trans rfl, (za BK346.out 3).trans rfl, (za BK346.out 4).trans rfl⟩ (fun hHeld => ?_); clear hK K; refine zx (a' := ?_) ?_ ?_; rotate_left
    ·show Act.put _ (some 14) _ = _
     simp only [Act.put, sA, sB, sC, yb, yc]; rfl
    refine pU 10 (some 15) (bZ 13 4095) rfl (yj HT_.out (by kernel_rfl)) ?_; exact zx (by simp only [putAll, Act.put, sA, sB, sC]) (hCont (v349, .slice Ao10 y351.length co10, gb354) _ ⟨hHeld, (by (with_reducible repeat (first | apply Kd.R_alloc | apply Kd.R_drewN | apply Kd.R_drew)); exact HO353.out), (by (with_reducible repeat (first | refine zg ?_ _ | refine zh ?_ | refine ze ?_ _)); exact BK346.out), (by (with_reducible repeat (first | refine zg ?_ _ | refine zh ?_ | refine ze ?_ _)); exact BK347.out), (by (with_reducible repeat (first | refine zg ?_ _ | refine zh ?_ | refine ze ?_ _)); exact BK354.out), GW354.out, GE354.out, NB346_354.out, NB354_346.out, NB347_354.out, NB354_347.out, (by repeat (first | (with_reducible first | exact HB.out | apply zf | apply zc | apply zj | refine zi ?_ GE346.out | refine zi ?_ GE347.out | refine zi ?_ GE354.out) | exact HB.out))⟩)
  rintro ⟨v349, v352, gb354⟩ w11 ⟨hS_, h0_, h1_, h2_, h3_, h4_, h5_, h6_, h7_, h8_, h9_, h10_⟩
  have n0_ : Aside0 (Kd.R Kd.string 9 w11 w.heap.size (fun _ => True) v352 y351) := ⟨h0_⟩
  have n1_ : Aside0 (w11.heap[gb346]? = some (.cells #[.int .i64 a0_0, .int .i64 a0_1, .string a0_2, .slice A0_3 l0_3.length c0_3, .slice A0_4 l0_4.length c0_4] 25 (0, 0))) := ⟨h1_⟩
  have n2_ : Aside0 (w11.heap[gb347]? = some (.cells #[.int .i64 0, .int .i64 0, .string (⟨#[]⟩ : ByteArray), .slice none 0 0, .slice none 0 0] 32 (0, 0))) := ⟨h2_⟩
  have n3_ : Aside0 (w11.heap[gb354]? = some (.cells #[.int .i64 0, .int .i64 0, .string (⟨#[]⟩ : ByteArray), .slice none 0 0, .slice none 0 0] 32 (0, 0))) := ⟨h3_⟩
  have n4_ : Aside0 (w.heap.size ≤ gb354) := ⟨h4_⟩
  have n5_ : Aside0 (w.heap.size ≤ gb354) := ⟨h5_⟩
  have n6_ : Aside0 (gb346 ≠ gb354) := ⟨h6_⟩
  have n7_ : Aside0 (gb354 ≠ gb346) := ⟨h7_⟩
  have n8_ : Aside0 (gb347 ≠ gb354) := ⟨h8_⟩
  have n9_ : Aside0 (gb354 ≠ gb347) := ⟨h9_⟩
  have n10_ : Aside0 (Below w.heap.size w w11) := ⟨h10_⟩
  clear BK346 BK347 HB h0_ h1_ h2_ h3_ h4_ h5_ h6_ h7_ h8_ h9_ h10_; have HO353 := n0_; have BK346 := n1_; have BK347 := n2_; have BK354 := n3_; have GW354 := n4_; have GE354 := n5_; have NB346_354 := n6_; have NB354_346 := n7_; have NB347_354 := n8_; have NB354_347 := n9_; have HB := n10_; clear n0_ n1_ n2_ n3_ n4_ n5_ n6_ n7_ n8_ n9_ n10_; have hHeld : w11.cell? ⟨gb346, 0, none⟩ = some (.int .i64 a0_0) ∧ w11.cell? ⟨gb346, 1, none⟩ = some (.int .i64 a0_1) ∧ w11.cell? ⟨gb346, 2, none⟩ = some (.string a0_2) ∧ w11.cell? ⟨gb346, 3, none⟩ = some (.slice A0_3 l0_3.length c0_3) ∧ w11.cell? ⟨gb346, 4, none⟩ = some (.slice A0_4 l0_4.length c0_4) := hS_; obtain ⟨Ao12, co12, eo12⟩ := Kd.R_slice HO353.out
  (first | subst eo12 | (injection eo12 with f1_ f2_ f3_; have f4_ := f1_.symm; have f5_ := f3_.symm; clear f1_ f2_ f3_; subst f4_; subst f5_))
  refine zx (a' := ?_) ?_ ?_; rotate_left
  ·simp only [putAll, Act.put, sA, sB, sC]; rfl
  refine one_ (i := 12) (N := none) (bZ 13 8191) rfl rfl (xa HT_.out (by kernel_rfl)) (by decide) (fun K hK => ?_); have hs13 : w11.cell? ⟨gb354, 0, none⟩ = some (.int .i64 0) := (za BK354.out 0).trans rfl; have hfs13 := zb BK354.out 0; have hns13_0 := NB346_354.out; have hns13_1 := NB347_354.out; have hms13_0 := NB354_346.out; have hms13_1 := NB354_347.out; have hs14 : w11.cell? ⟨gb354, 1, none⟩ = some (.int .i64 0) := (za BK354.out 1).trans rfl; have hfs14 := zb BK354.out 1; have hns14_0 := NB346_354.out; have hns14_1 := NB347_354.out; have hms14_0 := NB354_346.out; have hms14_1 := NB354_347.out; have hs15 : w11.cell? ⟨gb354, 2, none⟩ = some (.string (⟨#[]⟩ : ByteArray)) := (za BK354.out 2).trans rfl; have hfs15 := zb BK354.out 2; have hns15_0 := NB346_354.out; have hns15_1 := NB347_354.out; have hms15_0 := NB354_346.out; have hms15_1 := NB354_347.out; have hs16 : w11.cell? ⟨gb354, 3, none⟩ = some (.slice none 0 0) := (za BK354.out 3).trans rfl; have hfs16 := zb BK354.out 3; have hns16_0 := NB346_354.out; have hns16_1 := NB347_354.out; have hms16_0 := NB354_346.out; have hms16_1 := NB354_347.out; have hs17 : w11.cell? ⟨gb354, 4, none⟩ = some (.slice none 0 0) := (za BK354.out 4).trans rfl; have hfs17 := zb BK354.out 4; have hns17_0 := NB346_354.out; have hns17_1 := NB347_354.out; have hms17_0 := NB354_346.out; have hms17_1 := NB354_347.out; refine skip_ (w1 := ?_) (by rfl) rfl ?_ ?_; rotate_left
  ·go_simp; rfl
  refine hK.out _ _ ⟨((zr (p := ⟨gb354, _, none⟩) NB346_354.out _).trans (((zr (p := ⟨gb354, _, none⟩) NB346_354.out _).trans (((zr (p := ⟨gb354, _, none⟩) NB346_354.out _).trans (((zr (p := ⟨gb354, _, none⟩) NB346_354.out _).trans (((zr (p := ⟨gb354, _, none⟩) NB346_354.out _).trans (hHeld.1)))))))))), ((zr (p := ⟨gb354, _, none⟩) NB346_354.out _).trans (((zr (p := ⟨gb354, _, none⟩) NB346_354.out _).trans (((zr (p := ⟨gb354, _, none⟩) NB346_354.out _).trans (((zr (p := ⟨gb354, _, none⟩) NB346_354.out _).trans (((zr (p := ⟨gb354, _, none⟩) NB346_354.out _).trans (hHeld.2.1)))))))))), ((zr (p := ⟨gb354, _, none⟩) NB346_354.out _).trans (((zr (p := ⟨gb354, _, none⟩) NB346_354.out _).trans (((zr (p := ⟨gb354, _, none⟩) NB346_354.out _).trans (((zr (p := ⟨gb354, _, none⟩) NB346_354.out _).trans (((zr (p := ⟨gb354, _, none⟩) NB346_354.out _).trans (hHeld.2.2.1)))))))))), ((zr (p := ⟨gb354, _, none⟩) NB346_354.out _).trans (((zr (p := ⟨gb354, _, none⟩) NB346_354.out _).trans (((zr (p := ⟨gb354, _, none⟩) NB346_354.out _).trans (((zr (p := ⟨gb354, _, none⟩) NB346_354.out _).trans (((zr (p := ⟨gb354, _, none⟩) NB346_354.out _).trans (hHeld.2.2.2.1)))))))))), ((zr (p := ⟨gb354, _, none⟩) NB346_354.out _).trans (((zr (p := ⟨gb354, _, none⟩) NB346_354.out _).trans (((zr (p := ⟨gb354, _, none⟩) NB346_354.out _).trans (((zr (p := ⟨gb354, _, none⟩) NB346_354.out _).trans (((zr (p := ⟨gb354, _, none⟩) NB346_354.out _).trans (hHeld.2.2.2.2))))))))))⟩ (fun hHeld => ?_); clear hK K; refine xt (done_of HT_.out (by kernel_rfl)) ?_
  try go_wp2
  go_loopg [4] k (fun kq v4 w' => ∃ (x4_1 : Int) (x355004_1 : List (S32)) (u355004 : Value), v4 = .int .i64 x4_1 ∧ Aside0 (laws_to.l0 kq x4_1 a0_0 a0_1 a0_2 l0_3 l0_4 a0_0 a0_1 a0_2 y351 x355004_1 = some (r1, r2, r3, r4, r5)) ∧ Aside0 (kq ≤ k) ∧ Aside0 (Kd.R Kd.string 9 w' w.heap.size (fun _ => True) (.slice Ao12 y351.length co12) y351) ∧ Aside0 (Kd.R k32 32 w' w.heap.size (fun k_ => some k_ ≠ ((.slice Ao12 y351.length co12) : Value).ownBlock ∧ k_ ≠ gb347 ∧ k_ ≠ gb354) u355004 x355004_1) ∧ Aside0 (w'.heap[gb346]? = some (.cells #[.int .i64 a0_0, .int .i64 a0_1, .string a0_2, (.slice A0_3 l0_3.length c0_3), (.slice A0_4 l0_4.length c0_4)] 25 (0, 0))) ∧ Aside0 (w'.heap[gb347]? = some (.cells #[.int .i64 0, .int .i64 0, .string (⟨#[]⟩ : ByteArray), (.slice none 0 0), (.slice none 0 0)] 32 (0, 0))) ∧ Aside0 (w'.heap[gb354]? = some (.cells #[.int .i64 a0_0, .int .i64 a0_1, .string a0_2, (.slice Ao12 y351.length co12), u355004] 32 (0, 0))) ∧ Aside0 (Below w.heap.size w w'))
  case atStart => exact ⟨(0), (([] : List (S32))), (.slice none 0 0), (by first | rfl | (simp; done) | (simp [*]; done)), H', ⟨Nat.le_refl _⟩, ⟨by (with_reducible repeat (first | apply Kd.R_alloc | apply Kd.R_drewN | apply Kd.R_drew)); exact Kd.R_mono (Kd.R_far (p := ⟨gb354, 4, none⟩) (Kd.R_far (p := ⟨gb354, 3, none⟩) (Kd.R_far (p := ⟨gb354, 2, none⟩) (Kd.R_far (p := ⟨gb354, 1, none⟩) (Kd.R_far (p := ⟨gb354, 0, none⟩) (Kd.R_types HO353.out BK354.out (by decide)) (fun _ hk => hk.2) (.int .i64 a0_0)) (fun _ hk => hk.2) (.int .i64 a0_1)) (fun _ hk => hk.2) (.string a0_2)) (fun _ hk => hk.2) (.slice Ao12 y351.length co12)) (fun _ hk => hk.2) (.slice none 0 0)) (fun _ hk => trivial)⟩, ⟨by first | exact Kd.R_nil _ _ _ _ _ | exact Kd.N_nil _ _ _ _ _ | exact Kd.V_nil _ _ _ _ _ | exact Kd.Q_nil _ _ _ _ _ | exact Kd.S_nil _ _ _ _ _⟩, ⟨by (with_reducible repeat (first | refine zg ?_ _ | refine zh ?_ | refine ze ?_ _)); refine zv ?_ NB346_354.out _; (with_reducible repeat (first | refine zg ?_ _ | refine zh ?_ | refine ze ?_ _)); refine zv ?_ NB346_354.out _; (with_reducible repeat (first | refine zg ?_ _ | refine zh ?_ | refine ze ?_ _)); refine zv ?_ NB346_354.out _; (with_reducible repeat (first | refine zg ?_ _ | refine zh ?_ | refine ze ?_ _)); refine zv ?_ NB346_354.out _; (with_reducible repeat (first | refine zg ?_ _ | refine zh ?_ | refine ze ?_ _)); refine zv ?_ NB346_354.out _; (with_reducible repeat (first | refine zg ?_ _ | refine zh ?_ | refine ze ?_ _)); exact BK346.out⟩, ⟨by (with_reducible repeat (first | refine zg ?_ _ | refine zh ?_ | refine ze ?_ _)); refine zv ?_ NB347_354.out _; (with_reducible repeat (first | refine zg ?_ _ | refine zh ?_ | refine ze ?_ _)); refine zv ?_ NB347_354.out _; (with_reducible repeat (first | refine zg ?_ _ | refine zh ?_ | refine ze ?_ _)); refine zv ?_ NB347_354.out _; (with_reducible repeat (first | refine zg ?_ _ | refine zh ?_ | refine ze ?_ _)); refine zv ?_ NB347_354.out _; (with_reducible repeat (first | refine zg ?_ _ | refine zh ?_ | refine ze ?_ _)); refine zv ?_ NB347_354.out _; (with_reducible repeat (first | refine zg ?_ _ | refine zh ?_ | refine ze ?_ _)); exact BK347.out⟩, ⟨by (with_reducible repeat (first | refine zg ?_ _ | refine zh ?_ | refine ze ?_ _)); refine zn (cs := #[.int .i64 a0_0, .int .i64 a0_1, .string a0_2, .slice Ao12 y351.length co12, .slice none 0 0]) ?_ 4 _ rfl; (with_reducible repeat (first | refine zg ?_ _ | refine zh ?_ | refine ze ?_ _)); refine zn (cs := #[.int .i64 a0_0, .int .i64 a0_1, .string a0_2, .slice none 0 0, .slice none 0 0]) ?_ 3 _ rfl; (with_reducible repeat (first | refine zg ?_ _ | refine zh ?_ | refine ze ?_ _)); refine zn (cs := #[.int .i64 a0_0, .int .i64 a0_1, .string (⟨#[]⟩ : ByteArray), .slice none 0 0, .slice none 0 0]) ?_ 2 _ rfl; (with_reducible repeat (first | refine zg ?_ _ | refine zh ?_ | refine ze ?_ _)); refine zn (cs := #[.int .i64 a0_0, .int .i64 0, .string (⟨#[]⟩ : ByteArray), .slice none 0 0, .slice none 0 0]) ?_ 1 _ rfl; (with_reducible repeat (first | refine zg ?_ _ | refine zh ?_ | refine ze ?_ _)); refine zn (cs := #[.int .i64 0, .int .i64 0, .string (⟨#[]⟩ : ByteArray), .slice none 0 0, .slice none 0 0]) ?_ 0 _ rfl; (with_reducible repeat (first | refine zg ?_ _ | refine zh ?_ | refine ze ?_ _)); exact BK354.out⟩, ⟨by repeat (first | (with_reducible first | exact HB.out | apply zf | apply zc | apply zj | refine zi ?_ GE346.out | refine zi ?_ GE347.out | refine zi ?_ GE354.out) | exact HB.out)⟩⟩
  case round =>
   clear H'
   try clear c2
   try clear p2
   try clear c8
   obtain ⟨x4_1, x355004_1, u355004, rfl, HA, HK1, HO_355003, HO_355004, BK346, BK347, BK354, HB⟩ := hrel
   cases gk with
   | zero => exact absurd HA.out (by simp [laws_to.l0])
   | succ k1 =>
    have H := HA.out; clear HA; simp only [laws_to.l0] at H
    by_cases c18 : x4_1 < (l0_4.length : Int)
    ·rw [if_pos c18] at H; have c18b0 : decide (x4_1 < (l0_4.length : Int)) = true := decide_eq_true c18; clear c18
     by_cases c19 : 0 ≤ x4_1
     ·rw [if_pos c19] at H; have c19b0 : decide (0 ≤ x4_1) = true := decide_eq_true c19; clear c19; replace H := Option.bind_eq_some_iff.mp H; obtain ⟨⟨t356, t357, t358, t359, t362⟩, A200, H⟩ := H; replace H : (if x355004_1.length < 1759218604441 then (laws_to.l0 k1 (wrap64 (x4_1 + 1)) a0_0 a0_1 a0_2 l0_3 l0_4 a0_0 a0_1 a0_2 y351 (x355004_1 ++ [(⟨t356, t357, t358, t359, t362⟩ : S32)])) else (none)) = some (r1, r2, r3, r4, r5) := H; have A20 := aM A200; clear A200
      by_cases c21 : x355004_1.length < 1759218604441
      ·rw [if_pos c21] at H; have LMc21 := aM c21; clear c21
       obtain ⟨y365, hy365⟩ : ∃ y_ : List (S32), y_ = (x355004_1 ++ [(⟨t356, t357, t358, t359, t362⟩ : S32)]) := ⟨_, rfl⟩
       replace H : (laws_to.l0 k1 (wrap64 (x4_1 + 1)) a0_0 a0_1 a0_2 l0_3 l0_4 a0_0 a0_1 a0_2 y351 y365) = some (r1, r2, r3, r4, r5) := by first | (rw [hy365]; with_reducible exact H) | (have H2_ := (Option.bind_some _ _).symm.trans H; rw [hy365]; with_reducible exact H2_) | (have H2_ := (Option.bind_some _ _).symm.trans H; with_reducible exact H2_) | with_reducible exact H | (rw [hy365]; exact H) | exact H
       have Ny365 := aM hy365; clear hy365; have H' := aM H; clear H; have hnb22 := NB346_347.out; have hnc22 := NB347_346.out; have hnb23 := NB346_354.out; have hnc23 := NB354_346.out; have hcz24_0 : wr.cell? ⟨gb346, 0, none⟩ = some (.int .i64 a0_0) := (za BK346.out 0).trans rfl; have hcz24_1 : wr.cell? ⟨gb346, 1, none⟩ = some (.int .i64 a0_1) := (za BK346.out 1).trans rfl; have hcz24_2 : wr.cell? ⟨gb346, 2, none⟩ = some (.string a0_2) := (za BK346.out 2).trans rfl; have hcz24_3 : wr.cell? ⟨gb346, 3, none⟩ = some (.slice A0_3 l0_3.length c0_3) := (za BK346.out 3).trans rfl; have hcz24_4 : wr.cell? ⟨gb346, 4, none⟩ = some (.slice A0_4 l0_4.length c0_4) := (za BK346.out 4).trans rfl; have hfz24_0 := zb BK346.out 0; have hfz24_1 := zb BK346.out 1; have hfz24_2 := zb BK346.out 2; have hfz24_3 := zb BK346.out 3; have hfz24_4 := zb BK346.out 4
       try go_wp2
       have n0_ := aM (Kd.R_drew HO_355003.out); have n1_ := aM (Kd.R_drew HO_355004.out); have n2_ := aM (zh BK346.out); have n3_ := aM (zh BK347.out); have n4_ := aM (zh BK354.out); have n5_ := aM (zj HB.out); clear HO_355003 HO_355004 BK346 BK347 BK354 HB; have HO_355003 := n0_; have HO_355004 := n1_; have BK346 := n2_; have BK347 := n3_; have BK354 := n4_; have HB := n5_; clear n0_ n1_ n2_ n3_ n4_ n5_; have p355 : 0 ≤ (x4_1 : Int) := of_decide_eq_true (by first | (with_reducible assumption) | assumption); have q355 : x4_1 < (l0_4.length : Int) := of_decide_eq_true (by first | (with_reducible assumption) | assumption); obtain ⟨ad355, A355_3, c355_3, A355_4, c355_4, e355, hx355_0, hx355_1, hx355_2, hx355_3, hx355_4, hl355_3, hi355_3, hl355_4, hi355_4⟩ := xk HR0_4.out x4_1 p355 q355; have hw355_4 := hx355_4; have hw355_3 := hx355_3; have hw355_2 := hx355_2; have hw355_1 := hx355_1; have hw355_0 := hx355_0
       cases e355
       replace hx355_0 := (HB.out.cell (World.block_lt_of_cell? w _ hx355_0)).trans hx355_0; replace hx355_1 := (HB.out.cell (World.block_lt_of_cell? w _ hx355_1)).trans hx355_1; replace hx355_2 := (HB.out.cell (World.block_lt_of_cell? w _ hx355_2)).trans hx355_2; replace hx355_3 := (HB.out.cell (World.block_lt_of_cell? w _ hx355_3)).trans hx355_3; replace hx355_4 := (HB.out.cell (World.block_lt_of_cell? w _ hx355_4)).trans hx355_4; have HR355_3 := aM hi355_3; have HC355_3 := aM hl355_3; clear hi355_3 hl355_3; have HR355_4 := aM hi355_4; have HC355_4 := aM hl355_4; clear hi355_4 hl355_4; replace p355 := eq_true p355; replace q355 := eq_true q355; refine xl (n := 12) (S := fun w' => w'.cell? ⟨gb354, 0, none⟩ = some (.int .i64 a0_0) ∧ w'.cell? ⟨gb354, 1, none⟩ = some (.int .i64 a0_1) ∧ w'.cell? ⟨gb354, 2, none⟩ = some (.string a0_2) ∧ w'.cell? ⟨gb354, 3, none⟩ = some (.slice Ao12 y351.length co12) ∧ w'.cell? ⟨gb354, 4, none⟩ = some (u355004) ∧ w'.cell? ⟨gb346, 0, none⟩ = some (.int .i64 a0_0) ∧ w'.cell? ⟨gb346, 1, none⟩ = some (.int .i64 a0_1) ∧ w'.cell? ⟨gb346, 2, none⟩ = some (.string a0_2) ∧ w'.cell? ⟨gb346, 3, none⟩ = some (.slice A0_3 l0_3.length c0_3) ∧ w'.cell? ⟨gb346, 4, none⟩ = some (.slice (some ad355) l0_4.length c0_4) ∧ w'.cell? (ad355.add ((x4_1).toNat * 5)) = some (.int .i64 ((rd_T25 l0_4 x4_1).f0)) ∧ w'.cell? ⟨(ad355.add ((x4_1).toNat * 5)).block, (ad355.add ((x4_1).toNat * 5)).off + 1, none⟩ = some (.int .i64 ((rd_T25 l0_4 x4_1).f1)) ∧ w'.cell? ⟨(ad355.add ((x4_1).toNat * 5)).block, (ad355.add ((x4_1).toNat * 5)).off + 2, none⟩ = some (.string ((rd_T25 l0_4 x4_1).f2)) ∧ w'.cell? ⟨(ad355.add ((x4_1).toNat * 5)).block, (ad355.add ((x4_1).toNat * 5)).off + 3, none⟩ = some (.slice A355_3 ((rd_T25 l0_4 x4_1).f3).length c355_3) ∧ w'.cell? ⟨(ad355.add ((x4_1).toNat * 5)).block, (ad355.add ((x4_1).toNat * 5)).off + 4, none⟩ = some (.slice A355_4 ((rd_T25 l0_4 x4_1).f4).length c355_4)) (ds := [11]) (bZ 12 0) (by kernel_rfl) rfl rfl ⟨(za BK354.out 0).trans rfl, (za BK354.out 1).trans rfl, (za BK354.out 2).trans rfl, (za BK354.out 3).trans rfl, (za BK354.out 4).trans rfl, (za BK346.out 0).trans rfl, (za BK346.out 1).trans rfl, (za BK346.out 2).trans rfl, (za BK346.out 3).trans rfl, (za BK346.out 4).trans rfl, ((HB.out.cell (World.block_lt_of_cell? w _ hw355_0)).trans hw355_0), ((HB.out.cell (World.block_lt_of_cell? w _ hw355_1)).trans hw355_1), ((HB.out.cell (World.block_lt_of_cell? w _ hw355_2)).trans hw355_2), ((HB.out.cell (World.block_lt_of_cell? w _ hw355_3)).trans hw355_3), ((HB.out.cell (World.block_lt_of_cell? w _ hw355_4)).trans hw355_4)⟩ (fun hHeld => ?_); refine xq laws_to.tab5 laws_to.bits5 (fun HT_ HW_ => ?_); generalize wr.drew = w25 at HO_355003 HO_355004 BK346 BK347 BK354 HB HR355_3 HR355_4 hx355_0 hx355_1 hx355_2 hx355_3 hx355_4 hHeld ⊢; refine pU 0 (some 23) (bZ 12 1) rfl (yj HT_.out (by kernel_rfl)) ?_; refine pU 2 (some 25) (bZ 12 5) rfl (yj HT_.out (by kernel_rfl)) ?_; refine pU 4 (some 27) (bZ 12 21) rfl (yj HT_.out (by kernel_rfl)) ?_; refine tU 1 (some 24) (bZ 12 23) rfl (yn HT_.out HW_.out (by kernel_rfl)) (Or.inl ⟨by rfl, by rintro w' ⟨s0, s1, s2, s3, s4, s5, s6, s7, s8, s9, s10, s11, s12, s13, s14⟩; go_simp; with_reducible rfl⟩) hHeld ?_; refine tU 3 (some 26) (bZ 12 31) rfl (yn HT_.out HW_.out (by kernel_rfl)) (Or.inl ⟨by rfl, by rintro w' ⟨s0, s1, s2, s3, s4, s5, s6, s7, s8, s9, s10, s11, s12, s13, s14⟩; go_simp; with_reducible rfl⟩) hHeld ?_; refine pU 5 (some 28) (bZ 12 63) rfl (yj HT_.out (by kernel_rfl)) ?_; refine tU 6 (some 29) (bZ 12 127) rfl (yn HT_.out HW_.out (by kernel_rfl)) (Or.inl ⟨by rfl, by rintro w' ⟨s0, s1, s2, s3, s4, s5, s6, s7, s8, s9, s10, s11, s12, s13, s14⟩; go_simp; with_reducible rfl⟩) hHeld ?_; refine one_ (i := 7) (N := some 30) (bZ 12 255) rfl rfl (xa HT_.out (by kernel_rfl)) (by decide) (fun K hK => ?_); refine goes_ Tryd.func8 (by kernel_rfl) rfl #[.agg #[.int .i64 ((rd_T25 l0_4 x4_1).f0), .int .i64 ((rd_T25 l0_4 x4_1).f1), .string ((rd_T25 l0_4 x4_1).f2), .slice A355_3 ((rd_T25 l0_4 x4_1).f3).length c355_3, .slice A355_4 ((rd_T25 l0_4 x4_1).f4).length c355_4]] (by rfl) rfl rfl (by (try simp only [List.map_toArray, List.map_cons, List.map_nil]); first | done | rfl | (simp only [List.length_drop, List.length_take]; rfl)) ?_
       with_reducible refine (ih k1 (by have := HK1.out; omega) ((rd_T25 l0_4 x4_1).f0) ((rd_T25 l0_4 x4_1).f1) ((rd_T25 l0_4 x4_1).f2) _ _ ((rd_T25 l0_4 x4_1).f3) _ _ ((rd_T25 l0_4 x4_1).f4) t356 t357 t358 t359 t362 _ ?side1 ?side2 ?side3 ?side4 A20.out).mono ?_
       (case side1 => repeat (first | exact (Kd.C_below HR355_3.out HB.out) | (with_reducible refine Kd.C_alloc ?_ _) | (with_reducible refine Kd.C_drewN ?_ _) | (with_reducible refine Kd.C_drew ?_)))
       (case side2 => exact HC355_3.out)
       (case side3 => repeat (first | exact (Kd.C_below HR355_4.out HB.out) | (with_reducible refine Kd.C_alloc ?_ _) | (with_reducible refine Kd.C_drewN ?_ _) | (with_reducible refine Kd.C_drew ?_)))
       (case side4 => exact HC355_4.out)
       rintro e w26 ⟨v360, v363, rfl, ho0, ho1, hb⟩; refine ⟨_, rfl, ?_⟩; have n0_ := aM (Kd.R_elder' (by (with_reducible repeat (first | apply Kd.R_alloc | apply Kd.R_drewN | apply Kd.R_drew)); exact HO_355003.out) (Kd.R_base ho0) hb); have n1_ := aM (Kd.R_mono (Kd.R_told (Kd.R_told (Kd.R_old (by (with_reducible repeat (first | apply Kd.R_alloc | apply Kd.R_drewN | apply Kd.R_drew)); exact HO_355004.out) hb) (Kd.R_base ho0)) (Kd.R_base ho1)) (fun _ h_ => h_.1)); have n2_ := aM (Kd.R_lower (Kd.R_new' ho0 (Kd.R_lt (by (with_reducible repeat (first | apply Kd.R_alloc | apply Kd.R_drewN | apply Kd.R_drew)); exact HO_355003.out))) (zm (by repeat (first | (with_reducible first | exact HB.out | apply zf | apply zc | apply zj | refine zi ?_ GE346.out | refine zi ?_ GE347.out | refine zi ?_ GE354.out) | exact HB.out)))); have n3_ := aM (Kd.R_lower (Kd.R_newB (Kd.R_newB (Kd.R_new' (Kd.R_new' ho1 (Kd.R_lt (by (with_reducible repeat (first | apply Kd.R_alloc | apply Kd.R_drewN | apply Kd.R_drew)); exact HO_355003.out))) (Kd.R_lt (by (with_reducible repeat (first | apply Kd.R_alloc | apply Kd.R_drewN | apply Kd.R_drew)); exact HO_355004.out))) (g := gb347) (o := .cells #[.int .i64 0, .int .i64 0, .string (⟨#[]⟩ : ByteArray), .slice none 0 0, .slice none 0 0] 32 (0, 0)) (by (with_reducible repeat (first | refine zg ?_ _ | refine zh ?_ | refine ze ?_ _)); exact BK347.out)) (g := gb354) (o := .cells #[.int .i64 a0_0, .int .i64 a0_1, .string a0_2, .slice Ao12 y351.length co12, u355004] 32 (0, 0)) (by (with_reducible repeat (first | refine zg ?_ _ | refine zh ?_ | refine ze ?_ _)); exact BK354.out)) (zm (by repeat (first | (with_reducible first | exact HB.out | apply zf | apply zc | apply zj | refine zi ?_ GE346.out | refine zi ?_ GE347.out | refine zi ?_ GE354.out) | exact HB.out)))); have n4_ := aM (zq (g := gb346) (o := .cells #[.int .i64 a0_0, .int .i64 a0_1, .string a0_2, .slice A0_3 l0_3.length c0_3, .slice (some ad355) l0_4.length c0_4] 25 (0, 0)) (by (with_reducible repeat (first | refine zg ?_ _ | refine zh ?_ | refine ze ?_ _)); exact BK346.out) hb); have n5_ := aM (zq (g := gb347) (o := .cells #[.int .i64 0, .int .i64 0, .string (⟨#[]⟩ : ByteArray), .slice none 0 0, .slice none 0 0] 32 (0, 0)) (by (with_reducible repeat (first | refine zg ?_ _ | refine zh ?_ | refine ze ?_ _)); exact BK347.out) hb); have n6_ := aM (zq (g := gb354) (o := .cells #[.int .i64 a0_0, .int .i64 a0_1, .string a0_2, .slice Ao12 y351.length co12, u355004] 32 (0, 0)) (by (with_reducible repeat (first | refine zg ?_ _ | refine zh ?_ | refine ze ?_ _)); exact BK354.out) hb); have n7_ := aM (zo (by repeat (first | (with_reducible first | exact HB.out | apply zf | apply zc | apply zj | refine zi ?_ GE346.out | refine zi ?_ GE347.out | refine zi ?_ GE354.out) | exact HB.out)) hb); clear HO_355003 HO_355004 BK346 BK347 BK354 HB; have HO_355003 := n0_; have HO_355004 := n1_; have HO361 := n2_; have HO364 := n3_; have BK346 := n4_; have BK347 := n5_; have BK354 := n6_; have HB := n7_; clear n0_ n1_ n2_ n3_ n4_ n5_ n6_ n7_
       (try clear hb)
       (try clear hb2)
       (try clear hk)
       (try clear hi)
       (try clear ho0)
       (try clear ho1)
       obtain ⟨Ao28, co28, eo28⟩ := Kd.R_slice HO361.out
       (first | subst eo28 | (injection eo28 with f1_ f2_ f3_; have f4_ := f1_.symm; have f5_ := f3_.symm; clear f1_ f2_ f3_; subst f4_; subst f5_))
       obtain ⟨Ao29, co29, eo29⟩ := Kd.R_slice HO364.out
       (first | subst eo29 | (injection eo29 with f1_ f2_ f3_; have f4_ := f1_.symm; have f5_ := f3_.symm; clear f1_ f2_ f3_; subst f4_; subst f5_))
       refine hK.out _ _ ⟨(za BK354.out 0).trans rfl, (za BK354.out 1).trans rfl, (za BK354.out 2).trans rfl, (za BK354.out 3).trans rfl, (za BK354.out 4).trans rfl, (za BK346.out 0).trans rfl, (za BK346.out 1).trans rfl, (za BK346.out 2).trans rfl, (za BK346.out 3).trans rfl, (za BK346.out 4).trans rfl, ((HB.out.cell (World.block_lt_of_cell? w _ hw355_0)).trans hw355_0), ((HB.out.cell (World.block_lt_of_cell? w _ hw355_1)).trans hw355_1), ((HB.out.cell (World.block_lt_of_cell? w _ hw355_2)).trans hw355_2), ((HB.out.cell (World.block_lt_of_cell? w _ hw355_3)).trans hw355_3), ((HB.out.cell (World.block_lt_of_cell? w _ hw355_4)).trans hw355_4)⟩ (fun hHeld => ?_); clear hK K; refine zx (a' := ?_) ?_ ?_; rotate_left
       ·show Act.put _ (some 30) _ = _
        simp only [Act.put, sA, sB, sC, yb, yc]; rfl
       refine one_ (i := 8) (N := some 31) (bZ 12 511) rfl rfl (xa HT_.out (by kernel_rfl)) (by decide) (fun K hK => ?_); refine yr (w1 := ?_) (v := ?_) (by rfl) rfl ?_ ?_; rotate_left 2
       ·go_simp; constructor
        ·rfl
        ·rfl
       refine hK.out _ _ ⟨(za (ze BK354.out _) 0).trans rfl, (za (ze BK354.out _) 1).trans rfl, (za (ze BK354.out _) 2).trans rfl, (za (ze BK354.out _) 3).trans rfl, (za (ze BK354.out _) 4).trans rfl, (za (ze BK346.out _) 0).trans rfl, (za (ze BK346.out _) 1).trans rfl, (za (ze BK346.out _) 2).trans rfl, (za (ze BK346.out _) 3).trans rfl, (za (ze BK346.out _) 4).trans rfl, (World.cell?_alloc_lt _ _ _ (World.block_lt_of_cell? _ _ (((HB.out.cell (World.block_lt_of_cell? w _ hw355_0)).trans hw355_0)))).trans (((HB.out.cell (World.block_lt_of_cell? w _ hw355_0)).trans hw355_0)), (World.cell?_alloc_lt _ _ _ (World.block_lt_of_cell? _ _ (((HB.out.cell (World.block_lt_of_cell? w _ hw355_1)).trans hw355_1)))).trans (((HB.out.cell (World.block_lt_of_cell? w _ hw355_1)).trans hw355_1)), (World.cell?_alloc_lt _ _ _ (World.block_lt_of_cell? _ _ (((HB.out.cell (World.block_lt_of_cell? w _ hw355_2)).trans hw355_2)))).trans (((HB.out.cell (World.block_lt_of_cell? w _ hw355_2)).trans hw355_2)), (World.cell?_alloc_lt _ _ _ (World.block_lt_of_cell? _ _ (((HB.out.cell (World.block_lt_of_cell? w _ hw355_3)).trans hw355_3)))).trans (((HB.out.cell (World.block_lt_of_cell? w _ hw355_3)).trans hw355_3)), (World.cell?_alloc_lt _ _ _ (World.block_lt_of_cell? _ _ (((HB.out.cell (World.block_lt_of_cell? w _ hw355_4)).trans hw355_4)))).trans (((HB.out.cell (World.block_lt_of_cell? w _ hw355_4)).trans hw355_4))⟩ (fun hHeld => ?_); clear hK K; refine zx (a' := ?_) ?_ ?_; rotate_left
       ·show Act.put _ (some 31) _ = _
        simp only [Act.put, sA, sB, sC, yb, yc]; rfl
       refine one_ (i := 9) (N := some 32) (bZ 12 1023) rfl rfl (xa HT_.out (by kernel_rfl)) (by decide) (fun K hK => ?_); refine Kd.R_append_step k32 (w0 := w) w.heap.size (by rfl) (.tmp 24) (.tmp 31) 30 32 (.agg #[(.int .i64 0), (.int .i64 0), (.string ⟨#[]⟩), (.slice none 0 0), (.slice none 0 0)]) 80 rfl Tryd.underlying30 info32 rfl (by decide) (by omega) u355004 x355004_1 (⟨t356, t357, t358, t359, t362⟩ : S32) [.int .i64 t356, .int .i64 t357, .string t358, .slice Ao28 t359.length co28, .slice Ao29 t362.length co29] (fun k_ => some k_ ≠ (.slice Ao12 y351.length co12 : Value).ownBlock ∧ k_ ≠ gb347 ∧ k_ ≠ gb354) (fun k_ => ((fun k_ => some k_ ≠ (.slice Ao12 y351.length co12 : Value).ownBlock ∧ k_ ≠ gb347 ∧ k_ ≠ gb354)) k_ ∧ some k_ ≠ (u355004 : Value).ownBlock) rfl rfl ?aP (fun _ hk => hk) ?aF ?aO ?aB ?aS ?aL ?_
       (case aP => exact k32_mkM _ _ _ (⟨t356, t357, t358, t359, t362⟩ : S32) (Kd.R_mono (Kd.R_types (Kd.R_types (Kd.R_apart' (HO361.out) (Kd.R_typed HO_355004.out) (by decide)) BK347.out (by decide)) BK354.out (by decide)) (fun k_ hk => ⟨⟨hk.1.1.1.2, ⟨hk.1.2, hk.2⟩⟩, hk.1.1.2⟩)) (Kd.R_mono (HO364.out) (fun k_ hk => ⟨⟨hk.1.1.1.2, ⟨hk.1.2, hk.2⟩⟩, hk.1.1.2⟩)))
       (case aB => exact (by repeat (first | (with_reducible first | exact HB.out | apply zf | apply zc | apply zj | refine zi ?_ GE346.out | refine zi ?_ GE347.out | refine zi ?_ GE354.out) | exact HB.out)))
       (case aF => exact (fun k_ hk => ⟨Kd.fresh' (Kd.R_lt (by (with_reducible repeat (first | apply Kd.R_alloc | apply Kd.R_drewN | apply Kd.R_drew)); exact HO_355003.out)) k_ hk, Kd.freshB (g := gb347) (o := .cells #[.int .i64 0, .int .i64 0, .string (⟨#[]⟩ : ByteArray), .slice none 0 0, .slice none 0 0] 32 (0, 0)) (by (with_reducible repeat (first | refine zg ?_ _ | refine zh ?_ | refine ze ?_ _)); exact BK347.out) k_ hk, Kd.freshB (g := gb354) (o := .cells #[.int .i64 a0_0, .int .i64 a0_1, .string a0_2, .slice Ao12 y351.length co12, u355004] 32 (0, 0)) (by (with_reducible repeat (first | refine zg ?_ _ | refine zh ?_ | refine ze ?_ _)); exact BK354.out) k_ hk⟩))
       (case aO => exact (by (with_reducible repeat (first | apply Kd.R_alloc | apply Kd.R_drewN | apply Kd.R_drew)); exact Kd.R_mono HO_355004.out (fun _ hk => ⟨hk.1.1.1, ⟨hk.1.1.2.1, hk.1.1.2.2⟩⟩)))
       (case aS => exact (zm (by repeat (first | (with_reducible first | exact HB.out | apply zf | apply zc | apply zj | refine zi ?_ GE346.out | refine zi ?_ GE347.out | refine zi ?_ GE354.out) | exact HB.out))))
       (case aL => have := LMc21.out; omega)
       intro v366 w27 ho hb hg hat; rw [← Ny365.out] at ho; have n0_ := aM (Kd.R_over' (by (with_reducible repeat (first | apply Kd.R_alloc | apply Kd.R_drewN | apply Kd.R_drew)); exact HO_355003.out) (Kd.R_typed (by (with_reducible repeat (first | apply Kd.R_alloc | apply Kd.R_drewN | apply Kd.R_drew)); exact HO_355004.out)) (by decide) hg); have n1_ := aM (ym (g := gb346) (o := .cells #[.int .i64 a0_0, .int .i64 a0_1, .string a0_2, .slice A0_3 l0_3.length c0_3, .slice (some ad355) l0_4.length c0_4] 25 (0, 0)) (by (with_reducible repeat (first | refine zg ?_ _ | refine zh ?_ | refine ze ?_ _)); exact BK346.out) hg (Kd.R_ne HO_355004.out BK346.out (by decide))); have n2_ := aM (ym (g := gb347) (o := .cells #[.int .i64 0, .int .i64 0, .string (⟨#[]⟩ : ByteArray), .slice none 0 0, .slice none 0 0] 32 (0, 0)) (by (with_reducible repeat (first | refine zg ?_ _ | refine zh ?_ | refine ze ?_ _)); exact BK347.out) hg (Kd.R_away HO_355004.out (fun _ hk => hk.1.1.2.1))); have n3_ := aM (ym (g := gb354) (o := .cells #[.int .i64 a0_0, .int .i64 a0_1, .string a0_2, .slice Ao12 y351.length co12, u355004] 32 (0, 0)) (by (with_reducible repeat (first | refine zg ?_ _ | refine zh ?_ | refine ze ?_ _)); exact BK354.out) hg (Kd.R_away HO_355004.out (fun _ hk => hk.1.1.2.2))); have n4_ := aM (hb); have n5_ := aM (ho); clear HO_355003 BK346 BK347 BK354 HB HO_355004 HO361 HO364; have HO_355003 := n0_; have BK346 := n1_; have BK347 := n2_; have BK354 := n3_; have HB := n4_; have HO367 := n5_; clear n0_ n1_ n2_ n3_ n4_ n5_ ho hb hg hat; obtain ⟨Ao30, co30, eo30⟩ := Kd.R_slice HO367.out
       (first | subst eo30 | (injection eo30 with f1_ f2_ f3_; have f4_ := f1_.symm; have f5_ := f3_.symm; clear f1_ f2_ f3_; subst f4_; subst f5_))
       refine hK.out _ _ ⟨(za BK354.out 0).trans rfl, (za BK354.out 1).trans rfl, (za BK354.out 2).trans rfl, (za BK354.out 3).trans rfl, (za BK354.out 4).trans rfl, (za BK346.out 0).trans rfl, (za BK346.out 1).trans rfl, (za BK346.out 2).trans rfl, (za BK346.out 3).trans rfl, (za BK346.out 4).trans rfl, ((HB.out.cell (World.block_lt_of_cell? w _ hw355_0)).trans hw355_0), ((HB.out.cell (World.block_lt_of_cell? w _ hw355_1)).trans hw355_1), ((HB.out.cell (World.block_lt_of_cell? w _ hw355_2)).trans hw355_2), ((HB.out.cell (World.block_lt_of_cell? w _ hw355_3)).trans hw355_3), ((HB.out.cell (World.block_lt_of_cell? w _ hw355_4)).trans hw355_4)⟩ (fun hHeld => ?_); clear hK K; refine zx (a' := ?_) ?_ ?_; rotate_left
       ·show Act.put _ (some 32) _ = _
        simp only [Act.put, sA, sB, sC, yb, yc]; rfl
       refine pU 10 (some 33) (bZ 12 2047) rfl (yj HT_.out (by kernel_rfl)) ?_; refine xo (i := 11) (N := none) (bZ 12 4095) rfl rfl (xa HT_.out (by kernel_rfl)) (by decide) (fun K hK => ?_); have hs31 : w27.cell? ⟨gb354, 4, none⟩ = some (u355004) := (za BK354.out 4).trans rfl; have hfs31 := zb BK354.out 4; have hns31_0 := NB346_354.out; have hns31_1 := NB347_354.out; have hms31_0 := NB354_346.out; have hms31_1 := NB354_347.out; refine skip_ (w1 := ?_) (by rfl) rfl ?_ ?_; rotate_left
       ·go_simp; rfl
       refine hK.out _ _ ?_; clear hK K; refine xt (done_of HT_.out (by kernel_rfl)) ?_
       try go_wp2
       go_roundg k1
       case measure => have := HK1.out; omega
       case rel => exact ⟨(wrap64 (x4_1 + 1)), (y365), (.slice Ao30 y365.length co30), (by first | rfl | (simp; done) | (simp [*]; done)), H', ⟨by have := HK1.out; omega⟩, ⟨by (with_reducible repeat (first | apply Kd.R_alloc | apply Kd.R_drewN | apply Kd.R_drew)); exact Kd.R_mono (Kd.R_far (p := ⟨gb354, 4, none⟩) (Kd.R_types HO_355003.out BK354.out (by decide)) (fun _ hk => hk.2) (.slice Ao30 y365.length co30)) (fun _ hk => trivial)⟩, ⟨by (with_reducible repeat (first | apply Kd.R_alloc | apply Kd.R_drewN | apply Kd.R_drew)); exact Kd.R_mono (Kd.R_far (p := ⟨gb354, 4, none⟩) (Kd.R_mono HO367.out (fun k_ hk => (⟨hk, hk.2.2⟩ : _ ∧ k_ ≠ gb354))) (fun _ hk => hk.2) (.slice Ao30 y365.length co30)) (fun _ hk => ⟨hk.1.1, ⟨hk.1.2.1, hk.1.2.2⟩⟩)⟩, ⟨by (with_reducible repeat (first | refine zg ?_ _ | refine zh ?_ | refine ze ?_ _)); refine zv ?_ NB346_354.out _; (with_reducible repeat (first | refine zg ?_ _ | refine zh ?_ | refine ze ?_ _)); exact BK346.out⟩, ⟨by (with_reducible repeat (first | refine zg ?_ _ | refine zh ?_ | refine ze ?_ _)); refine zv ?_ NB347_354.out _; (with_reducible repeat (first | refine zg ?_ _ | refine zh ?_ | refine ze ?_ _)); exact BK347.out⟩, ⟨by (with_reducible repeat (first | refine zg ?_ _ | refine zh ?_ | refine ze ?_ _)); refine zn (cs := #[.int .i64 a0_0, .int .i64 a0_1, .string a0_2, .slice Ao12 y351.length co12, u355004]) ?_ 4 _ rfl; (with_reducible repeat (first | refine zg ?_ _ | refine zh ?_ | refine ze ?_ _)); exact BK354.out⟩, ⟨by repeat (first | (with_reducible first | exact HB.out | apply zf | apply zc | apply zj | refine zi ?_ GE346.out | refine zi ?_ GE347.out | refine zi ?_ GE354.out) | exact HB.out)⟩⟩
      ·rw [if_neg c21] at H; exact absurd H (by simp)
     ·rw [if_neg c19] at H; exact absurd H (by simp)
    ·rw [if_neg c18] at H; have c18b0 : decide (x4_1 < (l0_4.length : Int)) = false := decide_eq_false c18; clear c18; simp only [Option.some.injEq, Prod.mk.injEq] at H; obtain ⟨rfl, rfl, rfl, rfl, rfl⟩ := H; have hnb32 := NB346_347.out; have hnc32 := NB347_346.out; have hnb33 := NB346_354.out; have hnc33 := NB354_346.out; have hcz34_0 : wr.cell? ⟨gb346, 0, none⟩ = some (.int .i64 a0_0) := (za BK346.out 0).trans rfl; have hcz34_1 : wr.cell? ⟨gb346, 1, none⟩ = some (.int .i64 a0_1) := (za BK346.out 1).trans rfl; have hcz34_2 : wr.cell? ⟨gb346, 2, none⟩ = some (.string a0_2) := (za BK346.out 2).trans rfl; have hcz34_3 : wr.cell? ⟨gb346, 3, none⟩ = some (.slice A0_3 l0_3.length c0_3) := (za BK346.out 3).trans rfl; have hcz34_4 : wr.cell? ⟨gb346, 4, none⟩ = some (.slice A0_4 l0_4.length c0_4) := (za BK346.out 4).trans rfl; have hfz34_0 := zb BK346.out 0; have hfz34_1 := zb BK346.out 1; have hfz34_2 := zb BK346.out 2; have hfz34_3 := zb BK346.out 3; have hfz34_4 := zb BK346.out 4; have hnb35 := NB354_347.out; have hnc35 := NB347_354.out; have hcz36_0 : wr.cell? ⟨gb354, 0, none⟩ = some (.int .i64 a0_0) := (za BK354.out 0).trans rfl; have hcz36_1 : wr.cell? ⟨gb354, 1, none⟩ = some (.int .i64 a0_1) := (za BK354.out 1).trans rfl; have hcz36_2 : wr.cell? ⟨gb354, 2, none⟩ = some (.string a0_2) := (za BK354.out 2).trans rfl; have hcz36_3 : wr.cell? ⟨gb354, 3, none⟩ = some (.slice Ao12 y351.length co12) := (za BK354.out 3).trans rfl; have hcz36_4 : wr.cell? ⟨gb354, 4, none⟩ = some (u355004) := (za BK354.out 4).trans rfl; have hfz36_0 := zb BK354.out 0; have hfz36_1 := zb BK354.out 1; have hfz36_2 := zb BK354.out 2; have hfz36_3 := zb BK354.out 3; have hfz36_4 := zb BK354.out 4; have hcz37_0 : wr.cell? ⟨gb347, 0, none⟩ = some (.int .i64 0) := (za BK347.out 0).trans rfl; have hcz37_1 : wr.cell? ⟨gb347, 1, none⟩ = some (.int .i64 0) := (za BK347.out 1).trans rfl; have hcz37_2 : wr.cell? ⟨gb347, 2, none⟩ = some (.string (⟨#[]⟩ : ByteArray)) := (za BK347.out 2).trans rfl; have hcz37_3 : wr.cell? ⟨gb347, 3, none⟩ = some (.slice none 0 0) := (za BK347.out 3).trans rfl; have hcz37_4 : wr.cell? ⟨gb347, 4, none⟩ = some (.slice none 0 0) := (za BK347.out 4).trans rfl; have hfz37_0 := zb BK347.out 0; have hfz37_1 := zb BK347.out 1; have hfz37_2 := zb BK347.out 2; have hfz37_3 := zb BK347.out 3; have hfz37_4 := zb BK347.out 4; obtain ⟨Ao38, co38, eo38⟩ := Kd.R_slice HO_355004.out; subst eo38
     go_wp2
     refine bodyPost_ret (results_cell_row rfl _ _ gb347 32 #[.int .i64 a0_0, .int .i64 a0_1, .string a0_2, .slice Ao12 y351.length co12, .slice Ao38 x355004_1.length co38] (0, 0) _ rfl (by (with_reducible repeat (first | refine zg ?_ _ | refine zh ?_ | refine ze ?_ _)); refine zn (cs := #[.int .i64 a0_0, .int .i64 a0_1, .string a0_2, .slice Ao12 y351.length co12, .slice none 0 0]) ?_ 4 _ rfl; (with_reducible repeat (first | refine zg ?_ _ | refine zh ?_ | refine ze ?_ _)); refine zn (cs := #[.int .i64 a0_0, .int .i64 a0_1, .string a0_2, .slice none 0 0, .slice none 0 0]) ?_ 3 _ rfl; (with_reducible repeat (first | refine zg ?_ _ | refine zh ?_ | refine ze ?_ _)); refine zn (cs := #[.int .i64 a0_0, .int .i64 a0_1, .string (⟨#[]⟩ : ByteArray), .slice none 0 0, .slice none 0 0]) ?_ 2 _ rfl; (with_reducible repeat (first | refine zg ?_ _ | refine zh ?_ | refine ze ?_ _)); refine zn (cs := #[.int .i64 a0_0, .int .i64 0, .string (⟨#[]⟩ : ByteArray), .slice none 0 0, .slice none 0 0]) ?_ 1 _ rfl; (with_reducible repeat (first | refine zg ?_ _ | refine zh ?_ | refine ze ?_ _)); refine zn (cs := #[.int .i64 0, .int .i64 0, .string (⟨#[]⟩ : ByteArray), .slice none 0 0, .slice none 0 0]) ?_ 0 _ rfl; (with_reducible repeat (first | refine zg ?_ _ | refine zh ?_ | refine ze ?_ _)); exact BK347.out) Tryd.underlying32 rfl (by kernel_rfl)) rfl ?_; exact ⟨_, _, by first | rfl | (simp [zu, zt] <;> rfl) | (simp [*, zu, zt] <;> rfl), by (with_reducible repeat (first | apply Kd.R_alloc | apply Kd.R_drewN | apply Kd.R_drew)); exact Kd.R_mono (Kd.R_far (p := ⟨gb347, 4, none⟩) (Kd.R_far (p := ⟨gb347, 3, none⟩) (Kd.R_far (p := ⟨gb347, 2, none⟩) (Kd.R_far (p := ⟨gb347, 1, none⟩) (Kd.R_far (p := ⟨gb347, 0, none⟩) (Kd.R_types HO_355003.out BK347.out (by decide)) (fun _ hk => hk.2) (.int .i64 a0_0)) (fun _ hk => hk.2) (.int .i64 a0_1)) (fun _ hk => hk.2) (.string a0_2)) (fun _ hk => hk.2) (.slice Ao12 y351.length co12)) (fun _ hk => hk.2) (.slice Ao38 x355004_1.length co38)) (fun _ hk => trivial), by (with_reducible repeat (first | apply Kd.R_alloc | apply Kd.R_drewN | apply Kd.R_drew)); exact Kd.R_mono (Kd.R_far (p := ⟨gb347, 4, none⟩) (Kd.R_far (p := ⟨gb347, 3, none⟩) (Kd.R_far (p := ⟨gb347, 2, none⟩) (Kd.R_far (p := ⟨gb347, 1, none⟩) (Kd.R_far (p := ⟨gb347, 0, none⟩) (Kd.R_mono HO_355004.out (fun k_ hk => (⟨hk, hk.2.1⟩ : _ ∧ k_ ≠ gb347))) (fun _ hk => hk.2) (.int .i64 a0_0)) (fun _ hk => hk.2) (.int .i64 a0_1)) (fun _ hk => hk.2) (.string a0_2)) (fun _ hk => hk.2) (.slice Ao12 y351.length co12)) (fun _ hk => hk.2) (.slice Ao38 x355004_1.length co38)) (fun _ hk => hk.1.1), by repeat (first | (with_reducible first | exact HB.out | apply zf | apply zc | apply zj | refine zi ?_ GE346.out | refine zi ?_ GE347.out | refine zi ?_ GE354.out) | exact HB.out)⟩
 ·rw [if_neg c2] at H; exact absurd H (by simp)
end Go.Proofs.YtceojjlpeacfgaaDoor.PS
namespace Go.Proofs.YtceojjlpeacfgaaDoor.MapV
open Go.RowKit Go.Proofs.YtceojjlpeacfgaaDoorW.PrintWords Go.Proofs.YtceojjlpeacfgaaDoorW.PrintLast Go.Proofs.YtceojjlpeacfgaaDoor.Str
section
variable {P : Program} {k e t : TypeId} {α : Type} {enc : α → Value} {w : World} {b : Nat} {f : List (Bs × α)}
variable {ops : Array Oper} {o : Oper} {a : Act} {Q : Exit → Act → World → Prop} {Kc : Act → World → Prop}
theorem store_mapE_step (hk : P.underlying k = some .string) (ht : P.underlying t = some (.map k e)) (hw : Region.wanted o (yielded ops a.tmps) = true) (hN : o.dst = none) (m x v : Operand) (hop : o.op = Op.mapUpdate t m x v)
  (hm : a.eval m = .map (some b)) (h : MapE P k enc w b f) (hn : f.length < maxLen) {s : ByteArray} {y : α} (hx : a.eval x = .string s) (hs : s.size ≤ maxLen) (hv : a.eval v = enc y)
  (hK : ∀ w', MapE P k enc w' b (mput f (lb s) y) → w.grownBy w' (some b) → Kc a w') : if Region.wanted o (yielded ops a.tmps) = true then Oper.wp P o a w Kc Q else Kc (a.put none undef) w := by
 obtain ⟨w', hrun, r1, r2⟩ := World.ownsMap.update h (Go.Maps.string_keyed hk) ht hn (keyOf_s hk hs) (val := enc y) (d := .held (enc y)) (ps := []) rfl; refine skip_ (w1 := w') hw hN ?_ (hK w' (MapE.of (by rw [ent_put] at r1; exact r1)) r2)
 simp [execOp, hop, hm, hx, hv, hrun, Result.andThen]
end
theorem run_makeHint {P : Program} {t k e : TypeId} (hu : P.underlying t = some (.map k e)) (i : IntKind) (n : Int) (w : World) : (Instr.makeMap t (some (.int i n))).run P w = .ok (.map (some w.heap.size)) (w.alloc (.map #[] 0)) := by
 simp [Instr.makeMap, run_underlying hu, asInt, asIntOf, Result.andThen]
end Go.Proofs.YtceojjlpeacfgaaDoor.MapV
namespace Go.Proofs.YtceojjlpeacfgaaDoor.MapV
open Go.RowKit Go.Proofs.YtceojjlpeacfgaaDoorW.PrintWords Go.Proofs.YtceojjlpeacfgaaDoor.Str
section
variable {α : Type} {key : Bs} {v : α}
theorem lt_asymm {a b : Bs} (h : a < b) : ¬ b < a := fun k => lt_irrefl a (lt_trans h k)
theorem mdel_id {f : List (Bs × α)} (h : ∀ p ∈ f, p.1 ≠ key) : mdel f key = f := List.filter_eq_self.2 (fun p hp => by simpa using h p hp)
theorem mput_lt {y : Bs × α} {r : List (Bs × α)} (h : y.1 < key) : mput (y :: r) key v = y :: mput r key v := by
 have hy : (y.1 == key) = false := by simpa using lt_ne h
 unfold mput
 have : mdel (y :: r) key = y :: mdel r key := by
  unfold mdel
  rw [List.filter_cons, hy]; rfl
 rw [this, mins, if_neg (lt_asymm h)]
theorem mput_gt {f : List (Bs × α)} (hr : ∀ p ∈ f, key < p.1) : mput f key v = (key, v) :: f := by
 unfold mput
 rw [mdel_id (fun p hp => (lt_ne (hr p hp)).symm)]
 cases f with
 | nil => rfl
 | cons z t => rw [mins, if_pos (hr z (by simp))]
theorem mput_ins : ∀ (k : Nat) {f : List (Bs × α)}, Rises f → (∀ (j : Nat) (h : j < f.length), j < k → f[j].1 < key) → k ≤ f.length → (∀ (h : k < f.length), key < f[k].1) → mput f key v = f.take k ++ (key, v) :: f.drop k
 | 0, f, hf, _, _, hg => by
  rw [mput_gt]
  ·rfl
  ·cases f with
   | nil => simp
   | cons y r =>
    have hy : key < y.1 := hg (by simp); obtain ⟨h1, _⟩ := List.pairwise_cons.1 hf; intro p hp
    rcases List.mem_cons.1 hp with rfl | hp
    ·exact hy
    ·exact lt_trans hy (h1 p hp)
 | k + 1, [], _, _, h, _ => by simp at h
 | k + 1, y :: r, hf, hl, h, hg => by
  obtain ⟨_, h2⟩ := List.pairwise_cons.1 hf; have hy : y.1 < key := hl 0 (by simp) (by omega); rw [mput_lt hy, mput_ins k h2 (fun j hj hk => by have := hl (j + 1) (by simp; omega) (by omega); simpa using this) (by simpa using h) (fun hk => by have := hg (by simpa using hk); simpa using this)]; rfl
def fitM (l : List (Bs × α)) : List (Bs × α) := l.foldl (fun f p => mput f p.1 p.2) []
theorem fitM_snoc (l : List (Bs × α)) (p : Bs × α) : fitM (l ++ [p]) = mput (fitM l) p.1 p.2 := by simp [fitM]
theorem fold_length (l : List (Bs × α)) : ∀ (f : List (Bs × α)), (l.foldl (fun f p => mput f p.1 p.2) f).length ≤ f.length + l.length := by
 induction l with
 | nil => intro f; simp
 | cons p r ih =>
  intro f; have h1 := ih (mput f p.1 p.2); have h2 := mput_length f p.1 p.2; simp only [List.foldl_cons, List.length_cons]
  omega
theorem fitM_length (l : List (Bs × α)) : (fitM l).length ≤ l.length := by
 have := fold_length l []
 simpa [fitM] using this
end
end Go.Proofs.YtceojjlpeacfgaaDoor.MapV
namespace Go.Proofs.YtceojjlpeacfgaaDoor.Tr
open Go.RowKit Go.Proofs.YtceojjlpeacfgaaDoorW.PrintWords Go.Proofs.YtceojjlpeacfgaaDoorW.PrintLast Go.Proofs.YtceojjlpeacfgaaDoor.Str Go.Proofs.YtceojjlpeacfgaaDoor.Kit Go.Proofs.YtceojjlpeacfgaaDoor.MapV Go.Proofs.YtceojjlpeacfgaaDoor.Frame Go.Proofs.YtceojjlpeacfgaaDoor.PS
inductive Y where
 | null : Y
 | bool (b : Bool) : Y
 | int (n : Int) : Y
 | text (s : BA) : Y
 | list (l : List Y) : Y
 | map (m : List (Bs × Y)) : Y
def PA (x : Value) (cs : List Value) : Prop := cs = [x] ∧ x.oneCell' = true
theorem PA5 {x : Value} {cs : List Value} (h : PA x cs) : cs.length = 1 := by rw [h.1]; rfl
theorem PA1 {x : Value} {cs : List Value} (h : PA x cs) : ∀ u ∈ cs, u.oneCell' = true := by
 intro u hu; rw [h.1] at hu
 simp at hu
 rw [hu]; exact h.2
abbrev kAny : Kd Value := held 1 PA PA5 PA1
theorem kAny_put {e : Nat} {W : World} {base : Nat} {ok : Nat → Prop} {g n cap : Nat} {xs : List Value} (h : kAny.R e W base ok (.slice (some ⟨g, 0, none⟩) n cap) xs) (i : Nat) (hi : i < n) (x : Value) (hx : x.oneCell' = true) :
  (W.cell? ⟨g, i, none⟩).isSome = true ∧ W.frozen? ⟨g, i, none⟩ = false ∧ kAny.R e (W.setCell ⟨g, i, none⟩ x) base ok (.slice (some ⟨g, 0, none⟩) n cap) (xs.set i x) := by
 have h1 := held_put (h5 := PA5) (h1 := PA1) h i hi x (cs := [x]) ⟨rfl, hx⟩
 have e : W.setCells g (i * 1) [x] = W.setCell ⟨g, i, none⟩ x := by simp [World.setCells]
 rw [e] at h1; have h2 := h1.1 0 (by simp); rw [Nat.mul_one, Nat.add_zero] at h2; exact ⟨h2.1, h2.2, h1.2.1⟩
theorem akey_u : Tryd.prog.underlying 9 = some .string := Tryd.underlying9
theorem amap_u : Tryd.prog.underlying 58 = some (.map 9 20) := Tryd.underlying58
abbrev MapA (w : World) (b : Nat) (f : List (Bs × Value)) : Prop := MapE Tryd.prog 9 id w b f
abbrev En := Value × Y × (Nat → Prop)
def En.far (a b : En) : Prop := ∀ k, a.2.2 k → ¬ b.2.2 k
inductive AR (w : World) : Value → Y → (Nat → Prop) → Prop
 | null (F) : AR w .nilIface .null F
 | bool (b F) : AR w (.iface 4 (.bool b)) (.bool b) F
 | int (n F) : AR w (.iface 3 (.int .i64 n)) (.int n) F
 | text (s F) : AR w (.iface 9 (.string s)) (.text s) F
 | list (v : Value) (zs : List En) (ys : List Y) (F : Nat → Prop) (hy : ys = zs.map (fun z => z.2.1)) (hr : kAny.R 20 w 0 (fun _ => True) v (zs.map (fun z => z.1))) (hz : ∀ z, z ∈ zs → AR w z.1 z.2.1 z.2.2)
   (hd : zs.Pairwise En.far) (hb : ∀ b, v.ownBlock = some b → F b ∧ ∀ z, z ∈ zs → ¬ z.2.2 b) (hF : ∀ z, z ∈ zs → ∀ k, z.2.2 k → F k) : AR w (.iface 57 v) (.list ys) F
 | map (b : Nat) (zs : List (Bs × En)) (ys : List (Bs × Y)) (F : Nat → Prop) (hy : ys = zs.map (fun z => (z.1, z.2.2.1))) (hm : MapA w b (zs.map (fun z => (z.1, z.2.1)))) (hz : ∀ z, z ∈ zs → AR w z.2.1 z.2.2.1 z.2.2.2)
   (hd : zs.Pairwise (fun a b => En.far a.2 b.2)) (hb : F b ∧ ∀ z, z ∈ zs → ¬ z.2.2.2 b) (hF : ∀ z, z ∈ zs → ∀ k, z.2.2.2 k → F k) : AR w (.iface 58 (.map (some b))) (.map ys) F
theorem AR.mono {w : World} {v : Value} {y : Y} {F G : Nat → Prop} (h : AR w v y F) (hFG : ∀ k, F k → G k) : AR w v y G := by
 cases h with
 | null => exact .null _
 | bool => exact .bool _ _
 | int => exact .int _ _
 | text => exact .text _ _
 | list v zs ys _ hy hr hz hd hb hF => exact .list v zs ys G hy hr hz hd (fun b h => ⟨hFG _ (hb b h).1, (hb b h).2⟩) (fun z h k hk => hFG _ (hF z h k hk))
 | map b zs ys _ hy hm hz hd hb hF => exact .map b zs ys G hy hm hz hd ⟨hFG _ hb.1, hb.2⟩ (fun z h k hk => hFG _ (hF z h k hk))
theorem kAny_move {e : Nat} {w w1 : World} {base : Nat} {ok : Nat → Prop} {v : Value} {xs : List Value} (h : kAny.R e w base ok v xs) (hm : ∀ k, v.ownBlock = some k → w1.heap[k]? = w.heap[k]?) : kAny.R e w1 base ok v xs := by
 obtain ⟨h0, inner, ho, hr⟩ := h; exact ⟨h0, inner, own_move ho hm, hr⟩
theorem AR.move {w w1 : World} {v : Value} {y : Y} {F : Nat → Prop} (h : AR w v y F) (hm : ∀ k, F k → w1.heap[k]? = w.heap[k]?) : AR w1 v y F := by
 induction h with
 | null => exact .null _
 | bool => exact .bool _ _
 | int => exact .int _ _
 | text => exact .text _ _
 | list v zs ys F hy hr hz hd hb hF ih =>
  exact .list v zs ys F hy (kAny_move hr (fun k hk => hm k (hb k hk).1)) (fun z h => ih z h (fun k hk => hm k (hF z h k hk))) hd hb hF
 | map b zs ys F hy hmm hz hd hb hF ih =>
  exact .map b zs ys F hy (hmm.move (hm b hb.1)) (fun z h => ih z h (fun k hk => hm k (hF z h k hk))) hd hb hF
theorem AR.tight {w : World} {v : Value} {y : Y} {F : Nat → Prop} (h : AR w v y F) : AR w v y (fun k => F k ∧ k < w.heap.size) := by
 induction h with
 | null => exact .null _
 | bool => exact .bool _ _
 | int => exact .int _ _
 | text => exact .text _ _
 | list v zs ys F hy hr hz hd hb hF ih =>
  let g : En → En := fun z => (z.1, z.2.1, fun k => z.2.2 k ∧ k < w.heap.size)
  refine .list v (zs.map g) ys _ (by rw [hy, List.map_map]; rfl) (by rw [List.map_map]; exact hr) (fun z h => ?_) (hd.map g (fun a b hab k hk hk2 => hab k hk.1 hk2.1)) (fun b hbb => ⟨⟨(hb b hbb).1, (Kd.R_bound hr).1 b hbb |>.2.2.1⟩, fun z h => ?_⟩) (fun z h k hk => ?_)
  ·obtain ⟨z0, h0, rfl⟩ := List.mem_map.1 h; exact ih z0 h0
  ·obtain ⟨z0, h0, rfl⟩ := List.mem_map.1 h
   exact fun hk => (hb b hbb).2 z0 h0 hk.1
  ·obtain ⟨z0, h0, rfl⟩ := List.mem_map.1 h; exact ⟨hF z0 h0 k hk.1, hk.2⟩
 | map b zs ys F hy hmm hz hd hb hF ih =>
  let g : Bs × En → Bs × En := fun z => (z.1, z.2.1, z.2.2.1, fun k => z.2.2.2 k ∧ k < w.heap.size)
  refine .map b (zs.map g) ys _ (by rw [hy, List.map_map]; rfl) (by rw [List.map_map]; exact hmm) (fun z h => ?_) (hd.map g (fun a b hab k hk hk2 => hab k hk.1 hk2.1)) ⟨⟨hb.1, hmm.lt⟩, fun z h => ?_⟩ (fun z h k hk => ?_)
  ·obtain ⟨z0, h0, rfl⟩ := List.mem_map.1 h; exact ih z0 h0
  ·obtain ⟨z0, h0, rfl⟩ := List.mem_map.1 h
   exact fun hk => hb.2 z0 h0 hk.1
  ·obtain ⟨z0, h0, rfl⟩ := List.mem_map.1 h; exact ⟨hF z0 h0 k hk.1, hk.2⟩
theorem AR.keep {w w1 : World} {v : Value} {y : Y} {F : Nat → Prop} (h : AR w v y F) (hb : Below w.heap.size w w1) : AR w1 v y (fun k => F k ∧ k < w.heap.size) := h.tight.move (fun k hk => hb.block k hk.2)
theorem AR.one {w : World} {v : Value} {y : Y} {F : Nat → Prop} (h : AR w v y F) : v.oneCell' = true := by cases h <;> rfl
section
variable {α β : Type}
theorem mput_mem {f : List (Bs × α)} {k : Bs} {v : α} {p : Bs × α} (h : p ∈ mput f k v) : p = (k, v) ∨ p ∈ f := by
 unfold mput at h
 rcases mins_mem.1 h with h | h
 ·exact .inl h
 ·exact .inr (List.mem_filter.1 h).1
theorem mins_pair {R : Bs × α → Bs × α → Prop} (hs : ∀ a b, R a b → R b a) {x : Bs × α} : ∀ {f : List (Bs × α)}, f.Pairwise R → (∀ p ∈ f, R x p) → (mins x f).Pairwise R
 | [], _, _ => by simp [mins]
 | y :: r, h, hx => by
  obtain ⟨h1, h2⟩ := List.pairwise_cons.1 h; rw [mins]
  split
  ·exact List.pairwise_cons.2 ⟨hx, h⟩
  ·refine List.pairwise_cons.2 ⟨fun p hp => ?_, mins_pair hs h2 (fun p hp => hx p (by simp [hp]))⟩
   rcases mins_mem.1 hp with rfl | hp
   ·exact hs _ _ (hx y (by simp))
   ·exact h1 p hp
theorem mput_pair {R : Bs × α → Bs × α → Prop} (hs : ∀ a b, R a b → R b a) {f : List (Bs × α)} {k : Bs} {v : α} (h : f.Pairwise R) (hx : ∀ p ∈ f, R (k, v) p) : (mput f k v).Pairwise R :=
 mins_pair hs (h.sublist List.filter_sublist) (fun p hp => hx p (List.mem_filter.1 hp).1)
theorem mins_map (g : α → β) (x : Bs × α) : ∀ f : List (Bs × α), (mins x f).map (fun p => (p.1, g p.2)) = mins (x.1, g x.2) (f.map (fun p => (p.1, g p.2)))
 | [] => rfl
 | y :: r => by
  rw [mins, List.map_cons, mins]
  by_cases h : x.1 < y.1
  ·rw [if_pos h, if_pos h]; rfl
  ·rw [if_neg h, if_neg h, List.map_cons, mins_map g x r]
theorem mput_map (g : α → β) (f : List (Bs × α)) (k : Bs) (v : α) : (mput f k v).map (fun p => (p.1, g p.2)) = mput (f.map (fun p => (p.1, g p.2))) k (g v) := by
 unfold mput
 rw [mins_map]
 congr 1
 unfold mdel
 rw [List.filter_map]; rfl
end
mutual
def anyOf : VI → Y
 | ⟨k, n, t, ks, vs⟩ => if k = 1 then .bool (n != 0) else if k = 2 then .int n else if k = 3 then .text t else if k = 4 then .list (anyL vs) else if k = 5 then .map (fitM ((ks.map lb).zip (anyL vs))) else .null
def anyL : List VI → List Y
 | [] => []
 | v :: r => anyOf v :: anyL r
end
theorem anyL_map : ∀ vs, anyL vs = vs.map anyOf
 | [] => by simp [anyL]
 | v :: r => by simp [anyL, anyL_map r]
inductive Small : VI → Prop
 | mk (x : VI) (hk : ∀ s, s ∈ x.f3 → s.size ≤ maxLen) (hkl : x.f3.length ≤ 8796093022000) (hvl : x.f4.length ≤ 1759218604400) (hv : ∀ v, v ∈ x.f4 → Small v) : Small x
def pairsOf (ks : List BA) (vs : List VI) : List (Bs × Y) := (ks.map lb).zip (anyL vs)
def mapOf (x : VI) : List (Bs × Y) := fitM (pairsOf x.f3 x.f4)
theorem xz (vs : List VI) : (anyL vs).length = vs.length := by rw [anyL_map, List.length_map]
theorem pairsOf_length (ks : List BA) (vs : List VI) : (pairsOf ks vs).length = min ks.length vs.length := by
 unfold pairsOf
 rw [List.length_zip, List.length_map, xz]
theorem pairsOf_get {ks : List BA} {vs : List VI} {i : Nat} (hk : i < ks.length) (hv : i < vs.length) : (pairsOf ks vs).take (i + 1) = (pairsOf ks vs).take i ++ [(lb ks[i], anyOf vs[i])] := by
 have hl : i < ((ks.map lb).zip (anyL vs)).length := by rw [List.length_zip, List.length_map, xz]; omega
 show ((ks.map lb).zip (anyL vs)).take (i + 1) = ((ks.map lb).zip (anyL vs)).take i ++ [(lb ks[i], anyOf vs[i])]
 rw [List.take_succ_eq_append_getElem hl, List.getElem_zip]
 simp [anyL_map]
def Made (w : World) (y : Y) (e : Ending) (w' : World) : Prop := ∃ v, e = .returned v ∧ AR w' v y (fun k => w.heap.size ≤ k ∧ k < w'.heap.size) ∧ Below w.heap.size w w'
structure MapAt (wr : World) (b : Nat) (zs : List (Bs × En)) (m : List (Bs × Y)) : Prop where
 hm : MapA wr b (zs.map (fun z => (z.1, z.2.1)))
 hz : ∀ z, z ∈ zs → AR wr z.2.1 z.2.2.1 z.2.2.2
 hd : zs.Pairwise (fun a b => En.far a.2 b.2)
 hF : ∀ z, z ∈ zs → ∀ k, z.2.2.2 k → b < k ∧ k < wr.heap.size
 hy : zs.map (fun z => (z.1, z.2.2.1)) = m
theorem MapAt.made (w : World) : MapAt (w.alloc (.map #[] 0)) w.heap.size [] [] := ⟨MapE.made Tryd.prog 9 (id : Value → Value) w, fun z h => by simp at h, List.Pairwise.nil, fun z h => by simp at h, rfl⟩
theorem MapAt.lt {wr : World} {b : Nat} {zs : List (Bs × En)} {m : List (Bs × Y)} (h : MapAt wr b zs m) : b < wr.heap.size := h.hm.lt
theorem MapAt.move {wr w1 : World} {b : Nat} {zs : List (Bs × En)} {m : List (Bs × Y)} (h : MapAt wr b zs m) (hb : Below wr.heap.size wr w1) : MapAt w1 b zs m :=
 ⟨h.hm.below hb, fun z hz => (h.hz z hz).move (fun k hk => hb.block k (h.hF z hz k hk).2), h.hd, fun z hz k hk => ⟨(h.hF z hz k hk).1, Nat.lt_of_lt_of_le (h.hF z hz k hk).2 hb.size⟩, h.hy⟩
theorem MapAt.drew {wr : World} {b : Nat} {zs : List (Bs × En)} {m : List (Bs × Y)} (h : MapAt wr b zs m) : MapAt wr.drew b zs m := h.move (yi (Below.refl _ _))
theorem MapAt.put {W w3 w4 : World} {b : Nat} {zs : List (Bs × En)} {m : List (Bs × Y)} (h : MapAt W b zs m) (hb3 : Below W.heap.size W w3) {v : Value} {y : Y} (hA : AR w3 v y (fun k => W.heap.size ≤ k ∧ k < w3.heap.size)) (key : Bs)
  (hm4 : MapA w4 b (mput (zs.map (fun z => (z.1, z.2.1))) key v)) (hg : w3.grownBy w4 (some b)) : MapAt w4 b (mput zs key (v, y, fun k => W.heap.size ≤ k ∧ k < w3.heap.size)) (mput m key y) := by
 have hlt := h.lt
 have mv : ∀ {v y F}, AR w3 v y F → (∀ k, F k → b < k ∧ k < w3.heap.size) → AR w4 v y F := fun hA hF => hA.move (fun k hk => hg.block k (hF k hk).2 (fun e => by injection e with e; have := (hF k hk).1; omega))
 have h3 := h.move hb3; refine ⟨?_, fun z hz => ?_, ?_, fun z hz k hk => ?_, ?_⟩
 ·rw [mput_map (fun e : En => e.1)]; exact hm4
 ·rcases mput_mem hz with rfl | hz
  ·exact mv hA (fun k hk => ⟨by omega, hk.2⟩)
  ·exact mv (h3.hz z hz) (h3.hF z hz)
 ·refine mput_pair (fun a b hab k hk hk2 => hab k hk2 hk) h.hd (fun p hp k hk hk2 => ?_); have h1 := (h.hF p hp k hk2).2; have h2 : W.heap.size ≤ k := hk.1
  omega
 ·rcases mput_mem hz with rfl | hz
  ·have h2 : W.heap.size ≤ k := hk.1; have h3 : k < w3.heap.size := hk.2; have := hg.size; exact ⟨by omega, by omega⟩
  ·have h5 := h3.hF z hz k hk; have := hg.size; exact ⟨h5.1, by omega⟩
 ·rw [mput_map (fun e : En => e.2.1), ← h.hy]
theorem MapAt.done {wr : World} {b : Nat} {zs : List (Bs × En)} {m : List (Bs × Y)} (h : MapAt wr b zs m) : AR wr (.iface 58 (.map (some b))) (.map m) (fun k => b ≤ k ∧ k < wr.heap.size) :=
 .map b zs m _ h.hy.symm h.hm h.hz h.hd ⟨⟨Nat.le_refl _, h.lt⟩, fun z hz hk => by have := (h.hF z hz b hk).1; omega⟩ (fun z hz k hk => ⟨Nat.le_of_lt (h.hF z hz k hk).1, (h.hF z hz k hk).2⟩)
theorem MapAt.length {wr : World} {b : Nat} {zs : List (Bs × En)} {m : List (Bs × Y)} (h : MapAt wr b zs m) : (zs.map (fun z => (z.1, z.2.1))).length = m.length := by rw [← h.hy, List.length_map, List.length_map]
def ToAnyAt (x : VI) : Prop := ∀ (A3 A4 : Option Addr) (c3 c4 : Nat) (w : World), x.f3.length ≤ c3 → Kd.string.C w A3 x.f3.length x.f3 → x.f4.length ≤ c4 → kI.C w A4 x.f4.length x.f4 →
  Calls Tryd.prog 21 #[.agg #[.int .i64 x.f0, .int .i64 x.f1, .string x.f2, .slice A3 x.f3.length c3, .slice A4 x.f4.length c4]] w (Made w (anyOf x))
set_option maxHeartbeats 6400000 in
set_option maxRecDepth 100000 in
theorem toMap_of (kd nm : Int) (t : BA) (ks : List BA) (vs : List VI) (hks : ∀ s, s ∈ ks → s.size ≤ maxLen) (hkl : ks.length ≤ 8796093022000) (hvl : vs.length ≤ 1759218604400) (hch : ∀ v, v ∈ vs → ToAnyAt v) (A3 A4 : Option Addr) (c3 c4 : Nat) (w : World) (hk : Kd.string.C w A3 ks.length ks) (hv : kI.C w A4 vs.length vs) :
  Calls Tryd.prog 30 #[.agg #[.int .i64 kd, .int .i64 nm, .string t, .slice A3 ks.length c3, .slice A4 vs.length c4]] w fun e w' => ∃ b, e = .returned (.map (some b)) ∧ AR w' (.iface 58 (.map (some b))) (.map (fitM (pairsOf ks vs))) (fun k => w.heap.size ≤ k ∧ k < w'.heap.size) ∧ Below w.heap.size w w' := by
 have HC := aM hch; have HK := aM hk; have HV := aM hv; have HKS := aM hks
 have hmm := fun (n : Int) (w : World) => run_makeHint (P := Tryd.prog) amap_u .i64 n w
 have hbx := zf (Below.refl w.heap.size w) (.cells #[.int .i64 kd, .int .i64 nm, .string t, .slice A3 ks.length c3, .slice A4 vs.length c4] 32); have HB0 := aM (zf hbx (.map #[] 0)); have HX0 := aM (show ((w.alloc (.cells #[.int .i64 kd, .int .i64 nm, .string t, .slice A3 ks.length c3, .slice A4 vs.length c4] 32)).alloc (.map #[] 0)).heap[w.heap.size]? = some (.cells #[.int .i64 kd, .int .i64 nm, .string t, .slice A3 ks.length c3, .slice A4 vs.length c4] 32 (0, 0)) from ze (xb _ _) _); have hm0 := MapAt.made (w.alloc (.cells #[.int .i64 kd, .int .i64 nm, .string t, .slice A3 ks.length c3, .slice A4 vs.length c4] 32)); rw [World.size_alloc] at hm0; have HM0 := aM hm0; have HT0 := aM (show fitM ((pairsOf ks vs).take 0) = [] from rfl); clear hch hk hv hks hbx hm0
 go_enter Tryd.func30, Tryd.ntmps30
 go_wp2
 go_loopw [4] (fun v4 wr => ∃ i : Nat, v4 = .int .i64 i ∧ i ≤ ks.length ∧ i ≤ vs.length ∧ Aside0 (∃ zs, MapAt wr (w.heap.size + 1) zs (fitM ((pairsOf ks vs).take i))) ∧ Aside0 (Below w.heap.size w wr) ∧ Aside0 (wr.heap[w.heap.size]? = some (.cells #[.int .i64 kd, .int .i64 nm, .string t, .slice A3 ks.length c3, .slice A4 vs.length c4] 32 (0, 0)))) (fun v4 _ => ks.length - (intOf v4).toNat)
 case atStart => exact ⟨0, rfl, by omega, by omega, ⟨[], HM0.out⟩, HB0, HX0⟩
 case round =>
  clear HM0 HB0 HX0 HT0; obtain ⟨i, rfl, hik, hiv, HM, HB, HX⟩ := hrel; have x3 := zz (i := 3) HX.out rfl; have x4 := zz (i := 4) HX.out rfl
  have q0 : (0 : Int) ≤ (i : Int) := by omega
  by_cases hlk : i < ks.length
  ·by_cases hlv : i < vs.length
   ·have q1 : (i : Int) < (ks.length : Int) := by omega
    have q2 : (i : Int) < (vs.length : Int) := by omega
    have d1 : decide ((i : Int) < (ks.length : Int)) = true := decide_eq_true q1; have d2 : decide ((i : Int) < (vs.length : Int)) = true := decide_eq_true q2; obtain ⟨kb, ko, rfl, hkb, hkc⟩ := strs_open HK.out (by omega); obtain ⟨vb, vo, rfl, hvb, hvc⟩ := kI_at HV.out (by omega); have k0 := hkc i hlk; obtain ⟨B3, d3, B4, d4, e0, e1, e2, e3, e4, l3, g3, l4, g4⟩ := hvc i hlv; have HCH := aM (HC.out vs[i] (List.getElem_mem hlv)); have HKZ := aM (HKS.out ks[i] (List.getElem_mem hlk)); have HTK := aM (pairsOf_get hlk hlv); have HG := aM (And.intro l3 (And.intro g3 (And.intro l4 g4))); have n0 : wr.drew.cell? ⟨kb, ko + i, none⟩ = some (.string ks[i]) := zk HB.out k0; have y0 : wr.drew.cell? ⟨vb, vo + i * 5, none⟩ = some (.int .i64 vs[i].f0) := zk HB.out e0; have y1 : wr.drew.cell? ⟨vb, vo + i * 5 + 1, none⟩ = some (.int .i64 vs[i].f1) := zk HB.out e1; have y2 : wr.drew.cell? ⟨vb, vo + i * 5 + 2, none⟩ = some (.string vs[i].f2) := zk HB.out e2; have y3 : wr.drew.cell? ⟨vb, vo + i * 5 + 3, none⟩ = some (.slice B3 vs[i].f3.length d3) := zk HB.out e3; have y4 : wr.drew.cell? ⟨vb, vo + i * 5 + 4, none⟩ = some (.slice B4 vs[i].f4.length d4) := zk HB.out e4; have z3 : wr.drew.cell? ⟨w.heap.size, 3, none⟩ = some (.slice (some ⟨kb, ko, none⟩) ks.length c3) := x3; have z4 : wr.drew.cell? ⟨w.heap.size, 4, none⟩ = some (.slice (some ⟨vb, vo, none⟩) vs.length c4) := x4; have CA := aM (fun (W : World) (hb : Below w.heap.size w W) => HCH.out B3 B4 d3 d4 W HG.out.1 (Kd.C_below HG.out.2.1 hb) HG.out.2.2.1 (Kd.C_below HG.out.2.2.2 hb)); clear hkc hvc k0 e0 e1 e2 e3 e4 l3 g3 l4 g4 HCH HG; generalize ks[i] = key at n0 HTK HKZ; generalize vs[i] = v at y0 y1 y2 y3 y4 HTK CA; obtain ⟨x0, x1, x2, x3_, x4_⟩ := v
    obtain ⟨f, hf⟩ : ∃ f, fitM ((pairsOf ks vs).take i) = f := ⟨_, rfl⟩
    have HF := aM (show fitM ((pairsOf ks vs).take (i + 1)) = mput f (lb key) (anyOf ⟨x0, x1, x2, x3_, x4_⟩) by rw [HTK.out, fitM_snoc, hf])
    have hfl : f.length ≤ i := by
     rw [← hf]; exact Nat.le_trans (fitM_length _) (List.length_take_le _ _)
    rw [hf] at HM; clear hf HTK; generalize anyOf ⟨x0, x1, x2, x3_, x4_⟩ = yv at CA HF
    go_wp2_with fail
    refine xl (n := 13) (S := fun w' => w'.cell? ⟨w.heap.size, 3, none⟩ = some (.slice (some ⟨kb, ko, none⟩) ks.length c3) ∧ w'.cell? ⟨w.heap.size, 4, none⟩ = some (.slice (some ⟨vb, vo, none⟩) vs.length c4) ∧ w'.cell? ⟨kb, ko + i, none⟩ = some (.string key) ∧ w'.cell? ⟨vb, vo + i * 5, none⟩ = some (.int .i64 x0) ∧ w'.cell? ⟨vb, vo + i * 5 + 1, none⟩ = some (.int .i64 x1) ∧ w'.cell? ⟨vb, vo + i * 5 + 2, none⟩ = some (.string x2) ∧ w'.cell? ⟨vb, vo + i * 5 + 3, none⟩ = some (.slice B3 x3_.length d3) ∧ w'.cell? ⟨vb, vo + i * 5 + 4, none⟩ = some (.slice B4 x4_.length d4)) (ds := [12]) (bZ 13 0) (by kernel_rfl) rfl rfl ⟨z3, z4, n0, y0, y1, y2, y3, y4⟩ (fun hHeld => ?_); refine pU 0 (some 23) (bZ 13 1) rfl (by kernel_rfl) ?_; refine pU 1 (some 24) (bZ 13 3) rfl (by kernel_rfl) ?_; refine pU 3 (some 26) (bZ 13 11) rfl (by kernel_rfl) ?_; refine pU 6 (some 29) (bZ 13 75) rfl (by kernel_rfl) ?_; refine pU 8 (some 31) (bZ 13 331) rfl (by kernel_rfl) ?_; refine tU 2 (some 25) (bZ 13 335) rfl (by kernel_rfl) (Or.inl ⟨by rfl, by rintro w' ⟨s0, s1, s2, s3, s4, s5, s6, s7⟩; go_simp; with_reducible rfl⟩) hHeld ?_; refine pU 4 (some 27) (bZ 13 351) rfl (by kernel_rfl) ?_; refine tU 5 (some 28) (bZ 13 383) rfl (by kernel_rfl) (Or.inl ⟨by rfl, by rintro w' ⟨s0, s1, s2, s3, s4, s5, s6, s7⟩; go_simp; with_reducible rfl⟩) hHeld ?_; refine tU 7 (some 30) (bZ 13 511) rfl (by kernel_rfl) (Or.inl ⟨by rfl, by rintro w' ⟨s0, s1, s2, s3, s4, s5, s6, s7⟩; go_simp; with_reducible rfl⟩) hHeld ?_; refine pU 9 (some 32) (bZ 13 1023) rfl (by kernel_rfl) ?_; refine tU 10 (some 33) (bZ 13 2047) rfl (by kernel_rfl) (Or.inl ⟨by rfl, by rintro w' ⟨s0, s1, s2, s3, s4, s5, s6, s7⟩; go_simp; with_reducible rfl⟩) hHeld ?_; refine one_ (i := 11) (N := some 34) (bZ 13 4095) rfl rfl (by kernel_rfl) (by decide) (fun K hK => ?_); refine goes_ Tryd.func21 (by kernel_rfl) rfl #[.agg #[.int .i64 x0, .int .i64 x1, .string x2, .slice B3 x3_.length d3, .slice B4 x4_.length d4]] (by rfl) rfl rfl (by simp only [List.map_toArray, List.map_cons, List.map_nil]; rfl) ?_
    with_reducible refine (CA.out wr.drew (yi HB.out)).mono ?_
    rintro e w3 ⟨v3, rfl, ha3, hb3⟩; refine ⟨_, rfl, ?_⟩; have HB3 := aM hb3; have HA3 := aM ha3; have HX3 := aM ((hb3.block _ (yd (show wr.drew.heap[w.heap.size]? = _ from HX.out))).trans (show wr.drew.heap[w.heap.size]? = _ from HX.out)); clear ha3; refine hK.out _ _ ⟨zk hb3 hHeld.1, zk hb3 hHeld.2.1, zk hb3 hHeld.2.2.1, zk hb3 hHeld.2.2.2.1, zk hb3 hHeld.2.2.2.2.1, zk hb3 hHeld.2.2.2.2.2.1, zk hb3 hHeld.2.2.2.2.2.2.1, zk hb3 hHeld.2.2.2.2.2.2.2⟩ (fun hHeld => ?_); clear hK K; refine zx (a' := ?_) ?_ ?_; rotate_left
    ·show Act.put _ (some 34) _ = _
     simp only [Act.put, sA, sB, sC, yb, yc]; rfl
    refine xo (i := 12) (N := none) (bZ 13 8191) rfl rfl (by kernel_rfl) (by decide) (fun K hK => ?_); obtain ⟨zs, hzs⟩ := HM.out; have hlen := hzs.length; refine store_mapE_step (enc := (id : Value → Value)) (y := v3) akey_u amap_u rfl rfl _ _ _ rfl rfl ((hzs.drew.move HB3.out).hm) (by rw [hlen]; unfold maxLen; omega) rfl HKZ.out rfl ?_; intro w4 hm4 hg4; have HM4 := aM (hzs.drew.put HB3.out HA3.out (lb key) hm4 hg4); have HG4 := aM hg4; clear hm4 hg4 hzs hlen; refine hK.out _ _ ?_; clear hK K; refine xt (by kernel_rfl) ?_
    go_wp2
    go_roundw
    case rel =>
     refine ⟨i + 1, by go_num, by omega, by omega, ⟨⟨_, by rw [HF.out]; exact HM4.out⟩⟩, ⟨?_⟩, ⟨?_⟩⟩
     ·exact yk (yp (yi HB.out) HB3.out) _ (yp (yi HB.out) HB3.out).size HG4.out (fun k hk => by injection hk with hk; omega)
     ·exact (HG4.out.block _ (yd HX3.out) (fun e => by injection e with e; omega)).trans HX3.out
    case measure => simp [intOf]; omega
   ·have d1 : decide ((i : Int) < (ks.length : Int)) = true := decide_eq_true (by omega); have d2 : decide ((i : Int) < (vs.length : Int)) = false := decide_eq_false (by omega); have HTK := aM (show (pairsOf ks vs).take i = pairsOf ks vs from List.take_of_length_le (by rw [pairsOf_length]; omega))
    go_wp2
    go_ret
    obtain ⟨zs, hzs⟩ := HM.out; rw [HTK.out] at hzs; exact ⟨_, rfl, hzs.done.mono (fun k hk => ⟨by have := hk.1; omega, hk.2⟩), HB.out⟩
  ·have d1 : decide ((i : Int) < (ks.length : Int)) = false := decide_eq_false (by omega); have HTK := aM (show (pairsOf ks vs).take i = pairsOf ks vs from List.take_of_length_le (by rw [pairsOf_length]; omega))
   go_wp2
   go_ret
   obtain ⟨zs, hzs⟩ := HM.out; rw [HTK.out] at hzs; exact ⟨_, rfl, hzs.done.mono (fun k hk => ⟨by have := hk.1; omega, hk.2⟩), HB.out⟩
theorem info_any : (Tryd.prog.info? 20).map (fun i => (i.zero, i.size, i.bytes)) = some (some .nilIface, 1, 16) := by kernel_rfl
def noEn : En := (.nilIface, .null, fun _ => False)
structure ListAt (wr : World) (b n : Nat) (zs : List En) : Prop where
 hr : kAny.R 20 wr 0 (fun _ => True) (.slice (some ⟨b, 0, none⟩) n n) (zs.map (fun z => z.1))
 hz : ∀ z, z ∈ zs → AR wr z.1 z.2.1 z.2.2
 hd : zs.Pairwise En.far
 hF : ∀ z, z ∈ zs → ∀ k, z.2.2 k → b < k ∧ k < wr.heap.size
theorem ListAt.length {wr : World} {b n : Nat} {zs : List En} (h : ListAt wr b n zs) : zs.length = n := by
 have := (Kd.R_reads' h.hr).1; rw [List.length_map] at this; exact this.symm
theorem ListAt.lt {wr : World} {b n : Nat} {zs : List En} (h : ListAt wr b n zs) : b < wr.heap.size := ((Kd.R_bound h.hr).1 b (by simp [Value.ownBlock])).2.2.1
theorem ListAt.move {wr w1 : World} {b n : Nat} {zs : List En} (h : ListAt wr b n zs) (hb : Below wr.heap.size wr w1) : ListAt w1 b n zs :=
 ⟨Kd.R_below h.hr hb, fun z hz => (h.hz z hz).move (fun k hk => hb.block k (h.hF z hz k hk).2), h.hd, fun z hz k hk => ⟨(h.hF z hz k hk).1, Nat.lt_of_lt_of_le (h.hF z hz k hk).2 hb.size⟩⟩
theorem set_pair {R : En → En → Prop} (hs : ∀ a b, R a b → R b a) {x : En} : ∀ {zs : List En} (i : Nat), zs.Pairwise R → (∀ z ∈ zs, R x z) → (zs.set i x).Pairwise R
 | [], _, h, _ => h
 | y :: r, 0, h, hx => List.pairwise_cons.2 ⟨fun z hz => hx z (by simp [hz]), (List.pairwise_cons.1 h).2⟩
 | y :: r, i + 1, h, hx => by
  obtain ⟨h1, h2⟩ := List.pairwise_cons.1 h; rw [List.set_cons_succ]; refine List.pairwise_cons.2 ⟨fun z hz => ?_, set_pair hs i h2 (fun z hz => hx z (by simp [hz]))⟩
  rcases List.mem_or_eq_of_mem_set hz with hz | rfl
  ·exact h1 z hz
  ·exact hs _ _ (hx y (by simp))
theorem ListAt.put {W w3 : World} {b n : Nat} {zs : List En} (h : ListAt W b n zs) (hb3 : Below W.heap.size W w3) {v : Value} {y : Y} (hA : AR w3 v y (fun k => W.heap.size ≤ k ∧ k < w3.heap.size)) (i : Nat) (hi : i < n) :
  ListAt (w3.setCell ⟨b, i, none⟩ v) b n (zs.set i (v, y, fun k => W.heap.size ≤ k ∧ k < w3.heap.size)) := by
 have hlt := h.lt; have h3 := h.move hb3
 have hsz : (w3.setCell ⟨b, i, none⟩ v).heap.size = w3.heap.size := by simp
 have hg : w3.grownBy (w3.setCell ⟨b, i, none⟩ v) (some b) := yg w3 b i v
 have mv : ∀ {v' y F}, AR w3 v' y F → (∀ k, F k → b < k ∧ k < w3.heap.size) → AR (w3.setCell ⟨b, i, none⟩ v) v' y F := fun hA hF => hA.move (fun k hk => hg.block k (hF k hk).2 (fun e => by injection e with e; have := (hF k hk).1; omega))
 refine ⟨?_, fun z hz => ?_, ?_, fun z hz k hk => ?_⟩
 ·rw [List.map_set]; exact (kAny_put h3.hr i hi v hA.one).2.2
 ·rcases List.mem_or_eq_of_mem_set hz with hz | rfl
  ·exact mv (h3.hz z hz) (h3.hF z hz)
  ·exact mv hA (fun k hk => ⟨by omega, hk.2⟩)
 ·refine set_pair (fun a b hab k hk hk2 => hab k hk2 hk) i h.hd (fun z hz k hk hk2 => ?_); have h1 := (h.hF z hz k hk2).2; have h2 : W.heap.size ≤ k := hk.1
  omega
 ·rw [hsz]
  rcases List.mem_or_eq_of_mem_set hz with hz | rfl
  ·exact h3.hF z hz k hk
  ·have h2 : W.heap.size ≤ k := hk.1; exact ⟨by omega, hk.2⟩
theorem ListAt.done {wr : World} {b n : Nat} {zs : List En} {l : List Y} (h : ListAt wr b n zs) (hl : zs.map (fun z => z.2.1) = l) : AR wr (.iface 57 (.slice (some ⟨b, 0, none⟩) n n)) (.list l) (fun k => b ≤ k ∧ k < wr.heap.size) :=
 .list _ zs l _ hl.symm h.hr h.hz h.hd (fun b' hb' => by
  have : b = b' := by simpa [Value.ownBlock] using hb'
  subst this
  exact ⟨⟨Nat.le_refl _, h.lt⟩, fun z hz hk => by have := (h.hF z hz b hk).1; omega⟩) (fun z hz k hk => ⟨Nat.le_of_lt (h.hF z hz k hk).1, (h.hF z hz k hk).2⟩)
theorem ListAt.made (w : World) (n : Nat) (hn : n ≤ 1759218604400) : ListAt (w.alloc (.cells (madeCells #[.nilIface] n) 20)) w.heap.size n (List.replicate n noEn) := by
 refine ⟨?_, fun z hz => ?_, ?_, fun z hz k hk => ?_⟩
 ·have e : (List.replicate n noEn).map (fun z => z.1) = List.replicate n Value.nilIface := by rw [List.map_replicate]; rfl
  rw [e]; refine ⟨fun _ _ => trivial, List.replicate n Value.nilIface, ⟨by simp [held], .inr ⟨w.heap.size, n, madeCells #[.nilIface] n, by simp, Nat.zero_le _, xb _ _, by simp, by unfold maxLen; omega, by simp [held, size_madeCells], ?_⟩⟩, by simp [held], fun j p hp => ?_⟩
  ·show (madeCells #[.nilIface] n).toList.take ((List.replicate n Value.nilIface).length * 1) = List.replicate n Value.nilIface
   rw [List.length_replicate, Nat.mul_one]
   apply List.ext_getElem?
   intro j
   by_cases hj : j < n
   ·rw [List.getElem?_take_of_lt hj, Array.getElem?_toList]
    simp [madeCells, hj, Nat.mod_one]
   ·rw [List.getElem?_take_eq_none (by omega), List.getElem?_eq_none (by simp; omega)]
  ·obtain ⟨hj, rfl⟩ := List.getElem?_eq_some_iff.1 hp
   have hj' : j < n := by simpa using hj
   show ((List.replicate n Value.nilIface).drop (j * 1)).take 1 = [(List.replicate n Value.nilIface)[j]] ∧ _
   rw [List.getElem_replicate, Nat.mul_one, List.drop_replicate, List.take_replicate, show min 1 (n - j) = 1 by omega]; exact ⟨rfl, rfl⟩
 ·rw [List.eq_of_mem_replicate hz]; exact .null _
 ·exact List.pairwise_replicate.2 (.inr (fun k hk => hk.elim))
 ·rw [List.eq_of_mem_replicate hz] at hk; exact hk.elim
def saidTo (l : List Y) (i n : Nat) : List Y := l.take i ++ List.replicate (n - i) .null
theorem saidTo_set (l : List Y) (i n : Nat) (hi : i < n) (hl : l.length = n) : (saidTo l i n).set i (l[i]'(by omega)) = saidTo l (i + 1) n := by
 unfold saidTo
 have h1 : (l.take i).length = i := by rw [List.length_take]; omega
 rw [List.set_append_right _ _ (by omega), h1, Nat.sub_self]
 obtain ⟨m, hm⟩ : ∃ m, n - i = m + 1 := ⟨n - i - 1, by omega⟩
 rw [hm, List.replicate_succ, List.set_cons_zero, List.take_succ_eq_append_getElem (by omega), show n - (i + 1) = m by omega, List.append_assoc]; rfl
set_option maxHeartbeats 6400000 in
set_option maxRecDepth 100000 in
theorem toAny_list (nm : Int) (t : BA) (ks : List BA) (vs : List VI) (hvl : vs.length ≤ 1759218604400) (hch : ∀ v, v ∈ vs → ToAnyAt v) (A3 A4 : Option Addr) (c3 c4 : Nat) (w : World) (hv : kI.C w A4 vs.length vs) :
  Calls Tryd.prog 21 #[.agg #[.int .i64 4, .int .i64 nm, .string t, .slice A3 ks.length c3, .slice A4 vs.length c4]] w (Made w (.list (anyL vs))) := by
 have HC := aM hch; have HV := aM hv
 have hmk := fun W => run_make_row' (P := Tryd.prog) 57 20 .nilIface 16 Tryd.underlying57 info_any rfl .i64 .i64 vs.length (by omega) (by omega) W
 have hbx := zf (Below.refl w.heap.size w) (.cells #[.int .i64 4, .int .i64 nm, .string t, .slice A3 ks.length c3, .slice A4 vs.length c4] 32); have HB0 := aM (zf hbx (.cells (madeCells #[.nilIface] vs.length) 20)); have HX0 := aM (show ((w.alloc (.cells #[.int .i64 4, .int .i64 nm, .string t, .slice A3 ks.length c3, .slice A4 vs.length c4] 32)).alloc (.cells (madeCells #[.nilIface] vs.length) 20)).heap[w.heap.size]? = some (.cells #[.int .i64 4, .int .i64 nm, .string t, .slice A3 ks.length c3, .slice A4 vs.length c4] 32 (0, 0)) from ze (xb _ _) _); have hm0 := ListAt.made (w.alloc (.cells #[.int .i64 4, .int .i64 nm, .string t, .slice A3 ks.length c3, .slice A4 vs.length c4] 32)) vs.length hvl; rw [World.size_alloc] at hm0; have HM0 := aM hm0; have HT0 := aM (show (List.replicate vs.length noEn).map (fun z => z.2.1) = saidTo (anyL vs) 0 vs.length from by rw [List.map_replicate]; rfl)
 have hc : ∀ W : World, W = W := fun _ => rfl
 clear hch hv hbx hm0 hc
 go_enter Tryd.func21, Tryd.ntmps21
 go_wp2
 go_loopw [32, 4] (fun v32 v4 wr => ∃ i : Nat, v32 = .int .i64 i ∧ i ≤ vs.length ∧ Aside0 (∃ zs, ListAt wr (w.heap.size + 1) vs.length zs ∧ zs.map (fun z => z.2.1) = saidTo (anyL vs) i vs.length) ∧ Aside0 (Below w.heap.size w wr) ∧ Aside0 (wr.heap[w.heap.size]? = some (.cells #[.int .i64 4, .int .i64 nm, .string t, .slice A3 ks.length c3, .slice A4 vs.length c4] 32 (0, 0)))) (fun v32 _ _ => vs.length - (intOf v32).toNat)
 case atStart => exact ⟨0, rfl, by omega, ⟨_, HM0.out, HT0.out⟩, HB0, HX0⟩
 case round =>
  clear HM0 HB0 HX0 HT0; obtain ⟨i, rfl, hiv, HM, HB, HX⟩ := hrel; have x4 := zz (i := 4) HX.out rfl
  have q0 : (0 : Int) ≤ (i : Int) := by omega
  by_cases hlv : i < vs.length
  ·have q2 : (i : Int) < (vs.length : Int) := by omega
   obtain ⟨vb, vo, rfl, hvb, hvc⟩ := kI_at HV.out (by omega); obtain ⟨B3, d3, B4, d4, e0, e1, e2, e3, e4, l3, g3, l4, g4⟩ := hvc i hlv; have HCH := aM (HC.out vs[i] (List.getElem_mem hlv)); have HG := aM (And.intro l3 (And.intro g3 (And.intro l4 g4))); have y0 := zk HB.out e0; have y1 := zk HB.out e1; have y2 := zk HB.out e2; have y3 := zk HB.out e3; have y4 := zk HB.out e4; have CA := aM (fun (W : World) (hb : Below w.heap.size w W) => HCH.out B3 B4 d3 d4 W HG.out.1 (Kd.C_below HG.out.2.1 hb) HG.out.2.2.1 (Kd.C_below HG.out.2.2.2 hb)); have HST := aM (saidTo_set (anyL vs) i vs.length hlv (xz vs)); have HGE := aM (show (anyL vs)[i]'(by rw [xz]; exact hlv) = anyOf vs[i] by simp [anyL_map]); clear hvc e0 e1 e2 e3 e4 l3 g3 l4 g4 HCH HG; generalize vs[i] = v at y0 y1 y2 y3 y4 HGE CA; obtain ⟨x0, x1, x2, x3_, x4_⟩ := v; generalize anyOf ⟨x0, x1, x2, x3_, x4_⟩ = yv at CA HGE
   go_wp2_with fail
   refine (CA.out wr HB.out).mono ?_; rintro e w3 ⟨v3, rfl, ha3, hb3⟩; have HB3 := aM hb3; have HA3 := aM ha3; have HX3 := aM ((hb3.block _ (yd HX.out)).trans HX.out); obtain ⟨zs, hzs, hsaid⟩ := HM.out; have HZS := aM hzs; have HSD := aM hsaid; have hzt := kAny_put (hzs.move hb3).hr i hlv v3 ha3.one
   have hst : (storeCells ⟨w.heap.size + 1, i, none⟩ [v3]).run Tryd.prog w3 = .ok () (w3.setCell ⟨w.heap.size + 1, i, none⟩ v3) := by
    have := run_storeCells_cells (P := Tryd.prog) (w.heap.size + 1) i [v3] 0 w3 (fun j hj => by
     have : j = 0 := by simpa using hj
     subst this
     exact hzt.1) (fun j hj => by
     have : j = 0 := by simpa using hj
     subst this
     exact hzt.2.1) (fun u hu => by
     have : u = v3 := by simpa using hu
     rw [this]
     exact ha3.one)
    simpa [World.setCells] using this
   clear hb3 ha3 hzs hsaid hzt
   go_wp2
   rw [hst]
   go_wp2
   go_roundw
   case rel =>
    have hp := HZS.out.put HB3.out HA3.out i hlv; refine ⟨i + 1, by go_num, by omega, ⟨⟨_, hp, ?_⟩⟩, ⟨?_⟩, ⟨?_⟩⟩
    ·rw [List.map_set, HSD.out, ← HST.out, HGE.out]
    ·exact (yp HB.out HB3.out).setCell (by show w.heap.size ≤ w.heap.size + 1; omega) _
    ·exact (Below.heap_setCell w3 ⟨w.heap.size + 1, i, none⟩ v3 _ (by show w.heap.size ≠ w.heap.size + 1; omega)).trans HX3.out
   case measure => simp [intOf]; omega
  ·have HTK := aM (show saidTo (anyL vs) i vs.length = anyL vs by
    unfold saidTo
    rw [List.take_of_length_le (by rw [xz]; omega), show vs.length - i = 0 by omega]
    simp)
   go_wp2
   go_ret
   obtain ⟨zs, hzs, hsaid⟩ := HM.out; rw [HTK.out] at hsaid; exact ⟨_, rfl, (hzs.done hsaid).mono (fun k hk => ⟨by have := hk.1; omega, hk.2⟩), HB.out⟩
set_option maxHeartbeats 800000 in
theorem toAny_bool (nm : Int) (t : BA) (ks : List BA) (vs : List VI) (A3 A4 : Option Addr) (c3 c4 : Nat) (w : World) :
  Calls Tryd.prog 21 #[.agg #[.int .i64 1, .int .i64 nm, .string t, .slice A3 ks.length c3, .slice A4 vs.length c4]] w (Made w (.bool (nm != 0))) := by
 have HB := aM (zf (Below.refl w.heap.size w) (.cells #[.int .i64 1, .int .i64 nm, .string t, .slice A3 ks.length c3, .slice A4 vs.length c4] 32))
 go_enter Tryd.func21, Tryd.ntmps21
 go_wp2
 go_ret
 exact ⟨_, rfl, .bool _ _, HB.out⟩
set_option maxHeartbeats 800000 in
theorem toAny_int (nm : Int) (t : BA) (ks : List BA) (vs : List VI) (A3 A4 : Option Addr) (c3 c4 : Nat) (w : World) :
  Calls Tryd.prog 21 #[.agg #[.int .i64 2, .int .i64 nm, .string t, .slice A3 ks.length c3, .slice A4 vs.length c4]] w (Made w (.int nm)) := by
 have HB := aM (zf (Below.refl w.heap.size w) (.cells #[.int .i64 2, .int .i64 nm, .string t, .slice A3 ks.length c3, .slice A4 vs.length c4] 32))
 go_enter Tryd.func21, Tryd.ntmps21
 go_wp2
 go_ret
 exact ⟨_, rfl, .int _ _, HB.out⟩
set_option maxHeartbeats 800000 in
theorem toAny_text (nm : Int) (t : BA) (ks : List BA) (vs : List VI) (A3 A4 : Option Addr) (c3 c4 : Nat) (w : World) :
  Calls Tryd.prog 21 #[.agg #[.int .i64 3, .int .i64 nm, .string t, .slice A3 ks.length c3, .slice A4 vs.length c4]] w (Made w (.text t)) := by
 have HB := aM (zf (Below.refl w.heap.size w) (.cells #[.int .i64 3, .int .i64 nm, .string t, .slice A3 ks.length c3, .slice A4 vs.length c4] 32))
 go_enter Tryd.func21, Tryd.ntmps21
 go_wp2
 go_ret
 exact ⟨_, rfl, .text _ _, HB.out⟩
set_option maxHeartbeats 800000 in
theorem toAny_other (kd nm : Int) (t : BA) (ks : List BA) (vs : List VI) (A3 A4 : Option Addr) (c3 c4 : Nat) (w : World) (h1 : (kd == 1) = false) (h2 : (kd == 2) = false) (h3 : (kd == 3) = false) (h4 : (kd == 4) = false) (h5 : (kd == 5) = false) :
  Calls Tryd.prog 21 #[.agg #[.int .i64 kd, .int .i64 nm, .string t, .slice A3 ks.length c3, .slice A4 vs.length c4]] w (Made w .null) := by
 have HB := aM (zf (Below.refl w.heap.size w) (.cells #[.int .i64 kd, .int .i64 nm, .string t, .slice A3 ks.length c3, .slice A4 vs.length c4] 32))
 go_enter Tryd.func21, Tryd.ntmps21
 go_wp2
 go_ret
 exact ⟨_, rfl, .null _, HB.out⟩
set_option maxHeartbeats 1600000 in
theorem toAny_map (nm : Int) (t : BA) (ks : List BA) (vs : List VI) (hks : ∀ s, s ∈ ks → s.size ≤ maxLen) (hkl : ks.length ≤ 8796093022000) (hvl : vs.length ≤ 1759218604400) (hch : ∀ v, v ∈ vs → ToAnyAt v) (A3 A4 : Option Addr) (c3 c4 : Nat) (w : World) (hk : Kd.string.C w A3 ks.length ks) (hv : kI.C w A4 vs.length vs) :
  Calls Tryd.prog 21 #[.agg #[.int .i64 5, .int .i64 nm, .string t, .slice A3 ks.length c3, .slice A4 vs.length c4]] w (Made w (.map (fitM (pairsOf ks vs)))) := by
 have hb := zf (Below.refl w.heap.size w) (.cells #[.int .i64 5, .int .i64 nm, .string t, .slice A3 ks.length c3, .slice A4 vs.length c4] 32); have HB := aM hb; have CM := aM (toMap_of 5 nm t ks vs hks hkl hvl hch A3 A4 c3 c4 (w.alloc (.cells #[.int .i64 5, .int .i64 nm, .string t, .slice A3 ks.length c3, .slice A4 vs.length c4] 32)) (Kd.C_below hk hb) (Kd.C_below hv hb)); clear hb hks hch hk hv
 go_enter Tryd.func21, Tryd.ntmps21
 go_wp2_with fail
 refine CM.out.mono ?_; rintro e w1 ⟨b, rfl, ha, hb⟩; have HA := aM ha; have HB1 := aM (yp HB.out hb); clear ha hb CM
 go_wp2
 go_ret
 exact ⟨_, rfl, HA.out.mono (fun k hk => ⟨by have h1 := hk.1; rw [World.size_alloc] at h1; omega, hk.2⟩), HB1.out⟩
theorem anyOf_list (n : Int) (t : BA) (ks : List BA) (vs : List VI) : anyOf ⟨4, n, t, ks, vs⟩ = .list (anyL vs) := by simp [anyOf]
theorem anyOf_map (n : Int) (t : BA) (ks : List BA) (vs : List VI) : anyOf ⟨5, n, t, ks, vs⟩ = .map (fitM (pairsOf ks vs)) := by simp [anyOf, pairsOf]
theorem toAny : ∀ x : VI, Small x → ToAnyAt x := by
 intro x hx
 induction hx with
 | mk x hks hkl hvl hv ih =>
  obtain ⟨kd, nm, t, ks, vs⟩ := x; intro A3 A4 c3 c4 w h3 hk h4 hv
  by_cases h1 : kd = 1
  ·subst h1
   have e : anyOf ⟨1, nm, t, ks, vs⟩ = .bool (nm != 0) := by simp [anyOf]
   rw [e]; exact toAny_bool nm t ks vs A3 A4 c3 c4 w
  by_cases h2 : kd = 2
  ·subst h2
   have e : anyOf ⟨2, nm, t, ks, vs⟩ = .int nm := by simp [anyOf]
   rw [e]; exact toAny_int nm t ks vs A3 A4 c3 c4 w
  by_cases h3 : kd = 3
  ·subst h3
   have e : anyOf ⟨3, nm, t, ks, vs⟩ = .text t := by simp [anyOf]
   rw [e]; exact toAny_text nm t ks vs A3 A4 c3 c4 w
  by_cases h4 : kd = 4
  ·subst h4; rw [anyOf_list]; exact toAny_list nm t ks vs hvl ih A3 A4 c3 c4 w hv
  by_cases h5 : kd = 5
  ·subst h5; rw [anyOf_map]; exact toAny_map nm t ks vs hks hkl hvl ih A3 A4 c3 c4 w hk hv
  ·have e : anyOf ⟨kd, nm, t, ks, vs⟩ = .null := by simp [anyOf, h1, h2, h3, h4, h5]
   rw [e]; exact toAny_other kd nm t ks vs A3 A4 c3 c4 w (by simpa using h1) (by simpa using h2) (by simpa using h3) (by simpa using h4) (by simpa using h5)
theorem Small.of {x v : VI} (h : Small x) (hv : v ∈ x.f4) : Small v := by
 cases h with
 | mk _ _ _ _ h => exact h v hv
end Go.Proofs.YtceojjlpeacfgaaDoor.Tr
namespace Go.Proofs.YtceojjlpeacfgaaDoor.Tr
open Go.RowKit Go.Proofs.YtceojjlpeacfgaaDoorW.PrintWords Go.Proofs.YtceojjlpeacfgaaDoorW.PrintLast Go.Proofs.YtceojjlpeacfgaaDoor.Str Go.Proofs.YtceojjlpeacfgaaDoor.Kit Go.Proofs.YtceojjlpeacfgaaDoor.MapV Go.Proofs.YtceojjlpeacfgaaDoor.Frame Go.Proofs.YtceojjlpeacfgaaDoor.PS
open Go.Proofs.YtceojjlpeacfgaaDoor.Val (place placeI placeB xv placeI_end)
inductive SmallS : VS → Prop
 | mk (x : VS) (ht : x.f2.size ≤ 140737488355328) (hk : ∀ s, s ∈ x.f3 → s.size ≤ maxLen) (hkl : x.f3.length ≤ 8796093022000) (hvl : x.f4.length ≤ 1759218604400) (hv : ∀ v, v ∈ x.f4 → SmallS v) : SmallS x
def tup (x : VS) : Int × Int × BA × List BA × List VS := (x.f0, x.f1, x.f2, x.f3, x.f4)
theorem etaS (x : VS) : (⟨x.f0, x.f1, x.f2, x.f3, x.f4⟩ : VS) = x := by cases x; rfl
def leaf (k n : Int) (t : BA) : VS := ⟨k, n, t, [], []⟩
def fitW : List BA → List VS → List BA → List VS → List BA × List VS
 | k :: ks, v :: vs, K, V => fitW ks vs (withK K k) (withV K V k v)
 | _, _, K, V => (K, V)
theorem fitW_nil (ks : List BA) (K : List BA) (V : List VS) : fitW ks [] K V = (K, V) := by cases ks <;> rfl
mutual
def fitV : VS → VS
 | ⟨k, n, t, ks, vs⟩ => if k = 1 then (if n = 0 then leaf 1 0 ⟨#[]⟩ else leaf 1 1 ⟨#[]⟩) else if k = 2 then leaf 2 n ⟨#[]⟩ else if k = 3 then leaf 3 0 t else if k = 4 then ⟨4, 0, ⟨#[]⟩, [], fitL vs⟩ else if k = 5 then ⟨5, 0, ⟨#[]⟩, (fitW ks (fitL vs) [] []).1, (fitW ks (fitL vs) [] []).2⟩ else leaf 0 0 ⟨#[]⟩
def fitL : List VS → List VS
 | [] => []
 | v :: r => fitV v :: fitL r
end
theorem fitL_map : ∀ vs, fitL vs = vs.map fitV
 | [] => by simp [fitL]
 | v :: r => by simp [fitL, fitL_map r]
theorem fitL_length (vs : List VS) : (fitL vs).length = vs.length := by rw [fitL_map, List.length_map]
theorem fitL_drop {vs : List VS} {i : Nat} (h : i < vs.length) : (fitL vs).drop i = fitV vs[i] :: (fitL vs).drop (i + 1) := by
 rw [List.drop_eq_getElem_cons (by rw [fitL_length]; exact h)]; simp only [fitL_map, List.getElem_map]
def FitEv (x : VS) : Prop := Ev (fun k => spec_Fit.f k x.f0 x.f1 x.f2 x.f3 x.f4) (tup (fitV x))
theorem ev_Fit_l0 (a b : Int) (c : BA) (ks : List BA) (vs : List VS) (p q : Int) (r : BA) (hvl : vs.length ≤ 1759218604400) (hch : ∀ v, v ∈ vs → FitEv v) : ∀ (d i : Nat) (acc : List VS), i + d = vs.length → acc.length = i →
  Ev (fun k => spec_Fit.l0 k (i : Int) a b c ks vs p q r acc) (p, q, r, [], acc ++ (fitL vs).drop i) := by
 intro d
 induction d with
 | zero =>
  intro i acc hi ha; refine yf (fun k => ?_) (Ev.now _); simp only [spec_Fit.l0]; rw [if_neg (by omega), List.drop_eq_nil_of_le (by rw [fitL_length]; omega), List.append_nil]
 | succ d ih =>
  intro i acc hi ha
  have hlt : i < vs.length := by omega
  refine yf (f := fun k => (spec_Fit.f k vs[i].f0 vs[i].f1 vs[i].f2 vs[i].f3 vs[i].f4).bind fun bt => spec_Fit.l0 k ((i + 1 : Nat) : Int) a b c ks vs p q r (acc ++ [(⟨bt.1, bt.2.1, bt.2.2.1, bt.2.2.2.1, bt.2.2.2.2⟩ : VS)])) (fun k => ?_) ?_
  ·simp only [spec_Fit.l0]; rw [if_pos (by omega), if_pos (by omega), rdS hlt]; refine congrArg _ (funext fun bt => ?_); rw [if_pos (by omega), wrapS i (by omega)]
  ·refine xm (hch vs[i] (List.getElem_mem hlt)) ?_; have := ih (i + 1) (acc ++ [fitV vs[i]]) (by omega) (by simp [ha]); rw [List.append_assoc, List.singleton_append, ← fitL_drop hlt] at this; simp only [tup, etaS]; exact this
theorem ev_Fit_l1 (a b : Int) (c : BA) (ks : List BA) (vs : List VS) (hkl : ks.length ≤ 8796093022000) (hvl : vs.length ≤ 1759218604400) (hch : ∀ v, v ∈ vs → FitEv v) : ∀ (d i : Nat) (K : List BA) (V : List VS), i + d = ks.length → K.length = V.length → V.length ≤ i → V.length ≤ vs.length →
  Ev (fun k => spec_Fit.l1 k (i : Int) a b c ks vs 5 0 ⟨#[]⟩ K V) (5, 0, ⟨#[]⟩, (fitW (ks.drop i) ((fitL vs).drop i) K V).1, (fitW (ks.drop i) ((fitL vs).drop i) K V).2) := by
 intro d
 induction d with
 | zero =>
  intro i K V hi hKV hVi hVv; rw [List.drop_eq_nil_of_le (by omega : ks.length ≤ i)]; refine yf (fun k => ?_) (f := fun k => spec_Fit.j2 k (i : Int) false a b c ks vs 5 0 ⟨#[]⟩ K V) (yf (fun k => ?_) (Ev.now _))
  ·simp only [spec_Fit.l1]; rw [if_neg (by omega)]
  ·simp only [spec_Fit.j2]; rw [if_neg (by decide)]; rfl
 | succ d ih =>
  intro i K V hi hKV hVi hVv
  have hlt : i < ks.length := by omega
  have hd : ks.drop i = ks[i] :: ks.drop (i + 1) := List.drop_eq_getElem_cons hlt
  by_cases hv : i < vs.length
  ·refine yf (fun k => ?_) (f := fun k => spec_Fit.j2 k (i : Int) true a b c ks vs 5 0 ⟨#[]⟩ K V) (yf (f := fun k => (spec_Fit.f k vs[i].f0 vs[i].f1 vs[i].f2 vs[i].f3 vs[i].f4).bind fun bt => (spec_With.f k 5 0 ⟨#[]⟩ K V ks[i] bt.1 bt.2.1 bt.2.2.1 bt.2.2.2.1 bt.2.2.2.2).bind fun bu => spec_Fit.l1 k ((i + 1 : Nat) : Int) a b c ks vs bu.1 bu.2.1 bu.2.2.1 bu.2.2.2.1 bu.2.2.2.2) (fun k => ?_) ?_)
   ·simp only [spec_Fit.l1]; rw [if_pos (by omega), decide_eq_true (show (i : Int) < (vs.length : Int) by omega)]
   ·simp only [spec_Fit.j2]; rw [if_pos trivial, if_pos (by omega), if_pos (by omega), if_pos (by omega), rdS hv, rdB hlt, wrapS i (by omega)]
   ·refine xm (hch vs[i] (List.getElem_mem hv)) (xm (a := (5, 0, ⟨#[]⟩, withK K ks[i], withV K V ks[i] (fitV vs[i]))) (ev_now (fun k => ?_)) ?_)
    ·show spec_With.f k 5 0 ⟨#[]⟩ K V ks[i] (fitV vs[i]).f0 (fitV vs[i]).f1 (fitV vs[i]).f2 (fitV vs[i]).f3 (fitV vs[i]).f4 = _
     unfold spec_With.f
     rw [if_pos ⟨hKV, by omega⟩, etaS]
    ·have hl1 := withV_length (key := ks[i]) (x := fitV vs[i]) hKV; have hl2 := withK_length (ks := K) (key := ks[i]); have := ih (i + 1) (withK K ks[i]) (withV K V ks[i] (fitV vs[i])) (by omega) hl1.symm (by omega) (by omega); rw [hd, fitL_drop hv]; exact this
  ·rw [List.drop_eq_nil_of_le (show (fitL vs).length ≤ i by rw [fitL_length]; omega), fitW_nil]; refine yf (fun k => ?_) (f := fun k => spec_Fit.j2 k (i : Int) false a b c ks vs 5 0 ⟨#[]⟩ K V) (yf (fun k => ?_) (Ev.now _))
   ·simp only [spec_Fit.l1]; rw [if_pos (by omega), decide_eq_false (show ¬ (i : Int) < (vs.length : Int) by omega)]
   ·simp only [spec_Fit.j2]; rw [if_neg (by decide)]
theorem ev_Fit : ∀ x : VS, SmallS x → FitEv x := by
 intro x hx
 induction hx with
 | mk x ht hk hkl hvl hv ih =>
  obtain ⟨k, n, t, ks, vs⟩ := x
  unfold FitEv
  by_cases h1 : k = 1
  ·subst h1; refine yf (f := fun _ => some (tup (fitV ⟨1, n, t, ks, vs⟩))) (fun j => ?_) (Ev.now _)
   by_cases hn : n = 0
   ·subst hn
    simp [spec_Fit.f, spec_B.f, fitV, tup, leaf]
   ·simp [spec_Fit.f, spec_B.f, fitV, tup, leaf, hn]
  by_cases h2 : k = 2
  ·subst h2; exact yf (f := fun _ => some (tup (fitV ⟨2, n, t, ks, vs⟩))) (fun j => by simp [spec_Fit.f, spec_N.f, fitV, tup, leaf]) (Ev.now _)
  by_cases h3 : k = 3
  ·subst h3; exact yf (f := fun _ => some (tup (fitV ⟨3, n, t, ks, vs⟩))) (fun j => by simp [spec_Fit.f, spec_T.f, fitV, tup, leaf]) (Ev.now _)
  by_cases h4 : k = 4
  ·subst h4; have h := ev_Fit_l0 4 n t ks vs 4 0 ⟨#[]⟩ hvl ih vs.length 0 [] (by omega) rfl; rw [List.drop_zero, List.nil_append] at h
   have e : tup (fitV ⟨4, n, t, ks, vs⟩) = (4, 0, ⟨#[]⟩, [], fitL vs) := by simp [fitV, tup]
   rw [e]; exact yf (fun j => by simp [spec_Fit.f]) h
  by_cases h5 : k = 5
  ·subst h5; have h := ev_Fit_l1 5 n t ks vs hkl hvl ih ks.length 0 [] [] (by omega) rfl (by simp) (by simp); rw [List.drop_zero, List.drop_zero] at h
   have e : tup (fitV ⟨5, n, t, ks, vs⟩) = (5, 0, ⟨#[]⟩, (fitW ks (fitL vs) [] []).1, (fitW ks (fitL vs) [] []).2) := by simp [fitV, tup]
   rw [e]; exact yf (fun j => by simp [spec_Fit.f, spec_Empty.f]) h
  ·exact yf (f := fun _ => some (tup (fitV ⟨k, n, t, ks, vs⟩))) (fun j => by simp [spec_Fit.f, fitV, tup, leaf, h1, h2, h3, h4, h5]) (Ev.now _)
theorem ev_tail {g rec : Nat → Option Bool} {b0 b : Bool} (p : Prop) [Decidable p] (hg : Ev g b0) (hr : Ev rec b) : ∃ b', Ev (fun k => (g k).bind fun t => if p then (if t = true then rec k else some false) else some false) b' ∧ (b' = true → p ∧ b0 = true ∧ b = true) := by
 by_cases hp : p
 ·cases b0
  ·exact ⟨false, xm hg (ev_now (fun k => by rw [if_pos hp]; simp)), fun h => by cases h⟩
  ·exact ⟨b, xm hg (Ev.congr (fun k => by rw [if_pos hp, if_pos rfl]) hr), fun h => ⟨hp, rfl, h⟩⟩
 ·exact ⟨false, xm hg (ev_now (fun k => by rw [if_neg hp])), fun h => by cases h⟩
def pubB : BA := ⟨#[112, 117, 98, 108, 105, 115, 104, 101, 100]⟩
def proB : BA := ⟨#[112, 114, 111, 116, 111, 99, 111, 108]⟩
def hipB : BA := ⟨#[104, 111, 115, 116, 95, 105, 112]⟩
def tgtB : BA := ⟨#[116, 97, 114, 103, 101, 116]⟩
def PortOk (key : BA) (v : VS) : Prop := v.f0 = 3 ∧ (key.toList = ([112, 117, 98, 108, 105, 115, 104, 101, 100] : List UInt8) → ∀ c, c ∈ lb v.f2 → DigC c) ∧ (key.toList = ([104, 111, 115, 116, 95, 105, 112] : List UInt8) → ∀ c, c ∈ lb v.f2 → AdrC c)
theorem ev_sayPort_l (x : VS) (hx : InStep x) (ht : ∀ v, v ∈ x.f4 → v.f2.size < 4611686018427387904) : ∀ (d i : Nat), i + d = x.f3.length → ∃ b, Ev (fun k => spec_sayPort.l0 k (i : Int) x.f0 x.f1 x.f2 x.f3 x.f4) b ∧ (b = true → ∀ (j : Nat) (hj : j < x.f3.length) (hj2 : j < x.f4.length), i ≤ j → PortOk x.f3[j] x.f4[j]) := by
 intro d
 induction d with
 | zero =>
  intro i hi; refine ⟨true, yf (fun k => ?_) (Ev.now _), fun _ j hj hj2 h => by omega⟩; simp only [spec_sayPort.l0]; rw [if_neg (by omega)]
 | succ d ih =>
  intro i hi; obtain ⟨b, hb, hf⟩ := ih (i + 1) (by omega)
  have hk : i < x.f3.length := by omega
  have hv : i < x.f4.length := by have := hx.1; omega
  have hts := ht _ (List.getElem_mem hv)
  have fin : ∀ (P : PortOk x.f3[i] x.f4[i]), b = true → ∀ (j : Nat) (hj : j < x.f3.length) (hj2 : j < x.f4.length), i ≤ j → PortOk x.f3[j] x.f4[j] := fun P h j hj hj2 hij => by
   rcases Nat.eq_or_lt_of_le hij with rfl | hij
   ·exact P
   ·exact hf h j hj hj2 hij
  by_cases c1 : x.f3[i].toList = ([112, 117, 98, 108, 105, 115, 104, 101, 100] : List UInt8)
  ·obtain ⟨b1, hb1, hf1⟩ := ev_sayDigits x.f4[i].f2 1 65535 hts; obtain ⟨b', hb', hf'⟩ := ev_tail (x.f4[i].f0 = 3) hb1 hb; refine ⟨b', yf (fun k => ?_) hb', fun h => fin ⟨(hf' h).1, fun _ => (hf1 (hf' h).2.1).1, fun e => ?_⟩ (hf' h).2.2⟩
   ·simp only [spec_sayPort.l0]; rw [if_pos (by omega), if_pos (by omega), if_pos (by omega), rdS hv, rdB hk, wrapS i (by have := hx.2; omega), if_pos c1]
   ·exfalso
    rw [c1] at e; exact absurd e (by decide)
  by_cases c2 : x.f3[i].toList = ([112, 114, 111, 116, 111, 99, 111, 108] : List UInt8)
  ·obtain ⟨b', hb', hf'⟩ := ev_tail (x.f4[i].f0 = 3) (ev_sayIn x.f4[i].f2 ([(⟨#[116, 99, 112]⟩ : ByteArray), (⟨#[117, 100, 112]⟩ : ByteArray)] : List ByteArray) (by simp)) hb; refine ⟨b', yf (fun k => ?_) hb', fun h => fin ⟨(hf' h).1, fun e => absurd e c1, fun e => ?_⟩ (hf' h).2.2⟩
   ·simp only [spec_sayPort.l0]; rw [if_pos (by omega), if_pos (by omega), if_pos (by omega), rdS hv, rdB hk, wrapS i (by have := hx.2; omega), if_neg c1, if_pos c2]
   ·exfalso
    rw [c2] at e; exact absurd e (by decide)
  by_cases c3 : x.f3[i].toList = ([104, 111, 115, 116, 95, 105, 112] : List UInt8)
  ·obtain ⟨b1, hb1, hf1⟩ := ev_sayAddress x.f4[i] hts; obtain ⟨b', hb', hf'⟩ := ev_tail (x.f4[i].f0 = 3) hb1 hb; refine ⟨b', yf (fun k => ?_) hb', fun h => fin ⟨(hf' h).1, fun e => absurd e c1, fun _ => (hf1 (hf' h).2.1).2⟩ (hf' h).2.2⟩; simp only [spec_sayPort.l0]; rw [if_pos (by omega), if_pos (by omega), if_pos (by omega), rdS hv, rdB hk, wrapS i (by have := hx.2; omega), if_neg c1, if_neg c2, if_pos c3]
  by_cases c4 : x.f3[i].toList = ([109, 111, 100, 101] : List UInt8)
  ·obtain ⟨b', hb', hf'⟩ := ev_tail (x.f4[i].f0 = 3) (ev_sayIn x.f4[i].f2 ([(⟨#[104, 111, 115, 116]⟩ : ByteArray), (⟨#[105, 110, 103, 114, 101, 115, 115]⟩ : ByteArray)] : List ByteArray) (by simp)) hb; refine ⟨b', yf (fun k => ?_) hb', fun h => fin ⟨(hf' h).1, fun e => absurd e c1, fun e => absurd e c3⟩ (hf' h).2.2⟩; simp only [spec_sayPort.l0]; rw [if_pos (by omega), if_pos (by omega), if_pos (by omega), rdS hv, rdB hk, wrapS i (by have := hx.2; omega), if_neg c1, if_neg c2, if_neg c3, if_pos c4]
  ·refine ⟨false, yf (f := fun _ => some false) (fun k => ?_) (Ev.now _), fun h => by cases h⟩; simp only [spec_sayPort.l0]; rw [if_pos (by omega), if_pos (by omega), if_pos (by omega), rdS hv, rdB hk, if_neg c1, if_neg c2, if_neg c3, if_neg c4]
   split <;> rfl
theorem ev_sayPort (x : VS) (hx : InStep x) (ht : ∀ v, v ∈ x.f4 → v.f2.size < 4611686018427387904) : ∃ b, Ev (fun k => spec_sayPort.f k x.f0 x.f1 x.f2 x.f3 x.f4) b ∧ (b = true → ∀ (j : Nat) (hj : j < x.f3.length) (hj2 : j < x.f4.length), PortOk x.f3[j] x.f4[j]) := by
 obtain ⟨b, hb, hf⟩ := ev_sayPort_l x hx ht x.f3.length 0 (by omega); exact ⟨b, hb, fun h j hj hj2 => hf h j hj hj2 (Nat.zero_le _)⟩
def withoutV (x : VS) (key : BA) : VS := if x.f0 = 5 ∧ placeB x.f3 key = true then ⟨5, 0, ⟨#[]⟩, x.f3.take (placeI x.f3 key) ++ x.f3.drop (placeI x.f3 key + 1), x.f4.take (placeI x.f3 key) ++ x.f4.drop (placeI x.f3 key + 1)⟩ else x
theorem ev_Without (x : VS) (key : BA) (hx : InStep x) (hk : x.f3.length ≤ 8796093022000) (hv : x.f4.length ≤ 1759218604400) : Ev (fun k => spec_Without.f k x.f0 x.f1 x.f2 x.f3 x.f4 key) (tup (withoutV x key)) := by
 obtain ⟨a, b, c, ks, vs⟩ := x; have hx1 : ks.length ≤ vs.length := hx.1; have hx2 : ks.length < 4611686018427387904 := hx.2; replace hk : ks.length ≤ 8796093022000 := hk; replace hv : vs.length ≤ 1759218604400 := hv; have hp := ev_place key a b c ks vs hx2
 have hbl : placeB ks key = true → placeI ks key < ks.length := fun h => placeB_lt h
 have ew : withoutV ⟨a, b, c, ks, vs⟩ key = if a = 5 ∧ placeB ks key = true then ⟨5, 0, ⟨#[]⟩, ks.take (placeI ks key) ++ ks.drop (placeI ks key + 1), vs.take (placeI ks key) ++ vs.drop (placeI ks key + 1)⟩ else ⟨a, b, c, ks, vs⟩ := rfl
 rw [ew]; clear ew hx; generalize placeI ks key = i at *; generalize placeB ks key = q at *
 unfold spec_Without.f
 refine xm hp (ev_now (fun k => ?_)); clear hp
 dsimp only
 by_cases h5 : a = 5
 ·cases q
  ·simp [h5, tup]
  ·have h1 := hbl rfl; have w1 := wrapS i (by omega); have t1 : ((i : Int)).toNat = i := Int.toNat_natCast i; have t2 : ((i + 1 : Nat) : Int).toNat = i + 1 := Int.toNat_natCast (i + 1)
   have l1 : (ks.take i).length < 8796093022208 := by rw [List.length_take]; omega
   have l2 : (ks.take i).length + (ks.drop (i + 1)).length < 8796093022208 := by rw [List.length_take, List.length_drop]; omega
   have l3 : (vs.take i).length < 1759218604441 := by rw [List.length_take]; omega
   have l4 : (vs.take i).length + (vs.drop (i + 1)).length < 1759218604441 := by rw [List.length_take, List.length_drop]; omega
   have i1 : (0 : Int) ≤ (i : Int) := by omega
   have i2 : (i : Int) ≤ (ks.length : Int) := by omega
   have i3 : (0 : Int) ≤ ((i + 1 : Nat) : Int) := by omega
   have i4 : ((i + 1 : Nat) : Int) ≤ (ks.length : Int) := by omega
   have i5 : (i : Int) ≤ (vs.length : Int) := by omega
   have i6 : ((i + 1 : Nat) : Int) ≤ (vs.length : Int) := by omega
   simp only [Option.bind_some, List.nil_append, List.length_nil, Nat.zero_add, w1, t1, t2]; rw [if_pos h5, if_pos trivial, if_pos i1, if_pos i2, if_pos l1, if_pos i3, if_pos i4, if_pos l2, if_pos i5, if_pos l3, if_pos i6, if_pos l4, if_pos ⟨h5, trivial⟩]; rfl
 ·simp [h5, tup]
end Go.Proofs.YtceojjlpeacfgaaDoor.Tr
namespace Go.Proofs.YtceojjlpeacfgaaDoor.Tr
open Go.RowKit Go.Proofs.YtceojjlpeacfgaaDoorW.PrintWords Go.Proofs.YtceojjlpeacfgaaDoorW.PrintLast Go.Proofs.YtceojjlpeacfgaaDoor.Str Go.Proofs.YtceojjlpeacfgaaDoor.Kit Go.Proofs.YtceojjlpeacfgaaDoor.MapV Go.Proofs.YtceojjlpeacfgaaDoor.Frame Go.Proofs.YtceojjlpeacfgaaDoor.PS
set_option maxHeartbeats 3200000 in
set_option maxRecDepth 100000 in
theorem listP (Pf : VS → List Value → Prop) (h5 : ∀ {x cs}, Pf x cs → cs.length = 5) (h1 : ∀ {x cs}, Pf x cs → ∀ u ∈ cs, u.oneCell' = true) {A : Option Addr} {c : Nat} (vs : List VS) (w : World) (hv : ReadsRow Pf 5 w A vs.length vs) (hn : vs.length ≤ 1759218604400) :
  Calls Tryd.prog 17 #[.slice A vs.length c] w fun e w' => ∃ A8 c8, e = .returned (.agg #[.int .i64 4, .int .i64 0, .string ⟨#[]⟩, .slice none 0 0, .slice A8 vs.length c8]) ∧ (held 5 Pf h5 h1).R 25 w' w.heap.size (fun _ => True) (.slice A8 vs.length c8) vs ∧ Below w.heap.size w w' := by
 have hbx := zf (zf (Below.refl w.heap.size w) (.cells #[.int .i64 0, .int .i64 0, .string ⟨#[]⟩, .slice none 0 0, .slice none 0 0] 25)) (.cells #[] 25); have hz0 : ((w.alloc (.cells #[.int .i64 0, .int .i64 0, .string ⟨#[]⟩, .slice none 0 0, .slice none 0 0] 25)).alloc (.cells #[] 25)).heap[w.heap.size]? = some (.cells #[.int .i64 0, .int .i64 0, .string ⟨#[]⟩, .slice none 0 0, .slice none 0 0] 25 (0, 0)) := ze (xb _ _) _; have hr := own_empty (held 5 Pf h5 h1) (w := w.alloc (.cells #[.int .i64 0, .int .i64 0, .string ⟨#[]⟩, .slice none 0 0, .slice none 0 0] 25)) (base := w.heap.size) (e := 25) (ok := fun k => k ≠ w.heap.size) (by rw [World.size_alloc]; omega) (by rw [World.size_alloc]; omega); rw [World.size_alloc] at hr; have HZ := aM hz0; have HB := aM hbx; have HR := aM hr; have HV := aM (ReadsRow.imp_ hv hbx (fun _ _ hp => hp))
 have hsz : ((w.alloc (.cells #[.int .i64 0, .int .i64 0, .string ⟨#[]⟩, .slice none 0 0, .slice none 0 0] 25)).alloc (.cells #[] 25)).heap.size = w.heap.size + 2 := by simp only [World.size_alloc]
 have HS := aM hsz; clear hbx hz0 hr hv hsz
 go_enter Tryd.func17, Tryd.ntmps17
 go_wp2_with (refine Kd.R_append_rows (held 5 Pf h5 h1) (w0 := w) w.heap.size rfl (.tmp 3) (.tmp 4) 23 25 (.agg #[.int .i64 0, .int .i64 0, .string ⟨#[]⟩, .slice none 0 0, .slice none 0 0]) 80 rfl Tryd.underlying23 yz rfl (show 0 < 5 by decide) (by decide) (.slice (some ⟨w.heap.size + 1, 0, none⟩) 0 0) [] vs A vs.length c (fun k => k ≠ w.heap.size) (fun _ => False) rfl rfl HR.out HV.out (fun _ _ h => h) (fun _ h => h.elim) (fun k hk => by rw [HS.out] at hk; omega) HB.out HB.out.size (by simp only [List.length_nil]; omega) ?_)
 intro v1 w1 ho hb hg hat; obtain ⟨A8, c8, rfl⟩ := Kd.R_slice ho
 have hlt : w.heap.size < ((w.alloc (.cells #[.int .i64 0, .int .i64 0, .string ⟨#[]⟩, .slice none 0 0, .slice none 0 0] 25)).alloc (.cells #[] 25)).heap.size := by rw [HS.out]; omega
 have hz1 := (hg.block w.heap.size hlt (fun e => by have h : w.heap.size = w.heap.size + 1 := Option.some.inj e; omega)).trans HZ.out; have hg2 := yy w1 w.heap.size #[.int .i64 4, .int .i64 0, .string ⟨#[]⟩, .slice none 0 0, .slice A8 vs.length c8]; have HX := aM (setRow_heap w1 w.heap.size _ #[.int .i64 4, .int .i64 0, .string ⟨#[]⟩, .slice none 0 0, .slice A8 vs.length c8] _ _ hz1); have HB8 := aM (yk hb (some w.heap.size) hb.size hg2 (fun k hk => by have := Option.some.inj hk; omega)); have HO := aM (Kd.R_mono (ok' := fun _ => True) (Kd.R_move (Kd.R_bound ho) (fun k hk => hg2.block k hk.2.2.1 (fun e => hk.1 (Option.some.inj e)))) (fun _ _ => trivial)); clear ho hb hg hat hg2 hlt
 go_wp2_with (refine xw (.tmp 2) (.tmp 6) rfl rfl rfl rfl hz1 ?_)
 exact bodyPost_ret (v := .agg #[.int .i64 4, .int .i64 0, .string ⟨#[]⟩, .slice none 0 0, .slice A8 vs.length c8]) (xp rfl rfl HX.out) rfl ⟨A8, c8, rfl, HO.out, HB8.out⟩
end Go.Proofs.YtceojjlpeacfgaaDoor.Tr
namespace Go.Proofs.YtceojjlpeacfgaaDoor.Tr
open Go.RowKit Go.Proofs.YtceojjlpeacfgaaDoorW.PrintWords Go.Proofs.YtceojjlpeacfgaaDoorW.PrintLast Go.Proofs.YtceojjlpeacfgaaDoor.Str Go.Proofs.YtceojjlpeacfgaaDoor.Kit Go.Proofs.YtceojjlpeacfgaaDoor.MapV Go.Proofs.YtceojjlpeacfgaaDoor.Frame Go.Proofs.YtceojjlpeacfgaaDoor.PS
open Go.Proofs.YtceojjlpeacfgaaDoor.Val (place placeI placeB)
structure PVal (G : Nat → Prop) (w0 w : World) (kv vv : Value) (x : VS) : Prop where
 hk : Kd.R Kd.string 9 w w0.heap.size (fun k => some k = kv.ownBlock ∧ G k) kv x.f3
 hv : Kd.V kS 25 w w0.heap.size (fun k => some k ≠ kv.ownBlock ∧ G k) vv x.f4
theorem PVal.below {G : Nat → Prop} {w0 w W : World} {kv vv : Value} {x : VS} (h : PVal G w0 w kv vv x) (hb : Below w.heap.size w W) : PVal G w0 W kv vv x := ⟨Kd.R_below h.hk hb, Kd.V_below h.hv hb⟩
theorem PVal.other {G S : Nat → Prop} {w0 w W : World} {kv vv : Value} {x : VS} (h : PVal G w0 w kv vv x) (hk : Kept w W S) (hd : ∀ k, G k → ¬ S k) : PVal G w0 W kv vv x := ⟨Kd.R_kept h.hk hk (fun k hg => hd k hg.2), Kd.V_kept h.hv hk (fun k hg => hd k hg.2)⟩
theorem PVal.own {G : Nat → Prop} {w0 w W : World} {kv vv : Value} {x : VS} (h : PVal G w0 w kv vv x) (hk : Kept w W (fun k => some k = kv.ownBlock)) (hr : Kd.R Kd.string 9 W w0.heap.size (fun _ => True) kv x.f3) : PVal G w0 W kv vv x := ⟨⟨h.hk.1, hr.2⟩, Kd.V_kept h.hv hk (fun k hg => hg.1)⟩
def PortIs (x : VS) : Prop := ∃ v, getV x tgtB = some v ∧ v.f0 = 2 ∧ 1 ≤ v.f1 ∧ v.f1 ≤ 65535 ∧ (x.f3.length ≤ 1 ∨ ∀ (j : Nat) (hj : j < (withoutV x tgtB).f3.length) (hj2 : j < (withoutV x tgtB).f4.length), PortOk (withoutV x tgtB).f3[j] (withoutV x tgtB).f4[j])
theorem withoutV_step {x : VS} {key : BA} (hx : InStep x) : InStep (withoutV x key) := by
 unfold withoutV
 split
 ·rename_i h
  have h1 := placeB_lt h.2; have h2 := hx.1; have h3 := hx.2; exact ⟨by simp only [List.length_append, List.length_take, List.length_drop]; omega, by simp only [List.length_append, List.length_take, List.length_drop]; omega⟩
 ·exact hx
theorem withoutV_mem {x v : VS} {key : BA} (h : v ∈ (withoutV x key).f4) : v ∈ x.f4 := by
 unfold withoutV at h
 split at h
 ·rcases List.mem_append.1 h with h | h
  ·exact List.mem_of_mem_take h
  ·exact List.mem_of_mem_drop h
 ·exact h
theorem xh {w : World} {b : Nat} {T : TypeId} {v0 v1 v2 v3 v4 : Value} (h : w.heap[b]? = some (.cells #[v0, v1, v2, v3, v4] T (0, 0))) :
  w.cell? ⟨b, 0, none⟩ = some v0 ∧ w.cell? ⟨b, 1, none⟩ = some v1 ∧ w.cell? ⟨b, 2, none⟩ = some v2 ∧ w.cell? ⟨b, 3, none⟩ = some v3 ∧ w.cell? ⟨b, 4, none⟩ = some v4 := by
 simp [World.cell?, h]
set_option maxHeartbeats 6400000 in
set_option maxRecDepth 100000 in
theorem say_ports (x : VS) (hx : InStep x) (ht : ∀ v, v ∈ x.f4 → v.f2.size < 4611686018427387904) (hl3 : x.f3.length ≤ 8796093022000) (hl4 : x.f4.length ≤ 1759218604400) {G : Nat → Prop} {w0 w : World} {kv vv : Value} (hB : Below w0.heap.size w0 w) (hp : PVal G w0 w kv vv x) (hG : ∀ k, G k → k < w.heap.size) (b8 c8 : Nat) (g0 : w.cell? ⟨b8, 0, none⟩ = some (.int .i64 x.f0)) (g1 : w.cell? ⟨b8, 1, none⟩ = some (.int .i64 x.f1)) (g2 : w.cell? ⟨b8, 2, none⟩ = some (.string x.f2)) (g3 : w.cell? ⟨b8, 3, none⟩ = some kv) (g4 : w.cell? ⟨b8, 4, none⟩ = some vv) :
  Calls Tryd.prog 16 #[.agg #[.int .i64 4, .int .i64 0, .string ⟨#[]⟩, .slice none 0 0, .slice (some ⟨b8, 0, none⟩) 1 c8]] w fun e w' => ∃ b, e = .returned (.bool b) ∧ Below w0.heap.size w0 w' ∧ Kept w w' (fun k => some k = kv.ownBlock) ∧ PVal G w0 w' kv vv x ∧ (b = true → PortIs x) := by
 have hget_ := ev_Get x tgtB hx; have hwo_ := ev_Without x tgtB hx hl3 hl4; obtain ⟨bs, hsay_, hsf⟩ := ev_sayPort (withoutV x tgtB) (withoutV_step hx) (fun v hv => ht v (withoutV_mem hv)); obtain ⟨k1, hget⟩ := hget_.rounds; obtain ⟨k2, hwo⟩ := hwo_.rounds; obtain ⟨k3, hsay⟩ := hsay_.rounds; clear hget_ hwo_ hsay_
 have HIS := aM (show ∀ (_ : (getV x tgtB).isSome = true) (_ : ((getV x tgtB).getD zV).f0 = 2) (_ : 1 ≤ ((getV x tgtB).getD zV).f1) (_ : ((getV x tgtB).getD zV).f1 ≤ 65535) (_ : x.f3.length ≤ 1 ∨ bs = true), PortIs x from fun h1 h2 h3 h4 h5 => by
  obtain ⟨v, hv⟩ := Option.isSome_iff_exists.1 h1; rw [hv] at h2 h3 h4
  exact ⟨v, hv, h2, h3, h4, h5.imp id (fun h => hsf h)⟩)
 generalize hr : (getV x tgtB).getD zV = r at hget HIS; generalize hf : (getV x tgtB).isSome = f at hget HIS; generalize hy : withoutV x tgtB = y at hwo hsay; obtain ⟨A3, c3, rfl⟩ := Kd.R_slice hp.hk; obtain ⟨A4, c4, rfl⟩ := Kd.V_slice hp.hv; obtain ⟨x0, x1, x2, x3, x4⟩ := x; obtain ⟨r0, r1, r2, r3, r4⟩ := r; obtain ⟨y0, y1, y2, y3, y4⟩ := y; replace hp : PVal G w0 w (.slice A3 x3.length c3) (.slice A4 x4.length c4) ⟨x0, x1, x2, x3, x4⟩ := hp; have hb2 := zf (zf (Below.refl w.heap.size w) (.cells #[.int .i64 4, .int .i64 0, .string ⟨#[]⟩, .slice none 0 0, .slice (some ⟨b8, 0, none⟩) 1 c8] 25)) (.cells #[.int .i64 x0, .int .i64 x1, .string x2, .slice A3 x3.length c3, .slice A4 x4.length c4] 25); have hy2 : ((w.alloc (.cells #[.int .i64 4, .int .i64 0, .string ⟨#[]⟩, .slice none 0 0, .slice (some ⟨b8, 0, none⟩) 1 c8] 25)).alloc (.cells #[.int .i64 x0, .int .i64 x1, .string x2, .slice A3 x3.length c3, .slice A4 x4.length c4] 25)).heap[w.heap.size]? = some (.cells #[.int .i64 4, .int .i64 0, .string ⟨#[]⟩, .slice none 0 0, .slice (some ⟨b8, 0, none⟩) 1 c8] 25 (0, 0)) := ze (xb _ _) _
 have hx2 : ((w.alloc (.cells #[.int .i64 4, .int .i64 0, .string ⟨#[]⟩, .slice none 0 0, .slice (some ⟨b8, 0, none⟩) 1 c8] 25)).alloc (.cells #[.int .i64 x0, .int .i64 x1, .string x2, .slice A3 x3.length c3, .slice A4 x4.length c4] 25)).heap[w.heap.size + 1]? = some (.cells #[.int .i64 x0, .int .i64 x1, .string x2, .slice A3 x3.length c3, .slice A4 x4.length c4] 25 (0, 0)) := by
  have h := xb (w.alloc (.cells #[.int .i64 4, .int .i64 0, .string ⟨#[]⟩, .slice none 0 0, .slice (some ⟨b8, 0, none⟩) 1 c8] 25)) (.cells #[.int .i64 x0, .int .i64 x1, .string x2, .slice A3 x3.length c3, .slice A4 x4.length c4] 25); rw [World.size_alloc] at h; exact h
 have y4' : (w.alloc (.cells #[.int .i64 4, .int .i64 0, .string ⟨#[]⟩, .slice none 0 0, .slice (some ⟨b8, 0, none⟩) 1 c8] 25)).cell? ⟨w.heap.size, 4, none⟩ = some (.slice (some ⟨b8, 0, none⟩) 1 c8) := zz (i := 4) (xb _ _) rfl; have hb1 := zf (Below.refl w.heap.size w) (.cells #[.int .i64 4, .int .i64 0, .string ⟨#[]⟩, .slice none 0 0, .slice (some ⟨b8, 0, none⟩) 1 c8] 25); have h0 := zk hb1 g0; have h1 := zk hb1 g1; have h2 := zk hb1 g2; have h3 := zk hb1 g3; have h4 := zk hb1 g4; have hp2 := hp.below hb2; have CG := aM (spec_Get.calls k1 x0 x1 x2 A3 c3 x3 _ A4 c4 x4 tgtB r0 r1 r2 r3 r4 f _ (Kd.R_reads' hp2.hk).2.2 (Kd.R_reads' hp2.hk).2.1 hp2.hv hget); have CW := aM (fun (W : World) (hW : Below w0.heap.size w0 W) (hpW : PVal G w0 W (.slice A3 x3.length c3) (.slice A4 x4.length c4) ⟨x0, x1, x2, x3, x4⟩) => spec_Without.calls k2 x0 x1 x2 (fun k => some k = (Value.slice A3 x3.length c3).ownBlock) (.slice A3 x3.length c3) x3 (fun _ => True) A4 c4 x4 tgtB y0 y1 y2 y3 y4 w0 W hW (Kd.R_mono hpW.hk (fun k hk => hk.1)) (Kd.V_mono hpW.hv (fun k hk => ⟨trivial, hk.1⟩)) hwo); have CS := aM (fun (W : World) (A3' A4' : Option Addr) (c3' c4' : Nat) (q1 : Kd.C Kd.string W A3' y3.length y3) (q2 : y3.length ≤ c3') (q3 : Kd.C kS W A4' y4.length y4) (q4 : y4.length ≤ c4') => spec_sayPort.calls k3 y0 y1 y2 A3' c3' y3 A4' c4' y4 bs W q1 q2 q3 q4 hsay); have HP2 := aM hp2; have HB2 := aM hb2; have HY2 := aM hy2; have HX2 := aM hx2; have HB0 := aM hB; have HGG := aM hG; clear hget hwo hsay hsf hr hf hy hp hp2 hb1 hb2 hy2 g0 g1 g2 g3 g4 hB hG hx ht hl3 hl4
 go_enter Tryd.func16, Tryd.ntmps16
 go_wp2
 go_loopw [3] (fun v3 wr => (v3 = .int .i64 0 ∧ wr = w.alloc (.cells #[.int .i64 4, .int .i64 0, .string ⟨#[]⟩, .slice none 0 0, .slice (some ⟨b8, 0, none⟩) 1 c8] 25)) ∨ (v3 = .int .i64 1 ∧ Aside0 (Below w0.heap.size w0 wr ∧ Kept w wr (fun k => some k = (Value.slice A3 x3.length c3).ownBlock) ∧ PVal G w0 wr (.slice A3 x3.length c3) (.slice A4 x4.length c4) ⟨x0, x1, x2, x3, x4⟩ ∧ PortIs ⟨x0, x1, x2, x3, x4⟩) ∧ Aside0 (wr.heap[w.heap.size]? = some (.cells #[.int .i64 4, .int .i64 0, .string ⟨#[]⟩, .slice none 0 0, .slice (some ⟨b8, 0, none⟩) 1 c8] 25 (0, 0))))) (fun v3 _ => 1 - (intOf v3).toNat)
 case atStart => exact .inl ⟨rfl, rfl⟩
 case round =>
  rcases hrel with ⟨rfl, rfl⟩ | ⟨rfl, HF, HY⟩
  rotate_left
  ·have z4 := zz (i := 4) HY.out rfl; have z0 := zz (i := 0) HY.out rfl; clear CG CW CS HP2 HB2 HY2 HX2 hx2 h0 h1 h2 h3 h4 y4'
   go_wp2
   go_ret
   exact ⟨true, rfl, HF.out.1, HF.out.2.1, HF.out.2.2.1, fun _ => HF.out.2.2.2⟩
  ·go_wp2_with (refine yx (.tmp 4) rfl rfl rfl hx2 ?_)
   refine CG.out.mono ?_; rintro e w3 ⟨v3_, v4_, rfl, hv3, hv4, hb3⟩; obtain ⟨B3, d3, rfl⟩ := Kd.V_slice hv3; obtain ⟨B4, d4, rfl⟩ := Kd.V_slice hv4; have hb5 := zf (Below.refl w3.heap.size w3) (.cells #[.int .i64 r0, .int .i64 r1, .string r2, .slice B3 r3.length d3, .slice B4 r4.length d4] 25); have HB5 := aM (yp (yp HB2.out hb3) hb5); have HY5 := aM ((yp hb3 hb5).block _ (yd HY2.out) |>.trans HY2.out)
   have hx5 := (yp hb3 hb5).block _ (yd hx2) |>.trans hx2
   have HP5 := aM ((HP2.out.below hb3).below hb5); have HB6 := aM (HB0.out.trans (HB5.out.mono HB0.out.size)); have hr5 := xb w3 (.cells #[.int .i64 r0, .int .i64 r1, .string r2, .slice B3 r3.length d3, .slice B4 r4.length d4] 25); clear hv3 hv4 hb3 hb5 CG HB2 HY2 hx2 HP2
   by_cases z1_ : f = true
   rotate_left
   ·replace z1_ : f = false := Bool.eq_false_iff.2 z1_; subst z1_; clear hr5 hx5 CW CS
    go_wp2
    go_ret
    exact ⟨false, rfl, HB6.out, Kept.of_below HB5.out _, HP5.out, fun h => by cases h⟩
   subst z1_; obtain ⟨k0, k1, k2, k3, k4⟩ := xh hr5; clear hr5
   by_cases z2_ : r0 = 2
   rotate_left
   ·have b2 : ((r0 : Int) != 2) = true := by simpa using z2_
    clear hx5 CW CS
    go_wp2
    go_ret
    exact ⟨false, rfl, HB6.out, Kept.of_below HB5.out _, HP5.out, fun h => by cases h⟩
   subst z2_
   by_cases z3_ : r1 < 1
   ·clear hx5 CW CS
    go_wp2
    go_ret
    exact ⟨false, rfl, HB6.out, Kept.of_below HB5.out _, HP5.out, fun h => by cases h⟩
   by_cases z4_ : r1 > 65535
   ·clear hx5 CW CS
    go_wp2
    go_ret
    exact ⟨false, rfl, HB6.out, Kept.of_below HB5.out _, HP5.out, fun h => by cases h⟩
   obtain ⟨m0, m1, m2, m3, m4⟩ := xh hx5; have HIX := aM (fun h => HIS.out rfl rfl (by omega) (by omega) h); clear hx5 HIS
   by_cases z5_ : (x3.length : Int) > 1
   rotate_left
   ·have HF := aM (HIX.out (.inl (by omega))); clear CW CS HIX
    go_wp2
    go_roundw
    case rel => exact .inr ⟨by go_num, ⟨HB6.out, Kept.of_below HB5.out _, HP5.out, HF.out⟩, HY5⟩
    case measure => first | decide | omega | (simp; done) | skip
   go_wp2_with fail
   refine (CW.out _ HB6.out HP5.out).mono ?_; rintro e w6 ⟨v3_, v4_, rfl, hk6, hv6, hb6, hkp6, hr6, _⟩; obtain ⟨A6, c6, rfl⟩ := Kd.R_slice hk6; obtain ⟨A7, c7, rfl⟩ := Kd.V_slice hv6; have HP6 := aM (HP5.out.own hkp6 hr6); have HKP6 := aM ((Kept.of_below HB5.out (fun k => some k = (Value.slice A3 x3.length c3).ownBlock)).then_ hkp6 (fun k hk => .inl hk)); have HB7 := aM hb6
   have hno : ∀ k, some k = (Value.slice A3 x3.length c3).ownBlock → k < w.heap.size := fun k hk => HGG.out k ((HP5.out.hk.1 k hk.symm).2)
   have HY6 := aM ((hkp6.2 _ (yd HY5.out) (fun h => absurd (hno _ h) (Nat.lt_irrefl _))).trans HY5.out); have C6 := aM (CS.out w6 A6 A7 c6 c7 (Kd.R_reads' hk6).2.2 (Kd.R_reads' hk6).2.1 (Kd.V_reads' hv6).2.2 (Kd.V_reads' hv6).2.1); clear hk6 hv6 hb6 hkp6 hr6 hno CW CS HY5 HP5 HB5 HB6 k0 k1 k2 k3 k4 m0 m1 m2 m3 m4
   go_wp2_with fail
   refine C6.out.mono ?_; rintro e w7 ⟨rfl, hb7⟩; have HP7 := aM (HP6.out.below hb7); have HKP7 := aM (HKP6.out.below hb7); have HB8 := aM (HB7.out.trans (hb7.mono HB7.out.size)); have HY7 := aM ((hb7.block _ (yd HY6.out)).trans HY6.out); clear hb7 HP6 HKP6 HB7 HY6 C6
   cases bs
   ·go_wp2
    go_ret
    exact ⟨false, rfl, HB8.out, HKP7.out, HP7.out, fun h => by cases h⟩
   ·have HF := aM (HIX.out (.inr rfl)); clear HIX
    go_wp2
    go_roundw
    case rel => exact .inr ⟨by go_num, ⟨HB8.out, HKP7.out, HP7.out, HF.out⟩, HY7⟩
    case measure => first | decide | omega | (simp; done) | skip
def ExactC (cs0 : List Value) (x : VS) (cs : List Value) : Prop := cs = cs0
theorem exact_row {cs0 : List Value} (h5 : cs0.length = 5) (h1 : ∀ u ∈ cs0, u.oneCell' = true) {w : World} {base c : Nat} {A : Option Addr} {ok : Nat → Prop} {e : Nat} {x : VS} (h : (held 5 (ExactC cs0) (fun h => by rw [h]; exact h5) (fun h => by rw [h]; exact h1)).R e w base ok (.slice A 1 c) [x]) : ∃ b, A = some ⟨b, 0, none⟩ ∧ ∀ i u, cs0[i]? = some u → w.cell? ⟨b, i, none⟩ = some u := by
 have hC := (Kd.R_reads' h).2.2; obtain ⟨_, inner, ho, _⟩ := h
 rcases ho.2 with ⟨h0, _⟩ | ⟨g', cap, cur, h0, _⟩
 ·injection h0 with h1 h2 h3
  cases h2
 ·injection h0 with h1 h2 h3
  subst h1; refine ⟨g', rfl, fun i u hu => ?_⟩; obtain ⟨_, _, hf⟩ := hC; obtain ⟨ad, e1, hg⟩ := hf (by simp)
  injection e1 with e1
  subst e1; obtain ⟨cs, hl, hc, hcell⟩ := hg 0 x rfl; have hc' : cs = cs0 := hc; subst hc'; have := hcell i u hu
  have e : ((⟨g', 0, none⟩ : Addr).add i) = ⟨g', i, none⟩ := by
   cases i with
   | zero => rfl
   | succ i => simp [Addr.add]
  simp only [Nat.zero_mul, Nat.zero_add] at this; rw [← e]; exact this
set_option maxHeartbeats 6400000 in
set_option maxRecDepth 100000 in
theorem part_port (x : VS) (hx : InStep x) (ht : ∀ v, v ∈ x.f4 → v.f2.size < 4611686018427387904) (hl3 : x.f3.length ≤ 8796093022000) (hl4 : x.f4.length ≤ 1759218604400) {G : Nat → Prop} {w0 w : World} {kv vv : Value} (hB : Below w0.heap.size w0 w) (hp : PVal G w0 w kv vv x) (hG : ∀ k, G k → k < w.heap.size) :
  Calls Tryd.prog 6 #[.agg #[.int .i64 x.f0, .int .i64 x.f1, .string x.f2, kv, vv]] w fun e w' => ∃ b, e = .returned (.bool b) ∧ Below w0.heap.size w0 w' ∧ Kept w w' (fun k => some k = kv.ownBlock) ∧ PVal G w0 w' kv vv x ∧ (b = true → PortIs x ∧ (getV x pubB).isSome = true ∧ (getV x proB).isSome = true ∧ (getV x hipB).isSome = true) := by
 obtain ⟨k1, hh1⟩ := (ev_Has x pubB hx).rounds; obtain ⟨k2, hh2⟩ := (ev_Has x proB hx).rounds; obtain ⟨k3, hh3⟩ := (ev_Has x hipB hx).rounds; have HSP := aM (fun (W : World) (hBW : Below w0.heap.size w0 W) (hpW : PVal G w0 W kv vv x) (hGW : ∀ k, G k → k < W.heap.size) => say_ports x hx ht hl3 hl4 hBW hpW hGW); have HIS := aM (show ∀ (_ : PortIs x) (_ : (getV x pubB).isSome = true) (_ : (getV x proB).isSome = true) (_ : (getV x hipB).isSome = true), PortIs x ∧ (getV x pubB).isSome = true ∧ (getV x proB).isSome = true ∧ (getV x hipB).isSome = true from fun a b c d => ⟨a, b, c, d⟩); generalize (PortIs x ∧ (getV x pubB).isSome = true ∧ (getV x proB).isSome = true ∧ (getV x hipB).isSome = true) = FIN at HIS ⊢; generalize (getV x pubB).isSome = f1 at hh1 HIS; generalize (getV x proB).isSome = f2 at hh2 HIS; generalize (getV x hipB).isSome = f3 at hh3 HIS; obtain ⟨A3, c3, rfl⟩ := Kd.R_slice hp.hk; obtain ⟨A4, c4, rfl⟩ := Kd.V_slice hp.hv; have CH := aM (fun (W : World) (hpW : PVal G w0 W (.slice A3 x.f3.length c3) (.slice A4 x.f4.length c4) x) => And.intro (spec_Has.calls k1 x.f0 x.f1 x.f2 A3 c3 x.f3 A4 c4 x.f4 pubB f1 W (Kd.R_reads' hpW.hk).2.2 (Kd.R_reads' hpW.hk).2.1 (Kd.V_reads' hpW.hv).2.2 (Kd.V_reads' hpW.hv).2.1 hh1) (And.intro (spec_Has.calls k2 x.f0 x.f1 x.f2 A3 c3 x.f3 A4 c4 x.f4 proB f2 W (Kd.R_reads' hpW.hk).2.2 (Kd.R_reads' hpW.hk).2.1 (Kd.V_reads' hpW.hv).2.2 (Kd.V_reads' hpW.hv).2.1 hh2) (spec_Has.calls k3 x.f0 x.f1 x.f2 A3 c3 x.f3 A4 c4 x.f4 hipB f3 W (Kd.R_reads' hpW.hk).2.2 (Kd.R_reads' hpW.hk).2.1 (Kd.V_reads' hpW.hv).2.2 (Kd.V_reads' hpW.hv).2.1 hh3))); obtain ⟨x0, x1, x2, x3, x4⟩ := x; have h5 : ([.int .i64 x0, .int .i64 x1, .string x2, .slice A3 x3.length c3, .slice A4 x4.length c4] : List Value).length = 5 := rfl
 have h1c : ∀ u ∈ ([.int .i64 x0, .int .i64 x1, .string x2, .slice A3 x3.length c3, .slice A4 x4.length c4] : List Value), u.oneCell' = true := by
  intro u hu
  simp at hu
  rcases hu with rfl | rfl | rfl | rfl | rfl <;> rfl
 have hb2 := zf (zf (Below.refl w.heap.size w) (.cells #[.int .i64 x0, .int .i64 x1, .string x2, .slice A3 x3.length c3, .slice A4 x4.length c4] 25)) (.cells #[.int .i64 x0, .int .i64 x1, .string x2, .slice A3 x3.length c3, .slice A4 x4.length c4] 25); have hx1 : (w.alloc (.cells #[.int .i64 x0, .int .i64 x1, .string x2, .slice A3 x3.length c3, .slice A4 x4.length c4] 25)).heap[w.heap.size]? = some (.cells #[.int .i64 x0, .int .i64 x1, .string x2, .slice A3 x3.length c3, .slice A4 x4.length c4] 25 (0, 0)) := xb _ _
 have hrow : ReadsRow (ExactC [.int .i64 x0, .int .i64 x1, .string x2, .slice A3 x3.length c3, .slice A4 x4.length c4]) 5 ((w.alloc (.cells #[.int .i64 x0, .int .i64 x1, .string x2, .slice A3 x3.length c3, .slice A4 x4.length c4] 25)).alloc (.cells #[.int .i64 x0, .int .i64 x1, .string x2, .slice A3 x3.length c3, .slice A4 x4.length c4] 25)) (some ⟨w.heap.size + 1, 0, none⟩) 1 [(⟨x0, x1, x2, x3, x4⟩ : VS)] := by
  have h := xb (w.alloc (.cells #[.int .i64 x0, .int .i64 x1, .string x2, .slice A3 x3.length c3, .slice A4 x4.length c4] 25)) (.cells #[.int .i64 x0, .int .i64 x1, .string x2, .slice A3 x3.length c3, .slice A4 x4.length c4] 25); rw [World.size_alloc] at h; refine ⟨rfl, by omega, fun _ => ⟨⟨w.heap.size + 1, 0, none⟩, rfl, fun j p hj => ?_⟩⟩
  match j, hj with
  | 0, hj => exact ⟨_, rfl, rfl, fun i u hu => by
    match i, hu with
    | 0, hu => exact (zz (i := 0) h rfl).trans hu
    | 1, hu => exact (zz (i := 1) h rfl).trans hu
    | 2, hu => exact (zz (i := 2) h rfl).trans hu
    | 3, hu => exact (zz (i := 3) h rfl).trans hu
    | 4, hu => exact (zz (i := 4) h rfl).trans hu
    | i + 5, hu => simp at hu⟩
  | j + 1, hj => simp at hj
 have CL := aM (listP (ExactC [.int .i64 x0, .int .i64 x1, .string x2, .slice A3 x3.length c3, .slice A4 x4.length c4]) (fun h => by rw [h]; exact h5) (fun h => by rw [h]; exact h1c) (c := 1) [(⟨x0, x1, x2, x3, x4⟩ : VS)] _ hrow (by simp)); have HB2 := aM hb2; have HX2 := aM (ze hx1 (.cells #[.int .i64 x0, .int .i64 x1, .string x2, .slice A3 x3.length c3, .slice A4 x4.length c4] 25)); have HP0 := aM hp; have HB0 := aM hB; have HGG := aM hG; clear hh1 hh2 hh3 hb2 hrow hp hB hG hx ht hl3 hl4
 go_enter Tryd.func6, Tryd.ntmps6
 go_wp2_with (refine yx (.tmp 1) rfl rfl rfl hx1 ?_)
 refine CL.out.mono ?_; rintro e w3 ⟨A8, c8, rfl, hr3, hb3⟩; obtain ⟨b8, rfl, hcell⟩ := exact_row h5 h1c hr3; have HB3 := aM (yp HB2.out hb3); have HX3 := aM ((hb3.block _ (yd HX2.out)).trans HX2.out); have CSP := aM (HSP.out w3 (HB0.out.trans (HB3.out.mono HB0.out.size)) (HP0.out.below HB3.out) (fun k hk => Nat.lt_of_lt_of_le (HGG.out k hk) HB3.out.size) b8 c8 (hcell 0 _ rfl) (hcell 1 _ rfl) (hcell 2 _ rfl) (hcell 3 _ rfl) (hcell 4 _ rfl)); clear hr3 hb3 hcell CL HB2 HX2 hx1 HSP HP0
 go_wp2_with fail
 refine CSP.out.mono ?_; rintro e w4 ⟨b, rfl, hb4, hk4, hp4, hf4⟩
 have hno : ∀ k, some k = (Value.slice A3 x3.length c3).ownBlock → k < w.heap.size := fun k hk => HGG.out k ((hp4.hk.1 k hk.symm).2)
 have hx4 := (hk4.2 _ (yd HX3.out) (fun h => absurd (hno _ h) (Nat.lt_irrefl _))).trans HX3.out; have HX4 := aM hx4; have HK4 := aM ((Kept.of_below HB3.out (fun k => some k = (Value.slice A3 x3.length c3).ownBlock)).then_ hk4 (fun k hk => .inl hk)); have HB4 := aM hb4; have HP4 := aM hp4; have HF4 := aM hf4; clear hb4 hk4 hp4 hf4 hno CSP HX3 HB3
 cases b
 ·clear hx4
  go_wp2
  go_ret
  exact ⟨false, rfl, HB4.out, HK4.out, HP4.out, fun h => by cases h⟩
 have HIQ := aM (HIS.out (HF4.out (by first | rfl | trivial))); obtain ⟨k0, k1, k2, k3, k4⟩ := xh hx4; clear hx4 HF4 HIS
 go_wp2_with fail
 refine (CH.out w4 HP4.out).1.mono ?_; rintro e w5 ⟨rfl, hb5⟩; have hx5 := (hb5.block _ (yd HX4.out)).trans HX4.out; have HX5 := aM hx5; have HK5 := aM (HK4.out.below hb5); have HB5 := aM (HB4.out.trans (hb5.mono HB4.out.size)); have HP5 := aM (HP4.out.below hb5); clear hb5 HK4 HB4 HP4 HX4 k0 k1 k2 k3 k4
 cases f1
 ·clear hx5
  go_wp2
  go_ret
  exact ⟨false, rfl, HB5.out, HK5.out, HP5.out, fun h => by cases h⟩
 obtain ⟨k0, k1, k2, k3, k4⟩ := xh hx5; clear hx5
 go_wp2_with fail
 refine (CH.out w5 HP5.out).2.1.mono ?_; rintro e w6 ⟨rfl, hb6⟩; have hx6 := (hb6.block _ (yd HX5.out)).trans HX5.out; have HK6 := aM (HK5.out.below hb6); have HB6 := aM (HB5.out.trans (hb6.mono HB5.out.size)); have HP6 := aM (HP5.out.below hb6); clear hb6 HK5 HB5 HP5 HX5 k0 k1 k2 k3 k4
 cases f2
 ·clear hx6
  go_wp2
  go_ret
  exact ⟨false, rfl, HB6.out, HK6.out, HP6.out, fun h => by cases h⟩
 obtain ⟨k0, k1, k2, k3, k4⟩ := xh hx6; clear hx6
 go_wp2_with fail
 refine (CH.out w6 HP6.out).2.2.mono ?_; rintro e w7 ⟨rfl, hb7⟩; have HK7 := aM (HK6.out.below hb7); have HB7 := aM (HB6.out.trans (hb7.mono HB6.out.size)); have HP7 := aM (HP6.out.below hb7); have HIR := aM (HIQ.out (by first | rfl | trivial) (by first | rfl | trivial)); clear hb7 HK6 HB6 HP6 HIQ k0 k1 k2 k3 k4
 cases f3
 ·go_wp2
  go_ret
  exact ⟨false, rfl, HB7.out, HK7.out, HP7.out, fun h => by cases h⟩
 ·go_wp2
  go_ret
  exact ⟨true, rfl, HB7.out, HK7.out, HP7.out, fun _ => HIR.out (by first | rfl | trivial)⟩
end Go.Proofs.YtceojjlpeacfgaaDoor.Tr
namespace Go.Proofs.YtceojjlpeacfgaaDoor.Tr
open Go.RowKit Go.Proofs.YtceojjlpeacfgaaDoorW.PrintWords Go.Proofs.YtceojjlpeacfgaaDoorW.PrintLast Go.Proofs.YtceojjlpeacfgaaDoor.Str Go.Proofs.YtceojjlpeacfgaaDoor.Kit Go.Proofs.YtceojjlpeacfgaaDoor.MapV Go.Proofs.YtceojjlpeacfgaaDoor.Frame Go.Proofs.YtceojjlpeacfgaaDoor.PS
open Go.Proofs.YtceojjlpeacfgaaDoor.Val (place placeI placeB xv placeI_end)
mutual
def toI : VS → VI
 | ⟨k, n, t, ks, vs⟩ => ⟨k, n, t, ks, toL vs⟩
def toL : List VS → List VI
 | [] => []
 | v :: r => toI v :: toL r
end
theorem toL_map : ∀ vs, toL vs = vs.map toI
 | [] => by simp [toL]
 | v :: r => by simp [toL, toL_map r]
theorem toL_length (vs : List VS) : (toL vs).length = vs.length := by rw [toL_map, List.length_map]
theorem etaI (x : VI) : (⟨x.f0, x.f1, x.f2, x.f3, x.f4⟩ : VI) = x := by cases x; rfl
theorem toI_eq (x : VS) : toI x = ⟨x.f0, x.f1, x.f2, x.f3, toL x.f4⟩ := by cases x; simp [toI]
theorem toL_drop {vs : List VS} {i : Nat} (h : i < vs.length) : (toL vs).drop i = toI vs[i] :: (toL vs).drop (i + 1) := by
 rw [List.drop_eq_getElem_cons (by rw [toL_length]; exact h)]; simp only [toL_map, List.getElem_map]
def tupI (x : VI) : Int × Int × BA × List BA × List VI := (x.f0, x.f1, x.f2, x.f3, x.f4)
def ToEv (x : VS) : Prop := Ev (fun k => laws_to.f k x.f0 x.f1 x.f2 x.f3 x.f4) (tupI (toI x))
theorem ev_to_l0 (a b : Int) (c : BA) (ks : List BA) (vs : List VS) (p q : Int) (r : BA) (rk : List BA) (hvl : vs.length ≤ 1759218604400) (hch : ∀ v, v ∈ vs → ToEv v) : ∀ (d i : Nat) (acc : List VI), i + d = vs.length → acc.length = i →
  Ev (fun k => laws_to.l0 k (i : Int) a b c ks vs p q r rk acc) (p, q, r, rk, acc ++ (toL vs).drop i) := by
 intro d
 induction d with
 | zero =>
  intro i acc hi ha; refine yf (fun k => ?_) (Ev.now _); simp only [laws_to.l0]; rw [if_neg (by omega), List.drop_eq_nil_of_le (by rw [toL_length]; omega), List.append_nil]
 | succ d ih =>
  intro i acc hi ha
  have hlt : i < vs.length := by omega
  refine yf (f := fun k => (laws_to.f k vs[i].f0 vs[i].f1 vs[i].f2 vs[i].f3 vs[i].f4).bind fun bt => laws_to.l0 k ((i + 1 : Nat) : Int) a b c ks vs p q r rk (acc ++ [(⟨bt.1, bt.2.1, bt.2.2.1, bt.2.2.2.1, bt.2.2.2.2⟩ : VI)])) (fun k => ?_) ?_
  ·simp only [laws_to.l0]; rw [if_pos (by omega), if_pos (by omega), rdS hlt]; refine congrArg _ (funext fun bt => ?_); rw [if_pos (by omega), wrapS i (by omega)]
  ·refine xm (hch vs[i] (List.getElem_mem hlt)) ?_; have := ih (i + 1) (acc ++ [toI vs[i]]) (by omega) (by simp [ha]); rw [List.append_assoc, List.singleton_append, ← toL_drop hlt] at this; simp only [tupI, etaI]; exact this
theorem ev_to : ∀ x : VS, SmallS x → ToEv x := by
 intro x hx
 induction hx with
 | mk x ht hk hkl hvl hv ih =>
  obtain ⟨k, n, t, ks, vs⟩ := x; have hkl' : ks.length ≤ 8796093022000 := hkl; have h := ev_to_l0 k n t ks vs k n t ks hvl ih vs.length 0 [] (by omega) rfl; rw [List.drop_zero, List.nil_append] at h
  unfold ToEv
  rw [toI_eq]; refine yf (fun j => ?_) h; simp only [laws_to.f, Option.bind_some, List.nil_append, List.length_nil, Nat.zero_add]; rw [if_pos (by omega)]; rfl
theorem small_to : ∀ x : VS, SmallS x → Small (toI x) := by
 intro x hx
 induction hx with
 | mk x ht hk hkl hvl hv ih =>
  rw [toI_eq]; refine Small.mk _ hk hkl (by show (toL x.f4).length ≤ _; rw [toL_length]; exact hvl) (fun v hv' => ?_)
  have hv2 : v ∈ x.f4.map toI := by rw [← toL_map]; exact hv'
  obtain ⟨u, hu, rfl⟩ := List.mem_map.1 hv2; exact ih u hu
theorem withK_mem {ks : List BA} {key s : BA} (h : s ∈ withK ks key) : s ∈ ks ∨ s = key := by
 unfold withK at h
 split at h
 ·exact .inl h
 ·rcases List.mem_append.1 h with h | h
  ·exact .inl (List.mem_of_mem_take h)
  ·rcases List.mem_append.1 h with h | h
   ·exact .inr (by simpa using h)
   ·exact .inl (List.mem_of_mem_drop h)
theorem withV_mem {α : Type} {ks : List BA} {vs : List α} {key : BA} {x v : α} (h : v ∈ withV ks vs key x) : v ∈ vs ∨ v = x := by
 unfold withV at h
 split at h
 ·exact List.mem_or_eq_of_mem_set h
 ·rcases List.mem_append.1 h with h | h
  ·exact .inl (List.mem_of_mem_take h)
  ·rcases List.mem_append.1 h with h | h
   ·exact .inr (by simpa using h)
   ·exact .inl (List.mem_of_mem_drop h)
def RiseK (ks : List BA) : Prop := ks.Pairwise (fun a b => lb a < lb b)
theorem place_cons_lt {x key : BA} {r : List BA} (h : lb x < lb key) : placeI (x :: r) key = placeI r key + 1 ∧ placeB (x :: r) key = placeB r key := by
 have h1 : placeI (x :: r) key = placeI r key + 1 := by
  unfold placeI
  rw [List.takeWhile_cons_of_pos (by simpa using h), List.length_cons]
 refine ⟨h1, ?_⟩
 unfold placeB
 rw [h1, List.getElem?_cons_succ]
theorem place_cons_ge {x key : BA} {r : List BA} (h : ¬ lb x < lb key) : placeI (x :: r) key = 0 ∧ placeB (x :: r) key = (x.toList == key.toList) := by
 have h1 : placeI (x :: r) key = 0 := by
  unfold placeI
  rw [List.takeWhile_cons_of_neg (by simpa using h)]; rfl
 refine ⟨h1, ?_⟩
 unfold placeB
 rw [h1, List.getElem?_cons_zero]
theorem withK_rises : ∀ {ks : List BA} {key : BA}, RiseK ks → RiseK (withK ks key)
 | [], key, _ => by
  have : withK [] key = [key] := rfl; rw [this]
  simp [RiseK]
 | x :: r, key, h => by
  obtain ⟨h1, h2⟩ := List.pairwise_cons.1 h
  by_cases hl : lb x < lb key
  ·obtain ⟨e1, e2⟩ := place_cons_lt (r := r) hl
   have e : withK (x :: r) key = x :: withK r key := by
    unfold withK
    rw [e1, e2]
    split
    ·rfl
    ·rfl
   rw [e]; refine List.pairwise_cons.2 ⟨fun s hs => ?_, withK_rises h2⟩
   rcases withK_mem hs with hs | rfl
   ·exact h1 s hs
   ·exact hl
  ·obtain ⟨e1, e2⟩ := place_cons_ge (r := r) hl
   by_cases he : x.toList = key.toList
   ·have e : withK (x :: r) key = x :: r := by
     unfold withK
     rw [e2, if_pos (by simpa using he)]
    rw [e]; exact h
   ·have hne : lb x ≠ lb key := fun e => he (by rw [yo, yo, e])
    have hgt : lb key < lb x := by
     rcases lt_total (lb x) (lb key) with e | e | e
     ·exact absurd e hl
     ·exact absurd e hne
     ·exact e
    have e : withK (x :: r) key = key :: x :: r := by
     unfold withK
     rw [e1, e2, if_neg (by simpa using he)]; rfl
    rw [e]; refine List.pairwise_cons.2 ⟨fun s hs => ?_, h⟩
    rcases List.mem_cons.1 hs with rfl | hs
    ·exact hgt
    ·exact lt_trans hgt (h1 s hs)
theorem fitW_facts : ∀ (ks : List BA) (vs : List VS) (K : List BA) (V : List VS), K.length = V.length → RiseK K →
  (fitW ks vs K V).1.length = (fitW ks vs K V).2.length ∧ RiseK (fitW ks vs K V).1 ∧ (fitW ks vs K V).1.length ≤ K.length + ks.length ∧ (fitW ks vs K V).2.length ≤ V.length + vs.length ∧ (∀ s, s ∈ (fitW ks vs K V).1 → s ∈ K ∨ s ∈ ks) ∧ (∀ v, v ∈ (fitW ks vs K V).2 → v ∈ V ∨ v ∈ vs)
 | [], vs, K, V, hl, hr => ⟨hl, hr, by simp [fitW], by simp [fitW], fun s h => .inl h, fun v h => .inl h⟩
 | k :: ks, [], K, V, hl, hr => ⟨hl, hr, by simp [fitW], by simp [fitW], fun s h => .inl h, fun v h => .inl h⟩
 | k :: ks, v :: vs, K, V, hl, hr => by
  have hlv := withV_length (key := k) (x := v) hl; have hlk := withK_length (ks := K) (key := k); obtain ⟨a, b, c, d, e, f⟩ := fitW_facts ks vs (withK K k) (withV K V k v) hlv.symm (withK_rises hr); refine ⟨a, b, ?_, ?_, fun s hs => ?_, fun u hu => ?_⟩
  ·show (fitW ks vs (withK K k) (withV K V k v)).1.length ≤ _
   rw [List.length_cons]
   omega
  ·show (fitW ks vs (withK K k) (withV K V k v)).2.length ≤ _
   rw [List.length_cons]
   omega
  ·rcases e s hs with h | h
   ·rcases withK_mem h with h | rfl
    ·exact .inl h
    ·exact .inr (by simp)
   ·exact .inr (by simp [h])
  ·rcases f u hu with h | h
   ·rcases withV_mem h with h | rfl
    ·exact .inl h
    ·exact .inr (by simp)
   ·exact .inr (by simp [h])
inductive Fitted : VS → Prop
 | mk (x : VS) (hl : x.f3.length = x.f4.length ∨ x.f3 = []) (hr : RiseK x.f3) (h5 : x.f0 ≠ 5 → x.f3 = []) (hm : x.f0 = 5 → x.f3.length = x.f4.length) (hv : ∀ v, v ∈ x.f4 → Fitted v) : Fitted x
theorem leaf_fitted (k n : Int) (t : BA) : Fitted (leaf k n t) := .mk _ (.inr rfl) List.Pairwise.nil (fun _ => rfl) (fun _ => rfl) (fun v h => by cases h)
theorem leaf_small (k n : Int) (t : BA) (ht : t.size ≤ 140737488355328) : SmallS (leaf k n t) := .mk _ ht (fun s h => by cases h) (Nat.zero_le _) (Nat.zero_le _) (fun v h => by cases h)
theorem fit_facts : ∀ x : VS, SmallS x → SmallS (fitV x) ∧ Fitted (fitV x) := by
 intro x hx
 induction hx with
 | mk x ht hk hkl hvl hv ih =>
  obtain ⟨k, n, t, ks, vs⟩ := x
  have hch : ∀ v, v ∈ fitL vs → SmallS v ∧ Fitted v := by
   intro v hv'; rw [fitL_map] at hv'; obtain ⟨u, hu, rfl⟩ := List.mem_map.1 hv'; exact ih u hu
  unfold fitV
  split
  ·split
   ·exact ⟨leaf_small _ _ _ (by first | exact ht | exact Nat.zero_le _), leaf_fitted _ _ _⟩
   ·exact ⟨leaf_small _ _ _ (by first | exact ht | exact Nat.zero_le _), leaf_fitted _ _ _⟩
  split
  ·exact ⟨leaf_small _ _ _ (by first | exact ht | exact Nat.zero_le _), leaf_fitted _ _ _⟩
  split
  ·exact ⟨leaf_small _ _ _ (by first | exact ht | exact Nat.zero_le _), leaf_fitted _ _ _⟩
  split
  ·refine ⟨.mk _ (Nat.zero_le _) (fun s h => by cases h) (Nat.zero_le _) (by show (fitL vs).length ≤ _; rw [fitL_length]; exact hvl) (fun v h => (hch v h).1), .mk _ (.inr rfl) List.Pairwise.nil (fun _ => rfl) (fun h => by cases h) (fun v h => (hch v h).2)⟩
  split
  ·obtain ⟨a, b, c, d, e, f⟩ := fitW_facts ks (fitL vs) [] [] rfl List.Pairwise.nil; have hkl' : ks.length ≤ 8796093022000 := hkl; have hvl' : vs.length ≤ 1759218604400 := hvl; rw [fitL_length] at d; simp only [List.length_nil, Nat.zero_add] at c d
   have f' : ∀ v, v ∈ (fitW ks (fitL vs) [] []).2 → SmallS v ∧ Fitted v := fun v h => by
    rcases f v h with h | h
    ·cases h
    ·exact hch v h
   refine ⟨.mk _ (Nat.zero_le _) (fun s h => ?_) (by show (fitW ks (fitL vs) [] []).1.length ≤ _; omega) (by show (fitW ks (fitL vs) [] []).2.length ≤ _; omega) (fun v h => (f' v h).1), .mk _ (.inl a) b (fun h => absurd rfl h) (fun _ => a) (fun v h => (f' v h).2)⟩
   rcases e s h with h | h
   ·cases h
   ·exact hk s h
  ·exact ⟨leaf_small _ _ _ (by first | exact ht | exact Nat.zero_le _), leaf_fitted _ _ _⟩
theorem Fitted.inStep {x : VS} (h : Fitted x) (hs : SmallS x) : InStep x := by
 cases h with
 | mk _ hl hr h5 hm hv =>
  cases hs with
  | mk _ _ hk hkl hvl _ =>
   refine ⟨?_, by omega⟩
   rcases hl with h | h
   ·omega
   ·rw [h]; exact Nat.zero_le _
theorem mget_place {α : Type} {key : BA} : ∀ {ks : List BA} {ys : List α}, RiseK ks → ks.length = ys.length → mget ((ks.map lb).zip ys) (lb key) = if placeB ks key = true then ys[placeI ks key]? else none
 | [], ys, _, _ => rfl
 | x :: r, [], _, h => by simp at h
 | x :: r, y :: ys, hr, hl => by
  obtain ⟨h1, h2⟩ := List.pairwise_cons.1 hr; have ih := mget_place (key := key) h2 (by simpa using hl : r.length = ys.length); rw [List.map_cons, List.zip_cons_cons]
  by_cases hlt : lb x < lb key
  ·obtain ⟨e1, e2⟩ := place_cons_lt (r := r) hlt; rw [e1, e2, List.getElem?_cons_succ, ← ih]
   unfold mget
   rw [List.find?_cons_of_neg (by simpa using lt_ne hlt)]
  ·obtain ⟨e1, e2⟩ := place_cons_ge (r := r) hlt
   by_cases he : lb x = lb key
   ·have : (x.toList == key.toList) = true := by rw [yo, yo, he]; exact beq_self_eq_true _
    rw [e1, e2, if_pos this, List.getElem?_cons_zero]
    unfold mget
    rw [List.find?_cons_of_pos (by simpa using he)]; rfl
   ·have hne : (x.toList == key.toList) = false := by rw [yo, yo]; simpa using he
    have hgt : lb key < lb x := by
     rcases lt_total (lb x) (lb key) with e | e | e
     ·exact absurd e hlt
     ·exact absurd e he
     ·exact e
    rw [e2, if_neg (by rw [hne]; decide)]
    unfold mget
    rw [List.find?_eq_none.2 (fun p hp => ?_)]
    ·rfl
    ·rcases List.mem_cons.1 hp with rfl | hp
     ·simpa using he
     ·obtain ⟨a, b⟩ := p; have ha : a ∈ r.map lb := (List.of_mem_zip hp).1; obtain ⟨s, hs, rfl⟩ := List.mem_map.1 ha; have := lt_trans hgt (h1 s hs)
      simpa using (lt_ne this).symm
theorem fitM_id {α : Type} : ∀ {l : List (Bs × α)}, Rises l → fitM l = l := by
 intro l
 have go : ∀ (r f : List (Bs × α)), Rises (f ++ r) → r.foldl (fun f p => mput f p.1 p.2) f = f ++ r := by
  intro r
  induction r with
  | nil => intro f _; simp
  | cons p r ih =>
   intro f h
   have hp : mput f p.1 p.2 = f ++ [p] := by
    have h1 := mput_ins (key := p.1) (v := p.2) f.length (f := f) ((List.pairwise_append.1 h).1) (fun j hj _ => (List.pairwise_append.1 h).2.2 _ (List.getElem_mem hj) p (by simp)) (Nat.le_refl _) (fun h => absurd h (Nat.lt_irrefl _)); rw [h1, List.take_length, List.drop_length]
   rw [List.foldl_cons, hp, ih (f ++ [p]) (by simpa using h)]
   simp
 intro h; have := go l [] (by simpa using h)
 simpa [fitM] using this
theorem pairs_rise {α : Type} {ks : List BA} : ∀ {ys : List α}, RiseK ks → Rises ((ks.map lb).zip ys) := by
 induction ks with
 | nil => intro ys _; exact List.Pairwise.nil
 | cons x r ih =>
  intro ys h
  cases ys with
  | nil => exact List.Pairwise.nil
  | cons y ys =>
   obtain ⟨h1, h2⟩ := List.pairwise_cons.1 h; rw [List.map_cons, List.zip_cons_cons]; refine List.pairwise_cons.2 ⟨fun p hp => ?_, ih h2⟩; obtain ⟨a, b⟩ := p; obtain ⟨s, hs, rfl⟩ := List.mem_map.1 (List.of_mem_zip hp).1; exact h1 s hs
theorem mapOf_get {x : VS} (h : Fitted x) (h5 : x.f0 = 5) (key : BA) : mget (mapOf (toI x)) (lb key) = (getV x key).map (fun v => anyOf (toI v)) := by
 cases h with
 | mk _ hl hr h5' hm hv =>
  have hlen := hm h5
  unfold mapOf
  rw [toI_eq]
  show mget (fitM (pairsOf x.f3 (toL x.f4))) (lb key) = _
  unfold pairsOf
  rw [fitM_id (pairs_rise hr), mget_place hr (by rw [xz, toL_length]; exact hlen)]
  unfold getV
  by_cases hb : placeB x.f3 key = true
  ·rw [if_pos hb, if_pos ⟨h5, hb⟩, anyL_map, toL_map, List.getElem?_map, List.getElem?_map, Option.map_map]; rfl
  ·rw [if_neg hb, if_neg (fun h => hb h.2)]; rfl
end Go.Proofs.YtceojjlpeacfgaaDoor.Tr
namespace Go.Proofs
open Go.Shelf
def Tryd.lays156_ren : Go.Shelf.Ren := ⟨fun | 156 => 39 | 165 => 42 | 166 => 43 | 169 => 44 | 240 => 47 | 241 => 48 | 276 => 53 | 277 => 54 | n => n, fun | 31 => 22 | 9 => 9 | 3 => 3 | 4 => 4 | 0 => 0 | 20 => 20 | 72 => 75 | 76 => 77 | 70 => 72 | 37 => 73 | 75 => 45 | 127 => 81 | 164 => 88 | 5 => 5 | 80 => 79 | n => n, fun | n => n⟩
theorem Tryd.lays156 : Go.Proofs.Lays.n156 Tryd.prog Tryd.lays156_ren := {
 mixed := by kernel_rfl
 f156 := Tryd.func39.trans (congrArg some (by kernel_rfl))
 f165 := Tryd.func42.trans (congrArg some (by kernel_rfl))
 f166 := Tryd.func43.trans (congrArg some (by kernel_rfl))
 f169 := Tryd.func44.trans (congrArg some (by kernel_rfl))
 f240 := Tryd.func47.trans (congrArg some (by kernel_rfl))
 f241 := Tryd.func48.trans (congrArg some (by kernel_rfl))
 f276 := Tryd.func53.trans (congrArg some (by kernel_rfl))
 f277 := Tryd.func54.trans (congrArg some (by kernel_rfl))
 t0 := Tryd.underlying0
 a0 := Tryd.isAgg0
 z0 := Tryd.sizeOf0
 v0 := Tryd.zeroValue0
 t3 := Tryd.underlying3
 a3 := Tryd.isAgg3
 z3 := Tryd.sizeOf3
 v3 := Tryd.zeroValue3
 t4 := Tryd.underlying4
 a4 := Tryd.isAgg4
 z4 := Tryd.sizeOf4
 v4 := Tryd.zeroValue4
 t9 := Tryd.underlying9
 a9 := Tryd.isAgg9
 z9 := Tryd.sizeOf9
 v9 := Tryd.zeroValue9
 t20 := Tryd.underlying20
 a20 := Tryd.isAgg20
 z20 := Tryd.sizeOf20
 v20 := Tryd.zeroValue20
 t31 := Tryd.underlying22
 a31 := Tryd.isAgg22
 z31 := Tryd.sizeOf22
 v31 := Tryd.zeroValue22
 t37 := Tryd.underlying73
 a37 := Tryd.isAgg73
 z37 := Tryd.sizeOf73
 v37 := Tryd.zeroValue73
 t70 := Tryd.underlying72
 a70 := Tryd.isAgg72
 z70 := Tryd.sizeOf72
 v70 := Tryd.zeroValue72
 t72 := Tryd.underlying75
 a72 := Tryd.isAgg75
 z72 := Tryd.sizeOf75
 v72 := Tryd.zeroValue75
 t75 := Tryd.underlying45
 a75 := Tryd.isAgg45
 z75 := Tryd.sizeOf45
 v75 := Tryd.zeroValue45
 t76 := Tryd.underlying77
 a76 := Tryd.isAgg77
 z76 := Tryd.sizeOf77
 v76 := Tryd.zeroValue77
 t127 := Tryd.underlying81
 a127 := Tryd.isAgg81
 z127 := Tryd.sizeOf81
 v127 := Tryd.zeroValue81
 t164 := Tryd.underlying88
 a164 := Tryd.isAgg88
 z164 := Tryd.sizeOf88
 v164 := Tryd.zeroValue88 }
theorem Tryd.Builder_Extra_156 : Builder.Extra Tryd.prog Tryd.lays156_ren := {
 sizeBuilder := by kernel_rfl
 liesBuilder := by kernel_rfl
 t5 := Tryd.underlying5
 a5 := Tryd.isAgg5
 z5 := Tryd.sizeOf5
 v5 := Tryd.zeroValue5
 infoByte := by kernel_rfl
 cellsByte := by kernel_rfl
 sizeByte := by kernel_rfl
 neB5 := by decide }
open Go.RowKit in
theorem Tryd.strings_Join_none (a : Option Addr) (c : Nat) (sep : ByteArray) (w : World) :
  Calls Tryd.prog 39 #[.slice a 0 c, .string sep] w fun e w' => e = .returned (.string ⟨#[]⟩) ∧ w' = w := Any.strings_Join_none Tryd.lays156 Tryd.Builder_Extra_156 a c sep w
open Go.RowKit in
theorem Tryd.strings_Join (bk o c : Nat) (xs : List ByteArray) (sep : ByteArray) (w : World) (hcells : ∀ (j : Nat) x, xs[j]? = some x → w.cell? ⟨bk, o + j, none⟩ = some (.string x)) (hbk : bk < w.heap.size) (hN : xs.length ≤ 140737488355328) (hcap : xs.length ≤ c) (hlen : (Lib.join (xs.map (·.data.toList)) sep.data.toList).length ≤ 140737488355328) :
  Calls Tryd.prog 39 #[.slice (some ⟨bk, o, none⟩) xs.length c, .string sep] w fun e w' => e = .returned (.string ⟨(Lib.join (xs.map (·.data.toList)) sep.data.toList).toArray⟩) ∧ Below w.heap.size w w' := Any.strings_Join Tryd.lays156 Tryd.Builder_Extra_156 bk o c xs sep w hcells hbk hN hcap hlen
def Tryd.laysM171_ren : Go.Shelf.Ren := ⟨fun | 171 => 35 | 243 => 40 | 246 => 45 | 283 => 49 | 284 => 50 | 285 => 51 | 286 => 52 | 129 => 56 | 317 => 55 | 318 => 57 | 319 => 58 | 320 => 59 | 337 => 60 | 338 => 61 | n => n, fun | 3 => 3 | 9 => 9 | 2 => 2 | 4 => 4 | 171 => 82 | 0 => 0 | 53 => 83 | 37 => 73 | 5 => 5 | 173 => 86 | 212 => 93 | 51 => 94 | 20 => 20 | 213 => 95 | 46 => 97 | 232 => 100 | 233 => 101 | n => n, fun | 17 => 0 | 18 => 2 | 19 => 3 | n => n⟩
theorem Tryd.laysM171 : Go.Proofs.LaysM.n171 Tryd.prog Tryd.laysM171_ren := {
 mixed := by kernel_rfl
 f129 := Tryd.func56.trans (congrArg some (by kernel_rfl))
 f171 := Tryd.func35.trans (congrArg some (by kernel_rfl))
 f243 := Tryd.func40.trans (congrArg some (by kernel_rfl))
 f246 := Tryd.func45.trans (congrArg some (by kernel_rfl))
 f283 := Tryd.func49.trans (congrArg some (by kernel_rfl))
 f284 := Tryd.func50.trans (congrArg some (by kernel_rfl))
 f285 := Tryd.func51.trans (congrArg some (by kernel_rfl))
 f286 := Tryd.func52.trans (congrArg some (by kernel_rfl))
 f317 := Tryd.func55.trans (congrArg some (by kernel_rfl))
 f318 := Tryd.func57.trans (congrArg some (by kernel_rfl))
 f319 := Tryd.func58.trans (congrArg some (by kernel_rfl))
 f320 := Tryd.func59.trans (congrArg some (by kernel_rfl))
 f337 := Tryd.func60.trans (congrArg some (by kernel_rfl))
 f338 := Tryd.func61.trans (congrArg some (by kernel_rfl))
 t0 := Tryd.underlying0
 a0 := Tryd.isAgg0
 z0 := Tryd.sizeOf0
 v0 := Tryd.zeroValue0
 t2 := Tryd.underlying2
 a2 := Tryd.isAgg2
 z2 := Tryd.sizeOf2
 v2 := Tryd.zeroValue2
 t3 := Tryd.underlying3
 a3 := Tryd.isAgg3
 z3 := Tryd.sizeOf3
 v3 := Tryd.zeroValue3
 t4 := Tryd.underlying4
 a4 := Tryd.isAgg4
 z4 := Tryd.sizeOf4
 v4 := Tryd.zeroValue4
 t5 := Tryd.underlying5
 a5 := Tryd.isAgg5
 z5 := Tryd.sizeOf5
 v5 := Tryd.zeroValue5
 t9 := Tryd.underlying9
 a9 := Tryd.isAgg9
 z9 := Tryd.sizeOf9
 v9 := Tryd.zeroValue9
 t20 := Tryd.underlying20
 a20 := Tryd.isAgg20
 z20 := Tryd.sizeOf20
 v20 := Tryd.zeroValue20
 t37 := Tryd.underlying73
 a37 := Tryd.isAgg73
 z37 := Tryd.sizeOf73
 v37 := Tryd.zeroValue73
 t46 := Tryd.underlying97
 a46 := Tryd.isAgg97
 z46 := Tryd.sizeOf97
 v46 := Tryd.zeroValue97
 t51 := Tryd.underlying94
 a51 := Tryd.isAgg94
 z51 := Tryd.sizeOf94
 v51 := Tryd.zeroValue94
 t53 := Tryd.underlying83
 a53 := Tryd.isAgg83
 z53 := Tryd.sizeOf83
 v53 := Tryd.zeroValue83
 t171 := Tryd.underlying82
 a171 := Tryd.isAgg82
 z171 := Tryd.sizeOf82
 v171 := Tryd.zeroValue82
 t173 := Tryd.underlying86
 a173 := Tryd.isAgg86
 z173 := Tryd.sizeOf86
 v173 := Tryd.zeroValue86
 t212 := Tryd.underlying93
 a212 := Tryd.isAgg93
 z212 := Tryd.sizeOf93
 v212 := Tryd.zeroValue93
 t213 := Tryd.underlying95
 a213 := Tryd.isAgg95
 z213 := Tryd.sizeOf95
 t232 := Tryd.underlying100
 a232 := Tryd.isAgg100
 z232 := Tryd.sizeOf100
 v232 := Tryd.zeroValue100
 t233 := Tryd.underlying101
 a233 := Tryd.isAgg101
 z233 := Tryd.sizeOf101
 v233 := Tryd.zeroValue101
 g17 := by kernel_rfl
 g18 := by kernel_rfl
 g19 := by kernel_rfl
 i0 := by kernel_rfl
 i2 := by kernel_rfl
 i3 := by kernel_rfl
 i4 := by kernel_rfl
 i5 := by kernel_rfl
 i9 := by kernel_rfl
 i20 := by kernel_rfl
 i37 := by kernel_rfl
 i46 := by kernel_rfl
 i51 := by kernel_rfl
 i53 := by kernel_rfl
 i171 := by kernel_rfl
 i173 := by kernel_rfl
 i212 := by kernel_rfl
 i232 := by kernel_rfl
 i233 := by kernel_rfl
 m17 := by kernel_rfl
 m18 := by kernel_rfl
 m19 := by kernel_rfl }
open Go.RowKit Go.Sort Go.Lib in
theorem Tryd.strconv_Itoa (n : Int) (h0 : -9223372036854775808 ≤ n) (h1 : n ≤ 9223372036854775807) (w : World) (htab : Lib.TabIs Tryd.prog w "internal/strconv.uint64pow10" .u64 Lib.pow10Tab) :
  Calls Tryd.prog 35 #[.int .i64 n] w fun e w' => e = .returned (.string ⟨(Lib.itoa n).toArray⟩) ∧ ∃ k os, w' = grow (w.drewN k) os := Any.strconv_Itoa Tryd.laysM171 n h0 h1 w htab
end Go.Proofs
namespace Go.Proofs.YtceojjlpeacfgaaDoor.Mount
open Go.RowKit Go.Proofs.YtceojjlpeacfgaaDoorW.PrintWords Go.Proofs.YtceojjlpeacfgaaDoor.Str Go.Proofs.YtceojjlpeacfgaaDoor.Kit Go.Proofs.YtceojjlpeacfgaaDoor.Frame
theorem join_C {A : Option Addr} {c : Nat} {xs : List ByteArray} (sep : ByteArray) (w : World) (h : Kd.string.C w A xs.length xs) (hc : xs.length ≤ c)
  (hN : xs.length ≤ 140737488355328) (hlen : (Lib.join (xs.map lb) (lb sep)).length ≤ 140737488355328) :
  Calls Tryd.prog 39 #[.slice A xs.length c, .string sep] w fun e w' => e = .returned (.string ⟨(Lib.join (xs.map lb) (lb sep)).toArray⟩) ∧ Below w.heap.size w w' := by
 rcases Nat.eq_zero_or_pos xs.length with h0 | h0
 ·obtain rfl := List.eq_nil_of_length_eq_zero h0
  exact (Tryd.strings_Join_none A c sep w).mono fun e w' ⟨he, hw⟩ => ⟨he, hw ▸ Below.refl _ _⟩
 ·obtain ⟨bk, off, rfl, hbk, hcell⟩ := strs_open h h0
  exact Tryd.strings_Join bk off c xs sep w (fun j x hx => by
   obtain ⟨hj, rfl⟩ := List.getElem?_eq_some_iff.1 hx
   exact hcell j hj) hbk hN hc hlen
def newPath (xs : List ByteArray) : ByteArray := ⟨(Lib.join (xs.map lb) [46]).toArray⟩
set_option maxHeartbeats 400000 in
theorem tree_NewPath {A : Option Addr} {c : Nat} {xs : List ByteArray} (w : World) (h : Kd.string.C w A xs.length xs) (hc : xs.length ≤ c)
  (hN : xs.length ≤ 140737488355328) (hlen : (newPath xs).size ≤ 140737488355328) :
  Calls Tryd.prog 31 #[.slice A xs.length c] w fun e w' => e = .returned (.string (newPath xs)) ∧ Below w.heap.size w w' := by
 have H := aM h; have HC := aM hc; have HN := aM hN; have HL := aM hlen; clear h hc hN hlen
 go_enter Tryd.func31, Tryd.ntmps31
 go_wp2_with fail
 refine (join_C ⟨#[46]⟩ w H.out HC.out HN.out (by have := HL.out; rw [← lb_length, newPath, lb_mk] at this; exact this)).mono ?_; rintro e w1 ⟨rfl, hb⟩; have HB := aM hb; clear hb
 go_wp2
 go_ret
 exact ⟨rfl, HB.out⟩
set_option maxHeartbeats 400000 in
theorem implAt (w : World) : Calls Tryd.prog 22 #[] w fun e w' => ∃ p, e = .returned (.string p) ∧ Below w.heap.size w w' := by
 have HC := aM (show Kd.string.C (w.alloc (.cells #[.string ⟨#[97, 116]⟩] 9)) (some ⟨w.heap.size, 0, none⟩) [(⟨#[97, 116]⟩ : ByteArray)].length [⟨#[97, 116]⟩] from strs_lit w 9 [(⟨#[97, 116]⟩ : ByteArray)] (by decide))
 go_enter Tryd.func22, Tryd.ntmps22
 go_wp2_with fail
 refine (tree_NewPath (c := 1) (xs := [(⟨#[97, 116]⟩ : ByteArray)]) _ HC.out (Nat.le_refl _) (by simp) (by decide)).mono ?_; rintro e w1 ⟨rfl, hb⟩; have HB := aM (yp ((Below.refl _ w).alloc (Nat.le_refl _) _) hb); clear hb
 go_wp2
 go_ret
 exact ⟨_, rfl, HB.out⟩
set_option maxHeartbeats 400000 in
theorem implIndex (s : ByteArray) (w : World) : Calls Tryd.prog 19 #[.string s, .nilIface] w fun e w' => e = .returned (.tuple #[.string s, .bool true]) ∧ w' = w := by
 go_enter Tryd.func19, Tryd.ntmps19
 go_wp2
 go_ret2
 exact ⟨rfl, rfl⟩
end Go.Proofs.YtceojjlpeacfgaaDoor.Mount
namespace Go.Proofs.YtceojjlpeacfgaaDoor.Tr
open Go.Proofs.YtceojjlpeacfgaaDoor.Str
open Go.Lib (itoa decDigits)
def digVal (l : List UInt8) : Nat := l.foldl (fun a c => 10 * a + (c.toNat - 48)) 0
theorem digVal_snoc (l : List UInt8) (c : UInt8) : digVal (l ++ [c]) = 10 * digVal l + (c.toNat - 48) := by
 unfold digVal
 rw [List.foldl_append]; rfl
theorem dig_toNat (u : Nat) (h : u < 10) : (UInt8.ofNat (48 + u)).toNat = 48 + u := by
 rw [UInt8.toNat_ofNat']
 omega
theorem digVal_dec : ∀ u : Nat, digVal (decDigits u) = u := by
 intro u
 induction u using Nat.strongRecOn with
 | _ u ih =>
  rw [decDigits]
  split
  ·rename_i h
   show 10 * 0 + ((UInt8.ofNat (48 + u)).toNat - 48) = u
   rw [dig_toNat u h]
   omega
  ·rename_i h
   rw [digVal_snoc, ih (u / 10) (by omega), dig_toNat (u % 10) (by omega)]
   omega
theorem dec_digit : ∀ (u : Nat) (c : UInt8), c ∈ decDigits u → 48 ≤ c.toNat ∧ c.toNat ≤ 57 := by
 intro u
 induction u using Nat.strongRecOn with
 | _ u ih =>
  intro c hc; rw [decDigits] at hc
  split at hc
  ·rename_i h
   obtain rfl := List.mem_singleton.1 hc; rw [dig_toNat u h]
   omega
  ·rename_i h
   rcases List.mem_append.1 hc with hc | hc
   ·exact ih (u / 10) (by omega) c hc
   ·obtain rfl := List.mem_singleton.1 hc; rw [dig_toNat (u % 10) (by omega)]
    omega
theorem dec_inj {a b : Nat} (h : decDigits a = decDigits b) : a = b := by rw [← digVal_dec a, ← digVal_dec b, h]
theorem cut_first {c : UInt8} : ∀ {a a' b b' : List UInt8}, c ∉ a → c ∉ a' → a ++ c :: b = a' ++ c :: b' → a = a' ∧ b = b'
 | [], [], b, b', _, _, h => ⟨rfl, by simpa using h⟩
 | [], x :: a', b, b', _, h2, h => by
  exfalso
  have : c = x := by simpa using (List.cons.inj (by simpa using h : c :: b = x :: (a' ++ c :: b'))).1
  exact h2 (by simp [this])
 | x :: a, [], b, b', h1, _, h => by
  exfalso
  have : x = c := by simpa using (List.cons.inj (by simpa using h : x :: (a ++ c :: b) = c :: b')).1
  exact h1 (by simp [this])
 | x :: a, y :: a', b, b', h1, h2, h => by
  have h3 := List.cons.inj (by simpa using h : x :: (a ++ c :: b) = y :: (a' ++ c :: b')); obtain ⟨e1, e2⟩ := cut_first (a := a) (a' := a') (b := b) (b' := b') (fun hh => h1 (by simp [hh])) (fun hh => h2 (by simp [hh])) h3.2; exact ⟨by rw [h3.1, e1], e2⟩
def portL (h p : List UInt8) (t : Nat) (q : List UInt8) : List UInt8 := h ++ 58 :: (p ++ 58 :: (decDigits t ++ 47 :: q))
theorem portL_inj {h p q h' p' q' : List UInt8} {t t' : Nat} (h1 : (58 : UInt8) ∉ h) (h2 : (58 : UInt8) ∉ h') (p1 : (58 : UInt8) ∉ p) (p2 : (58 : UInt8) ∉ p') (e : portL h p t q = portL h' p' t' q') : h = h' ∧ p = p' ∧ t = t' ∧ q = q' := by
 unfold portL at e
 obtain ⟨e1, e⟩ := cut_first h1 h2 e; obtain ⟨e2, e⟩ := cut_first p1 p2 e
 have hd : ∀ u : Nat, (47 : UInt8) ∉ decDigits u := fun u hc => by
  have := (dec_digit u 47 hc).1
  simp at this
 obtain ⟨e3, e4⟩ := cut_first (hd t) (hd t') e; exact ⟨e1, e2, dec_inj e3, e4⟩
end Go.Proofs.YtceojjlpeacfgaaDoor.Tr
namespace Go.Proofs.YtceojjlpeacfgaaDoor.Tr
open Go.RowKit Go.Proofs.YtceojjlpeacfgaaDoorW.PrintWords Go.Proofs.YtceojjlpeacfgaaDoorW.PrintLast Go.Proofs.YtceojjlpeacfgaaDoor.Str Go.Proofs.YtceojjlpeacfgaaDoor.Kit Go.Proofs.YtceojjlpeacfgaaDoor.MapV Go.Proofs.YtceojjlpeacfgaaDoor.Frame Go.Proofs.YtceojjlpeacfgaaDoor.PS
theorem AR.look {w : World} {b : Nat} {m : List (Bs × Y)} {F : Nat → Prop} (h : AR w (.iface 58 (.map (some b))) (.map m) F) : ∃ f, MapA w b f ∧ ∀ k y, mget m k = some y → ∃ v G, mget f k = some v ∧ AR w v y G := by
 cases h with
 | map b zs ys _ hy hm hz hd hb hF =>
  refine ⟨_, hm, fun k y hg => ?_⟩; subst hy
  unfold mget at hg ⊢
  rw [List.find?_map] at hg ⊢
  have e1 : ((fun p : Bs × Y => p.1 == k) ∘ fun z : Bs × En => (z.1, z.2.2.1)) = fun z : Bs × En => z.1 == k := rfl
  have e2 : ((fun p : Bs × Value => p.1 == k) ∘ fun z : Bs × En => (z.1, z.2.1)) = fun z : Bs × En => z.1 == k := rfl
  rw [e1] at hg; rw [e2]
  cases hf : zs.find? (fun z => z.1 == k) with
  | none => rw [hf] at hg; cases hg
  | some z =>
   rw [hf] at hg; have hzm := List.mem_of_find?_eq_some hf
   have hyy : z.2.2.1 = y := by simpa using hg
   exact ⟨z.2.1, z.2.2.2, rfl, hyy ▸ hz z hzm⟩
theorem AR.text_inv {w : World} {v : Value} {s : BA} {F : Nat → Prop} (h : AR w v (.text s) F) : v = .iface 9 (.string s) := by cases h; rfl
theorem AR.int_inv {w : World} {v : Value} {n : Int} {F : Nat → Prop} (h : AR w v (.int n) F) : v = .iface 3 (.int .i64 n) := by cases h; rfl
theorem p_map_int (v : Value) (w : World) : (Instr.typeAssert (.iface 58 v) 20 3 true).run Tryd.prog w = .ok (.tuple #[.int .i64 0, .bool false]) w := by kernel_rfl
theorem p_map_map (v : Value) (w : World) : (Instr.typeAssert (.iface 58 v) 20 58 true).run Tryd.prog w = .ok (.tuple #[v, .bool true]) w := by kernel_rfl
theorem p_str_bool (v : Value) (w : World) : (Instr.typeAssert (.iface 9 v) 20 4 true).run Tryd.prog w = .ok (.tuple #[.bool false, .bool false]) w := by kernel_rfl
theorem p_str_int (v : Value) (w : World) : (Instr.typeAssert (.iface 9 v) 20 3 true).run Tryd.prog w = .ok (.tuple #[.int .i64 0, .bool false]) w := by kernel_rfl
theorem p_str_str (v : Value) (w : World) : (Instr.typeAssert (.iface 9 v) 20 9 true).run Tryd.prog w = .ok (.tuple #[v, .bool true]) w := by kernel_rfl
theorem p_int_bool (v : Value) (w : World) : (Instr.typeAssert (.iface 3 v) 20 4 true).run Tryd.prog w = .ok (.tuple #[.bool false, .bool false]) w := by kernel_rfl
theorem p_int_int (v : Value) (w : World) : (Instr.typeAssert (.iface 3 v) 20 3 true).run Tryd.prog w = .ok (.tuple #[v, .bool true]) w := by kernel_rfl
theorem p_nil (T : TypeId) (v : Value) (w : World) : (binOp BinOp.eql 20 (.iface T v) .nilIface).run Tryd.prog w = .ok (.bool false) w := by kernel_rfl
def PTab (w : World) : Prop := Lib.TabIs Tryd.prog w "internal/strconv.uint64pow10" .u64 Lib.pow10Tab
def tgtL : BA := ⟨#[116, 97, 114, 103, 101, 116]⟩
def pubL : BA := ⟨#[112, 117, 98, 108, 105, 115, 104, 101, 100]⟩
def hipL : BA := ⟨#[104, 111, 115, 116, 95, 105, 112]⟩
def proL : BA := ⟨#[112, 114, 111, 116, 111, 99, 111, 108]⟩
set_option maxHeartbeats 800000 in
theorem textVerb (s : BA) (w : World) : Calls Tryd.prog 38 #[.iface 9 (.string s)] w fun e w' => e = .returned (.string s) ∧ w = w' := by
 have f0 := p_nil; have f1 := p_str_bool; have f2 := p_str_int; have f3 := p_str_str
 go_enter Tryd.func38, Tryd.ntmps38
 go_wp2
 go_ret
 exact ⟨rfl, rfl⟩
set_option maxHeartbeats 800000 in
theorem numberVerb (n : Int) (h0 : 0 ≤ n) (h1 : n ≤ 65535) (w : World) (hT : PTab w) : Calls Tryd.prog 37 #[.iface 3 (.int .i64 n)] w fun e w' => e = .returned (.string ⟨(Lib.decDigits n.toNat).toArray⟩) ∧ Below w.heap.size w w' := by
 have f0 := p_nil; have f1 := p_int_bool; have f2 := p_int_int; have CI := aM (Tryd.strconv_Itoa n (by omega) (by omega) w hT); rw [show Lib.itoa n = Lib.decDigits n.toNat by unfold Lib.itoa; rw [if_neg (by omega)]] at CI; clear hT
 go_enter Tryd.func37, Tryd.ntmps37
 go_wp2_with fail
 refine CI.out.mono ?_; rintro e w1 ⟨rfl, k, os, rfl⟩; have HB := aM (Lib.below_grow w.heap.size w (Nat.le_refl _) k os); clear CI
 go_wp2
 go_ret
 exact ⟨rfl, HB.out⟩
theorem dec_len : ∀ (k u : Nat), u < 10 ^ (k + 1) → (Lib.decDigits u).length ≤ k + 1
 | 0, u, h => by
  rw [Lib.decDigits, dif_pos (by simpa using h)]
  simp
 | k + 1, u, h => by
  rw [Lib.decDigits]
  split
  ·simp
  ·have h2 : u / 10 < 10 ^ (k + 1) := by
    rw [Nat.pow_succ] at h
    omega
   have := dec_len k (u / 10) h2; simp only [List.length_append, List.length_cons, List.length_nil]
   omega
def portT (h p : BA) (t : Int) (q : BA) : BA := (((((h ++ ⟨#[58]⟩) ++ p) ++ ⟨#[58]⟩) ++ ⟨(Lib.decDigits t.toNat).toArray⟩) ++ ⟨#[47]⟩) ++ q
theorem portT_lb (h p : BA) (t : Int) (q : BA) : lb (portT h p t q) = portL (lb h) (lb p) t.toNat (lb q) := by
 simp [portT, portL, lb, ByteArray.data_append]
set_option maxHeartbeats 3200000 in
set_option maxRecDepth 100000 in
theorem portIndexer_map (b : Nat) (pth hst pub pro : BA) (t : Int) (ht0 : 0 ≤ t) (ht1 : t ≤ 65535) (hz1 : hst.size ≤ 140737488355328) (hz2 : pub.size ≤ 140737488355328) (hz3 : pro.size ≤ 140737488355328) (f : List (Bs × Value)) (w : World) (hT : PTab w) (hm : MapA w b f) (h1 : mget f (lb tgtL) = some (.iface 3 (.int .i64 t))) (h2 : mget f (lb pubL) = some (.iface 9 (.string pub))) (h3 : mget f (lb hipL) = some (.iface 9 (.string hst))) (h4 : mget f (lb proL) = some (.iface 9 (.string pro))) :
  Calls Tryd.prog 29 #[.iface 58 (.map (some b)), .string pth] w fun e w' => e = .returned (.tuple #[.string (portT hst pub t pro), .nilIface]) ∧ Below w.heap.size w w' := by
 have f1 := p_map_int; have f2 := p_map_map; have k1 := xr (s := tgtL) akey_u amap_u (Tryd.zeroValue20 w) hm (by decide); have k2 := xr (s := pubL) akey_u amap_u (Tryd.zeroValue20 w) hm (by decide); have k3 := xr (s := hipL) akey_u amap_u (Tryd.zeroValue20 w) hm (by decide); have k4 := xr (s := proL) akey_u amap_u (Tryd.zeroValue20 w) hm (by decide); rw [h1] at k1; rw [h2] at k2; rw [h3] at k3; rw [h4] at k4; simp only [Option.map_some, Option.getD_some, Option.isSome_some, id] at k1 k2 k3 k4
 unfold tgtL at k1
 unfold pubL at k2
 unfold hipL at k3
 unfold proL at k4
 have CN := aM (numberVerb t ht0 ht1 w hT)
 unfold portT
 have hD0 : (⟨(Lib.decDigits t.toNat).toArray⟩ : BA).size ≤ 5 := by
  show (Lib.decDigits t.toNat).toArray.size ≤ 5
  rw [List.size_toArray]; exact dec_len 4 t.toNat (by omega)
 generalize (⟨(Lib.decDigits t.toNat).toArray⟩ : BA) = D at CN hD0 ⊢; clear hm h1 h2 h3 h4 hT ht0 ht1
 go_enter Tryd.func29, Tryd.ntmps29
 go_wp2_with fail
 refine (textVerb hst w).mono ?_; rintro e w1 ⟨rfl, rfl⟩
 go_wp2_with fail
 refine (textVerb pub w).mono ?_; rintro e w1 ⟨rfl, rfl⟩
 go_wp2_with fail
 refine CN.out.mono ?_; rintro e w2 ⟨rfl, hb⟩; have HB := aM hb; clear hb CN k1 k2 k3 k4
 go_wp2_with fail
 refine (textVerb pro w2).mono ?_; rintro e w3 ⟨rfl, rfl⟩
 go_wp2
 go_ret2
 exact ⟨rfl, HB.out⟩
set_option maxHeartbeats 800000 in
theorem overridePort_map (b : Nat) (pth : BA) (T : BA) (w : World) (C : Calls Tryd.prog 29 #[.iface 58 (.map (some b)), .string pth] w fun e w' => e = .returned (.tuple #[.string T, .nilIface]) ∧ Below w.heap.size w w') :
  Calls Tryd.prog 20 #[.iface 58 (.map (some b)), .string pth] w fun e w' => e = .returned (.tuple #[.string T, .nilIface]) ∧ Below w.heap.size w w' := by
 have CV := aM C; clear C
 go_enter Tryd.func20, Tryd.ntmps20
 go_wp2_with fail
 refine CV.out.mono ?_; rintro e w2 ⟨rfl, hb⟩; have HB := aM hb; clear hb
 go_wp2
 go_ret2
 exact ⟨rfl, HB.out⟩
end Go.Proofs.YtceojjlpeacfgaaDoor.Tr
