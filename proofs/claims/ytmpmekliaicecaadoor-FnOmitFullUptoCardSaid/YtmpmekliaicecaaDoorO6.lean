/- Parts of the proof, laid together: QLawsTo, ToMap, ToAny, PureFit, PureTo, QLawsFrom, PureFrom, Canon, IYV, OmitPlain. -/
import Derived.Test.YtmpmekliaicecaaDoorO3
import Derived.Laws.IdiomCopy
import Derived.Test.YtmpmekliaicecaaDoorO4
import Derived.Test.YtmpmekliaicecaaDoorO5
import Derived.Test.YtmpmekliaicecaaDoorO2
set_option linter.unusedVariables false
set_option linter.unusedSimpArgs false
namespace Go.Proofs.YtmpmekliaicecaaDoor.PS
open Go.RowKit Go.Proofs.YtmpmekliaicecaaDoorW.PrintWords Go.Proofs.YtmpmekliaicecaaDoorW.PrintLast Go.Proofs.YtmpmekliaicecaaDoorW.PrintMore
attribute [local go_sem] xg xe xn xm yz yy xf xd 
mutual
def laws_to.l0 : Nat → Int → Int → Int → ByteArray → List ByteArray → List (S25) → Int → Int → ByteArray → List ByteArray → List (S33) → Option (Int × Int × ByteArray × List ByteArray × (List (S33)))
 | 0, _, _, _, _, _, _, _, _, _, _, _ => none
 | k + 1, x4, x441000, x441001, x441002, x441003, x441004, x449000, x449001, x449002, x449003, x449004 => if x4 < (x441004.length : Int) then (if 0 ≤ x4 then ((laws_to.f k ((rd_T25 x441004 x4).f0) ((rd_T25 x441004 x4).f1) ((rd_T25 x441004 x4).f2) ((rd_T25 x441004 x4).f3) ((rd_T25 x441004 x4).f4)).bind fun bt450 => (if x449004.length < 1759218604441 then (laws_to.l0 k (wrap64 (x4 + 1)) x441000 x441001 x441002 x441003 x441004 x449000 x449001 x449002 x449003 (x449004 ++ [(⟨bt450.1, bt450.2.1, bt450.2.2.1, bt450.2.2.2.1, bt450.2.2.2.2⟩ : S33)])) else (none))) else (none)) else (some (x449000, x449001, x449002, x449003, x449004))
def laws_to.f : Nat → Int → Int → ByteArray → List ByteArray → List (S25) → Option (Int × Int × ByteArray × List ByteArray × (List (S33)))
 | 0, _, _, _, _, _ => none
 | k + 1, a0_0, a0_1, a0_2, l0_3, l0_4 => (some (([] : List ByteArray) : List ByteArray)).bind fun y442 => (if y442.length + l0_3.length < 8796093022208 then (laws_to.l0 k 0 a0_0 a0_1 a0_2 l0_3 l0_4 a0_0 a0_1 a0_2 (y442 ++ l0_3) ([] : List (S33))) else (none))
end
def laws_to.T1 : Bool × List (List Nat × List Nat) := (true, [([], []), ([0], [0]), ([], []), ([2], [2]), ([], []), ([4], [4]), ([], []), ([], []), ([7], [7]), ([6, 8], [6, 8]), ([1, 3, 5, 9], [1, 3, 5, 9]), ([], []), ([11, 10, 9, 0, 1, 2, 3, 4, 5, 6, 7, 8, 9, 10, 11], [10, 11])])
def laws_to.B1 : List Nat := [0, 1, 0, 4, 0, 16, 0, 0, 128, 448, 1023, 0, 4095]
theorem laws_to.tab1 : rtab .any (opsOf Tryd.f11 1) = laws_to.T1 := by kernel_rfl
theorem laws_to.bits1 : waitsOk laws_to.T1.2 laws_to.B1 = true := by kernel_rfl
def laws_to.T5 : Bool × List (List Nat × List Nat) := (true, [([], []), ([0], [0]), ([], []), ([2], [2]), ([], []), ([3, 4], [3, 4]), ([5], [5]), ([6], [6]), ([7], [7]), ([1, 8, 7], [1, 8]), ([0, 1, 2, 3, 4, 5, 6, 7, 8, 9], []), ([10, 9, 9, 0, 1, 2, 3, 4, 5, 6, 7, 8, 9], [9, 10])])
def laws_to.B5 : List Nat := [0, 1, 0, 4, 0, 28, 60, 124, 252, 511, 1023, 2047]
theorem laws_to.tab5 : rtab .any (opsOf Tryd.f11 5) = laws_to.T5 := by kernel_rfl
theorem laws_to.bits5 : waitsOk laws_to.T5.2 laws_to.B5 = true := by kernel_rfl
set_option maxHeartbeats 8000000 in
set_option maxRecDepth 100000 in
theorem laws_to.calls (k : Nat) : ∀ (a0_0 : Int) (a0_1 : Int) (a0_2 : ByteArray) (A0_3 : Option Addr) (c0_3 : Nat) (l0_3 : List ByteArray) (A0_4 : Option Addr) (c0_4 : Nat) (l0_4 : List (S25)) (r1 : Int) (r2 : Int) (r3 : ByteArray) (r4 : List ByteArray) (r5 : List (S33)) (w : World) (hr0_3 : Kd.C Kd.string w A0_3 l0_3.length l0_3) (hc0_3 : l0_3.length ≤ c0_3) (hr0_4 : Kd.C k25 w A0_4 l0_4.length l0_4) (hc0_4 : l0_4.length ≤ c0_4) (h : laws_to.f k a0_0 a0_1 a0_2 l0_3 l0_4 = some (r1, r2, r3, r4, r5)),
  Calls Tryd.prog 11 #[.agg #[.int .i64 a0_0, .int .i64 a0_1, .string a0_2, .slice A0_3 l0_3.length c0_3, .slice A0_4 l0_4.length c0_4]] w fun e w' => ∃ v3_ v4_ : Value, e = .returned (.agg #[.int .i64 r1, .int .i64 r2, .string r3, v3_, v4_]) ∧ Kd.R Kd.string 9 w' w.heap.size (fun _ => True) v3_ r4 ∧ Kd.R k33 33 w' w.heap.size (fun k_ => some k_ ≠ (v3_ : Value).ownBlock) v4_ r5 ∧ Below w.heap.size w w' := by
 induction k using Nat.strongRecOn with
 | _ k ih =>
 intro a0_0 a0_1 a0_2 A0_3 c0_3 l0_3 A0_4 c0_4 l0_4 r1 r2 r3 r4 r5 w hr0_3 hc0_3 hr0_4 hc0_4 h
 cases k with
 | zero => exact absurd h (by simp [laws_to.f])
 | succ k =>
 simp only [laws_to.f] at h; have hu25 := Tryd.underlying25; have hu33 := Tryd.underlying33; have HR0_3 := aM hr0_3; have HC0_3 := aM hc0_3; clear hr0_3 hc0_3; have HR0_4 := aM hr0_4; have HC0_4 := aM hc0_4; clear hr0_4 hc0_4; have HB := aM (Below.refl w.heap.size w); have H : ((some (([] : List ByteArray) : List ByteArray)).bind fun y442 => (if y442.length + l0_3.length < 8796093022208 then (laws_to.l0 k 0 a0_0 a0_1 a0_2 l0_3 l0_4 a0_0 a0_1 a0_2 (y442 ++ l0_3) ([] : List (S33))) else (none))) = some (r1, r2, r3, r4, r5) := h; clear h
 obtain ⟨y442, hy442⟩ : ∃ y_ : List ByteArray, y_ = (([] : List ByteArray)) := ⟨_, rfl⟩
 replace H : (if y442.length + l0_3.length < 8796093022208 then (laws_to.l0 k 0 a0_0 a0_1 a0_2 l0_3 l0_4 a0_0 a0_1 a0_2 (y442 ++ l0_3) ([] : List (S33))) else (none)) = some (r1, r2, r3, r4, r5) := by first | (rw [hy442]; with_reducible exact H) | (have H2_ := (Option.bind_some _ _).symm.trans H; rw [hy442]; with_reducible exact H2_) | (have H2_ := (Option.bind_some _ _).symm.trans H; with_reducible exact H2_) | with_reducible exact H | (rw [hy442]; exact H) | exact H
 have Ny442 := aM hy442; clear hy442
 by_cases c2 : y442.length + l0_3.length < 8796093022208
 ·rw [if_pos c2] at H; have LMc2 := aM c2; clear c2
  obtain ⟨y445, hy445⟩ : ∃ y_ : List ByteArray, y_ = (y442 ++ l0_3) := ⟨_, rfl⟩
  replace H : (laws_to.l0 k 0 a0_0 a0_1 a0_2 l0_3 l0_4 a0_0 a0_1 a0_2 y445 ([] : List (S33))) = some (r1, r2, r3, r4, r5) := by first | (rw [hy445]; with_reducible exact H) | (have H2_ := (Option.bind_some _ _).symm.trans H; rw [hy445]; with_reducible exact H2_) | (have H2_ := (Option.bind_some _ _).symm.trans H; with_reducible exact H2_) | with_reducible exact H | (rw [hy445]; exact H) | exact H
  have Ny445 := aM hy445; clear hy445; have H' := aM H; clear H
  go_enter Tryd.func11, Tryd.ntmps11
  try go_wp2_with (first | ((with_reducible refine yl (N := 1) rfl ?_); refine yh ?hg (N := 1) ?hd (cs := #[.int .i64 a0_0, .int .i64 a0_1, .string a0_2, .slice A0_3 l0_3.length c0_3, .slice A0_4 l0_4.length c0_4]) (t := 25) ?hr ?_; (case hd => rfl); (case hg => rfl); (case hr => first | (go_simp; done) | (go_simp; rfl)); intro gb440 hg w3 hbox hb; have n0_ := aM (zq (by repeat (first | (with_reducible first | exact HB.out | apply zb | apply ze | apply zj) | exact HB.out)) hb); have n1_ := aM (hbox); have n2_ := aM ((by rw [hg]; exact (zl (by repeat (first | (with_reducible first | exact HB.out | apply zb | apply ze | apply zj) | exact HB.out))) : w.heap.size ≤ gb440)); have n3_ := aM ((by rw [hg]; exact (zl (by repeat (first | (with_reducible first | exact HB.out | apply zb | apply ze | apply zj) | exact HB.out))) : w.heap.size ≤ gb440)); clear HB; have HB := n0_; have BK440 := n1_; have GW440 := n2_; have GE440 := n3_; clear n0_ n1_ n2_ n3_; clear hb hbox hg) | ((with_reducible refine yl (N := 2) rfl ?_); refine yh ?hg (N := 2) ?hd (cs := #[.int .i64 0, .int .i64 0, .string (⟨#[]⟩ : ByteArray), .slice none 0 0, .slice none 0 0]) (t := 33) ?hr ?_; (case hd => rfl); (case hg => rfl); (case hr => first | (go_simp; done) | (go_simp; rfl)); intro gb441 hg w4 hbox hb; have n0_ := aM (zo (g := gb440) (o := .cells #[.int .i64 a0_0, .int .i64 a0_1, .string a0_2, .slice A0_3 l0_3.length c0_3, .slice A0_4 l0_4.length c0_4] 25 (0, 0)) (by (with_reducible repeat (first | refine zf ?_ _ | refine zh ?_ | refine zc ?_ _)); exact BK440.out) hb); have n1_ := aM (zq (by repeat (first | (with_reducible first | exact HB.out | apply zb | apply ze | apply zj | refine zg ?_ GE440.out) | exact HB.out)) hb); have n2_ := aM (hbox); have n3_ := aM ((by rw [hg]; exact (zl (by repeat (first | (with_reducible first | exact HB.out | apply zb | apply ze | apply zj | refine zg ?_ GE440.out) | exact HB.out))) : w.heap.size ≤ gb441)); have n4_ := aM ((by rw [hg]; exact (zl (by repeat (first | (with_reducible first | exact HB.out | apply zb | apply ze | apply zj | refine zg ?_ GE440.out) | exact HB.out))) : w.heap.size ≤ gb441)); have n5_ := aM ((by rw [hg]; exact Nat.ne_of_lt (yi (g := gb440) (o := .cells #[.int .i64 a0_0, .int .i64 a0_1, .string a0_2, .slice A0_3 l0_3.length c0_3, .slice A0_4 l0_4.length c0_4] 25 (0, 0)) (by (with_reducible repeat (first | refine zf ?_ _ | refine zh ?_ | refine zc ?_ _)); exact BK440.out)) : gb440 ≠ gb441)); have n6_ := aM ((by rw [hg]; exact Nat.ne_of_gt (yi (g := gb440) (o := .cells #[.int .i64 a0_0, .int .i64 a0_1, .string a0_2, .slice A0_3 l0_3.length c0_3, .slice A0_4 l0_4.length c0_4] 25 (0, 0)) (by (with_reducible repeat (first | refine zf ?_ _ | refine zh ?_ | refine zc ?_ _)); exact BK440.out)) : gb441 ≠ gb440)); clear BK440; clear HB; have BK440 := n0_; have HB := n1_; have BK441 := n2_; have GW441 := n3_; have GE441 := n4_; have NB440_441 := n5_; have NB441_440 := n6_; clear n0_ n1_ n2_ n3_ n4_ n5_ n6_; clear hb hbox hg))
  have n0_ := aM (zh BK440.out); have n1_ := aM (zh BK441.out); have n2_ := aM (zj HB.out); clear BK440 BK441 HB; have BK440 := n0_; have BK441 := n1_; have HB := n2_; clear n0_ n1_ n2_; refine xc (n := 13) (S := fun w' => w'.cell? ⟨gb440, 0, none⟩ = some (.int .i64 a0_0) ∧ w'.cell? ⟨gb440, 1, none⟩ = some (.int .i64 a0_1) ∧ w'.cell? ⟨gb440, 2, none⟩ = some (.string a0_2) ∧ w'.cell? ⟨gb440, 3, none⟩ = some (.slice A0_3 l0_3.length c0_3) ∧ w'.cell? ⟨gb440, 4, none⟩ = some (.slice A0_4 l0_4.length c0_4)) (ds := []) (bZ 13 0) (by kernel_rfl) rfl rfl ⟨(za BK440.out 0).trans rfl, (za BK440.out 1).trans rfl, (za BK440.out 2).trans rfl, (za BK440.out 3).trans rfl, (za BK440.out 4).trans rfl⟩ (fun hHeld => ?_); refine xk laws_to.tab1 laws_to.bits1 (fun HT_ HW_ => ?_); generalize w4.drew = w5 at BK440 BK441 HB hHeld ⊢; refine pU 0 (some 5) (bZ 13 1) rfl (ye HT_.out (by kernel_rfl)) ?_; refine pU 2 (some 7) (bZ 13 5) rfl (ye HT_.out (by kernel_rfl)) ?_; refine pU 4 (some 9) (bZ 13 21) rfl (ye HT_.out (by kernel_rfl)) ?_; refine pU 7 (some 12) (bZ 13 149) rfl (ye HT_.out (by kernel_rfl)) ?_; refine tU 1 (some 6) (bZ 13 151) rfl (yg HT_.out HW_.out (by kernel_rfl)) (Or.inl ⟨by rfl, by rintro w' ⟨s0, s1, s2, s3, s4⟩; go_simp; with_reducible rfl⟩) hHeld ?_; refine tU 3 (some 8) (bZ 13 159) rfl (yg HT_.out HW_.out (by kernel_rfl)) (Or.inl ⟨by rfl, by rintro w' ⟨s0, s1, s2, s3, s4⟩; go_simp; with_reducible rfl⟩) hHeld ?_; refine tU 5 (some 10) (bZ 13 191) rfl (yg HT_.out HW_.out (by kernel_rfl)) (Or.inl ⟨by rfl, by rintro w' ⟨s0, s1, s2, s3, s4⟩; go_simp; with_reducible rfl⟩) hHeld ?_; refine tU 8 (some 13) (bZ 13 447) rfl (yg HT_.out HW_.out (by kernel_rfl)) (Or.inl ⟨by rfl, by rintro w' ⟨s0, s1, s2, s3, s4⟩; go_simp; with_reducible rfl⟩) hHeld ?_; refine join_ (σ := Value × Value × Nat) 1 (bZ 13 4095) (fun s_ => [(11, s_.1), (14, s_.2.1), (3, .pointer (some ⟨s_.2.2, 0, none⟩)), (15, .agg #[.int .i64 a0_0, .int .i64 a0_1, .string a0_2, s_.2.1, .slice none 0 0])]) (fun s_ w' => (w'.cell? ⟨gb440, 0, none⟩ = some (.int .i64 a0_0) ∧ w'.cell? ⟨gb440, 1, none⟩ = some (.int .i64 a0_1) ∧ w'.cell? ⟨gb440, 2, none⟩ = some (.string a0_2) ∧ w'.cell? ⟨gb440, 3, none⟩ = some (.slice A0_3 l0_3.length c0_3) ∧ w'.cell? ⟨gb440, 4, none⟩ = some (.slice A0_4 l0_4.length c0_4)) ∧ (Kd.R Kd.string 9 w' w.heap.size (fun _ => True) s_.2.1 y445) ∧ (w'.heap[gb440]? = some (.cells #[.int .i64 a0_0, .int .i64 a0_1, .string a0_2, .slice A0_3 l0_3.length c0_3, .slice A0_4 l0_4.length c0_4] 25 (0, 0))) ∧ (w'.heap[gb441]? = some (.cells #[.int .i64 0, .int .i64 0, .string (⟨#[]⟩ : ByteArray), .slice none 0 0, .slice none 0 0] 33 (0, 0))) ∧ (w'.heap[s_.2.2]? = some (.cells #[.int .i64 0, .int .i64 0, .string (⟨#[]⟩ : ByteArray), .slice none 0 0, .slice none 0 0] 33 (0, 0))) ∧ (w.heap.size ≤ s_.2.2) ∧ (w.heap.size ≤ s_.2.2) ∧ (gb440 ≠ s_.2.2) ∧ (s_.2.2 ≠ gb440) ∧ (gb441 ≠ s_.2.2) ∧ (s_.2.2 ≠ gb441) ∧ (Below w.heap.size w w')) ?_ ?_; rotate_left
  ·intro hCont; refine two_ (i := 6) (j := 11) (Ni := some 11) (Nj := some 3) (bZ 13 511) (bZ 13 2495) rfl rfl rfl rfl (two_of HT_.out (by kernel_rfl)) (by decide) (by decide) (fun K hK => ?_) (fun K hK => ?_)
   ·skip
    refine Kd.R_lit_step Kd.string _ 9 ?hg (N := 11) ?hd (xs := ([] : List ByteArray)) (inner := []) (ok := fun _ => True) (okp := fun _ => True) ?hr ?hp (fun _ hk => hk) trivial (Below.refl _ _) (Nat.le_refl _) (by simp) ?_; (case hd => rfl); (case hg => rfl); (case hr => first | (go_simp; done) | (go_simp; rfl)); (case hp => exact (Reps.none _ _)); intro v443 w6 ho7 hb hg_ hnew_; clear hg_ hnew_
    (first | rw [← Ny442.out] at ho7 | (simp only [Int.reduceToNat] at ho7; rw [← Ny442.out] at ho7))
    have n0_ := aM (Kd.R_lower ho7 (zl (by repeat (first | (with_reducible first | exact HB.out | apply zb | apply ze | apply zj | refine zg ?_ GE440.out | refine zg ?_ GE441.out) | exact HB.out)))); have n1_ := aM (zo (g := gb440) (o := .cells #[.int .i64 a0_0, .int .i64 a0_1, .string a0_2, .slice A0_3 l0_3.length c0_3, .slice A0_4 l0_4.length c0_4] 25 (0, 0)) (by (with_reducible repeat (first | refine zf ?_ _ | refine zh ?_ | refine zc ?_ _)); exact BK440.out) hb); have n2_ := aM (zo (g := gb441) (o := .cells #[.int .i64 0, .int .i64 0, .string (⟨#[]⟩ : ByteArray), .slice none 0 0, .slice none 0 0] 33 (0, 0)) (by (with_reducible repeat (first | refine zf ?_ _ | refine zh ?_ | refine zc ?_ _)); exact BK441.out) hb); have n3_ := aM (zq (by repeat (first | (with_reducible first | exact HB.out | apply zb | apply ze | apply zj | refine zg ?_ GE440.out | refine zg ?_ GE441.out) | exact HB.out)) hb); clear BK440 BK441 HB; have HO444 := n0_; have BK440 := n1_; have BK441 := n2_; have HB := n3_; clear n0_ n1_ n2_ n3_ hb ho7; refine hK.out _ _ ⟨(za BK440.out 0).trans rfl, (za BK440.out 1).trans rfl, (za BK440.out 2).trans rfl, (za BK440.out 3).trans rfl, (za BK440.out 4).trans rfl⟩ (fun hHeld => ?_); clear hK K; refine zt (a' := ?_) ?_ ?_; rotate_left
    ·show Act.put _ (some 11) _ = _
     simp only [Act.put, sA, sB, sC, zw, zx]; rfl
    refine two_ (i := 9) (j := 11) (Ni := some 14) (Nj := some 3) (bZ 13 1023) (bZ 13 2559) rfl rfl rfl rfl (two_of HT_.out (by kernel_rfl)) (by decide) (by decide) (fun K hK => ?_) (fun K hK => ?_)
    ·skip
     refine Kd.R_append_rows_step Kd.string (w0 := w) w.heap.size (by rfl) (.tmp 11) (.tmp 13) 22 9 (.string ⟨#[]⟩) 16 rfl Tryd.underlying22 info9 rfl (by decide) (by omega) v443 y442 l0_3 _ _ _ (fun _ => True) (fun _ => False) rfl rfl ?aO ?aR (fun _ _ h => h) (fun _ h => h.elim) ?aF ?aB ?aS ?aL ?_
     (case aR => repeat (first | exact (Kd.C_below HR0_3.out HB.out) | (with_reducible refine Kd.C_alloc ?_ _) | (with_reducible refine Kd.C_drewN ?_ _) | (with_reducible refine Kd.C_drew ?_)))
     (case aB => exact (by repeat (first | (with_reducible first | exact HB.out | apply zb | apply ze | apply zj | refine zg ?_ GE440.out | refine zg ?_ GE441.out) | exact HB.out)))
     (case aF => exact (fun _ _ => trivial))
     (case aO => exact (by (with_reducible repeat (first | apply Kd.R_alloc | apply Kd.R_drewN | apply Kd.R_drew)); exact HO444.out))
     (case aS => exact (zl (by repeat (first | (with_reducible first | exact HB.out | apply zb | apply ze | apply zj | refine zg ?_ GE440.out | refine zg ?_ GE441.out) | exact HB.out))))
     (case aL => have := LMc2.out; omega)
     intro v446 w8 ho hb hg hat; rw [← Ny445.out] at ho; have n0_ := aM (ym (g := gb440) (o := .cells #[.int .i64 a0_0, .int .i64 a0_1, .string a0_2, .slice A0_3 l0_3.length c0_3, .slice A0_4 l0_4.length c0_4] 25 (0, 0)) (by (with_reducible repeat (first | refine zf ?_ _ | refine zh ?_ | refine zc ?_ _)); exact BK440.out) hg (Kd.R_ne HO444.out BK440.out (by decide))); have n1_ := aM (ym (g := gb441) (o := .cells #[.int .i64 0, .int .i64 0, .string (⟨#[]⟩ : ByteArray), .slice none 0 0, .slice none 0 0] 33 (0, 0)) (by (with_reducible repeat (first | refine zf ?_ _ | refine zh ?_ | refine zc ?_ _)); exact BK441.out) hg (Kd.R_ne HO444.out BK441.out (by decide))); have n2_ := aM (hb); have n3_ := aM (ho); clear BK440 BK441 HB HO444; have BK440 := n0_; have BK441 := n1_; have HB := n2_; have HO447 := n3_; clear n0_ n1_ n2_ n3_ ho hb hg hat; obtain ⟨Ao9, co9, eo9⟩ := Kd.R_slice HO447.out
     (first | subst eo9 | (injection eo9 with f1_ f2_ f3_; have f4_ := f1_.symm; have f5_ := f3_.symm; clear f1_ f2_ f3_; subst f4_; subst f5_))
     refine hK.out _ _ ⟨(za BK440.out 0).trans rfl, (za BK440.out 1).trans rfl, (za BK440.out 2).trans rfl, (za BK440.out 3).trans rfl, (za BK440.out 4).trans rfl⟩ (fun hHeld => ?_); clear hK K; refine zt (a' := ?_) ?_ ?_; rotate_left
     ·show Act.put _ (some 14) _ = _
      simp only [Act.put, sA, sB, sC, zw, zx]; rfl
     refine pU 10 (some 15) (bZ 13 2047) rfl (ye HT_.out (by kernel_rfl)) ?_; refine one_ (i := 11) (N := some 3) (bZ 13 4095) rfl rfl (yu HT_.out (by kernel_rfl)) (by decide) (fun K hK => ?_); refine box_step ?hg (N := 3) ?hd (cs := #[.int .i64 0, .int .i64 0, .string (⟨#[]⟩ : ByteArray), .slice none 0 0, .slice none 0 0]) (t := 33) ?hr ?_; (case hd => rfl); (case hg => rfl); (case hr => first | (go_simp; done) | (go_simp; rfl)); intro gb448 hg w10 hbox hb; have n0_ := aM (Kd.R_below (by (with_reducible repeat (first | apply Kd.R_alloc | apply Kd.R_drewN | apply Kd.R_drew)); exact HO447.out) hb); have n1_ := aM (zo (g := gb440) (o := .cells #[.int .i64 a0_0, .int .i64 a0_1, .string a0_2, .slice A0_3 l0_3.length c0_3, .slice A0_4 l0_4.length c0_4] 25 (0, 0)) (by (with_reducible repeat (first | refine zf ?_ _ | refine zh ?_ | refine zc ?_ _)); exact BK440.out) hb); have n2_ := aM (zo (g := gb441) (o := .cells #[.int .i64 0, .int .i64 0, .string (⟨#[]⟩ : ByteArray), .slice none 0 0, .slice none 0 0] 33 (0, 0)) (by (with_reducible repeat (first | refine zf ?_ _ | refine zh ?_ | refine zc ?_ _)); exact BK441.out) hb); have n3_ := aM (zq (by repeat (first | (with_reducible first | exact HB.out | apply zb | apply ze | apply zj | refine zg ?_ GE440.out | refine zg ?_ GE441.out) | exact HB.out)) hb); have n4_ := aM (hbox); have n5_ := aM ((by rw [hg]; exact (zl (by repeat (first | (with_reducible first | exact HB.out | apply zb | apply ze | apply zj | refine zg ?_ GE440.out | refine zg ?_ GE441.out) | exact HB.out))) : w.heap.size ≤ gb448)); have n6_ := aM ((by rw [hg]; exact (zl (by repeat (first | (with_reducible first | exact HB.out | apply zb | apply ze | apply zj | refine zg ?_ GE440.out | refine zg ?_ GE441.out) | exact HB.out))) : w.heap.size ≤ gb448)); have n7_ := aM ((by rw [hg]; exact Nat.ne_of_lt (yi (g := gb440) (o := .cells #[.int .i64 a0_0, .int .i64 a0_1, .string a0_2, .slice A0_3 l0_3.length c0_3, .slice A0_4 l0_4.length c0_4] 25 (0, 0)) (by (with_reducible repeat (first | refine zf ?_ _ | refine zh ?_ | refine zc ?_ _)); exact BK440.out)) : gb440 ≠ gb448)); have n8_ := aM ((by rw [hg]; exact Nat.ne_of_gt (yi (g := gb440) (o := .cells #[.int .i64 a0_0, .int .i64 a0_1, .string a0_2, .slice A0_3 l0_3.length c0_3, .slice A0_4 l0_4.length c0_4] 25 (0, 0)) (by (with_reducible repeat (first | refine zf ?_ _ | refine zh ?_ | refine zc ?_ _)); exact BK440.out)) : gb448 ≠ gb440)); have n9_ := aM ((by rw [hg]; exact Nat.ne_of_lt (yi (g := gb441) (o := .cells #[.int .i64 0, .int .i64 0, .string (⟨#[]⟩ : ByteArray), .slice none 0 0, .slice none 0 0] 33 (0, 0)) (by (with_reducible repeat (first | refine zf ?_ _ | refine zh ?_ | refine zc ?_ _)); exact BK441.out)) : gb441 ≠ gb448)); have n10_ := aM ((by rw [hg]; exact Nat.ne_of_gt (yi (g := gb441) (o := .cells #[.int .i64 0, .int .i64 0, .string (⟨#[]⟩ : ByteArray), .slice none 0 0, .slice none 0 0] 33 (0, 0)) (by (with_reducible repeat (first | refine zf ?_ _ | refine zh ?_ | refine zc ?_ _)); exact BK441.out)) : gb448 ≠ gb441)); clear HO447 BK440 BK441 HB; have HO447 := n0_; have BK440 := n1_; have BK441 := n2_; have HB := n3_; have BK448 := n4_; have GW448 := n5_; have GE448 := n6_; have NB440_448 := n7_; have NB448_440 := n8_; have NB441_448 := n9_; have NB448_441 := n10_; clear n0_ n1_ n2_ n3_ n4_ n5_ n6_ n7_ n8_ n9_ n10_ hb hbox hg; refine hK.out _ _ ⟨(za BK440.out 0).trans rfl, (za BK440.out 1).trans rfl, (za BK440.out 2).trans rfl, (za BK440.out 3).trans rfl, (za BK440.out 4).trans rfl⟩ (fun hHeld => ?_); clear hK K; refine zt (a' := ?_) ?_ ?_; rotate_left
     ·show Act.put _ (some 3) _ = _
      simp only [Act.put, sA, sB, sC, zw, zx]; rfl
     exact zt (by simp only [putAll, Act.put, sA, sB, sC]) (hCont (v443, .slice Ao9 y445.length co9, gb448) _ ⟨hHeld, (by (with_reducible repeat (first | apply Kd.R_alloc | apply Kd.R_drewN | apply Kd.R_drew)); exact HO447.out), (by (with_reducible repeat (first | refine zf ?_ _ | refine zh ?_ | refine zc ?_ _)); exact BK440.out), (by (with_reducible repeat (first | refine zf ?_ _ | refine zh ?_ | refine zc ?_ _)); exact BK441.out), (by (with_reducible repeat (first | refine zf ?_ _ | refine zh ?_ | refine zc ?_ _)); exact BK448.out), GW448.out, GE448.out, NB440_448.out, NB448_440.out, NB441_448.out, NB448_441.out, (by repeat (first | (with_reducible first | exact HB.out | apply zb | apply ze | apply zj | refine zg ?_ GE440.out | refine zg ?_ GE441.out | refine zg ?_ GE448.out) | exact HB.out))⟩)
    ·skip
     refine box_step ?hg (N := 3) ?hd (cs := #[.int .i64 0, .int .i64 0, .string (⟨#[]⟩ : ByteArray), .slice none 0 0, .slice none 0 0]) (t := 33) ?hr ?_; (case hd => rfl); (case hg => rfl); (case hr => first | (go_simp; done) | (go_simp; rfl)); intro gb448 hg w8 hbox hb; have n0_ := aM (Kd.R_below (by (with_reducible repeat (first | apply Kd.R_alloc | apply Kd.R_drewN | apply Kd.R_drew)); exact HO444.out) hb); have n1_ := aM (zo (g := gb440) (o := .cells #[.int .i64 a0_0, .int .i64 a0_1, .string a0_2, .slice A0_3 l0_3.length c0_3, .slice A0_4 l0_4.length c0_4] 25 (0, 0)) (by (with_reducible repeat (first | refine zf ?_ _ | refine zh ?_ | refine zc ?_ _)); exact BK440.out) hb); have n2_ := aM (zo (g := gb441) (o := .cells #[.int .i64 0, .int .i64 0, .string (⟨#[]⟩ : ByteArray), .slice none 0 0, .slice none 0 0] 33 (0, 0)) (by (with_reducible repeat (first | refine zf ?_ _ | refine zh ?_ | refine zc ?_ _)); exact BK441.out) hb); have n3_ := aM (zq (by repeat (first | (with_reducible first | exact HB.out | apply zb | apply ze | apply zj | refine zg ?_ GE440.out | refine zg ?_ GE441.out) | exact HB.out)) hb); have n4_ := aM (hbox); have n5_ := aM ((by rw [hg]; exact (zl (by repeat (first | (with_reducible first | exact HB.out | apply zb | apply ze | apply zj | refine zg ?_ GE440.out | refine zg ?_ GE441.out) | exact HB.out))) : w.heap.size ≤ gb448)); have n6_ := aM ((by rw [hg]; exact (zl (by repeat (first | (with_reducible first | exact HB.out | apply zb | apply ze | apply zj | refine zg ?_ GE440.out | refine zg ?_ GE441.out) | exact HB.out))) : w.heap.size ≤ gb448)); have n7_ := aM ((by rw [hg]; exact Nat.ne_of_lt (yi (g := gb440) (o := .cells #[.int .i64 a0_0, .int .i64 a0_1, .string a0_2, .slice A0_3 l0_3.length c0_3, .slice A0_4 l0_4.length c0_4] 25 (0, 0)) (by (with_reducible repeat (first | refine zf ?_ _ | refine zh ?_ | refine zc ?_ _)); exact BK440.out)) : gb440 ≠ gb448)); have n8_ := aM ((by rw [hg]; exact Nat.ne_of_gt (yi (g := gb440) (o := .cells #[.int .i64 a0_0, .int .i64 a0_1, .string a0_2, .slice A0_3 l0_3.length c0_3, .slice A0_4 l0_4.length c0_4] 25 (0, 0)) (by (with_reducible repeat (first | refine zf ?_ _ | refine zh ?_ | refine zc ?_ _)); exact BK440.out)) : gb448 ≠ gb440)); have n9_ := aM ((by rw [hg]; exact Nat.ne_of_lt (yi (g := gb441) (o := .cells #[.int .i64 0, .int .i64 0, .string (⟨#[]⟩ : ByteArray), .slice none 0 0, .slice none 0 0] 33 (0, 0)) (by (with_reducible repeat (first | refine zf ?_ _ | refine zh ?_ | refine zc ?_ _)); exact BK441.out)) : gb441 ≠ gb448)); have n10_ := aM ((by rw [hg]; exact Nat.ne_of_gt (yi (g := gb441) (o := .cells #[.int .i64 0, .int .i64 0, .string (⟨#[]⟩ : ByteArray), .slice none 0 0, .slice none 0 0] 33 (0, 0)) (by (with_reducible repeat (first | refine zf ?_ _ | refine zh ?_ | refine zc ?_ _)); exact BK441.out)) : gb448 ≠ gb441)); clear HO444 BK440 BK441 HB; have HO444 := n0_; have BK440 := n1_; have BK441 := n2_; have HB := n3_; have BK448 := n4_; have GW448 := n5_; have GE448 := n6_; have NB440_448 := n7_; have NB448_440 := n8_; have NB441_448 := n9_; have NB448_441 := n10_; clear n0_ n1_ n2_ n3_ n4_ n5_ n6_ n7_ n8_ n9_ n10_ hb hbox hg; refine hK.out _ _ ⟨(za BK440.out 0).trans rfl, (za BK440.out 1).trans rfl, (za BK440.out 2).trans rfl, (za BK440.out 3).trans rfl, (za BK440.out 4).trans rfl⟩ (fun hHeld => ?_); clear hK K; refine zt (a' := ?_) ?_ ?_; rotate_left
     ·show Act.put _ (some 3) _ = _
      simp only [Act.put, sA, sB, sC, zw, zx]; rfl
     refine one_ (i := 9) (N := some 14) (bZ 13 3071) rfl rfl (yu HT_.out (by kernel_rfl)) (by decide) (fun K hK => ?_); refine Kd.R_append_rows_step Kd.string (w0 := w) w.heap.size (by rfl) (.tmp 11) (.tmp 13) 22 9 (.string ⟨#[]⟩) 16 rfl Tryd.underlying22 info9 rfl (by decide) (by omega) v443 y442 l0_3 _ _ _ (fun _ => True) (fun _ => False) rfl rfl ?aO ?aR (fun _ _ h => h) (fun _ h => h.elim) ?aF ?aB ?aS ?aL ?_
     (case aR => repeat (first | exact (Kd.C_below HR0_3.out HB.out) | (with_reducible refine Kd.C_alloc ?_ _) | (with_reducible refine Kd.C_drewN ?_ _) | (with_reducible refine Kd.C_drew ?_)))
     (case aB => exact (by repeat (first | (with_reducible first | exact HB.out | apply zb | apply ze | apply zj | refine zg ?_ GE440.out | refine zg ?_ GE441.out | refine zg ?_ GE448.out) | exact HB.out)))
     (case aF => exact (fun _ _ => trivial))
     (case aO => exact (by (with_reducible repeat (first | apply Kd.R_alloc | apply Kd.R_drewN | apply Kd.R_drew)); exact HO444.out))
     (case aS => exact (zl (by repeat (first | (with_reducible first | exact HB.out | apply zb | apply ze | apply zj | refine zg ?_ GE440.out | refine zg ?_ GE441.out | refine zg ?_ GE448.out) | exact HB.out))))
     (case aL => have := LMc2.out; omega)
     intro v446 w9 ho hb hg hat; rw [← Ny445.out] at ho; have n0_ := aM (ym (g := gb440) (o := .cells #[.int .i64 a0_0, .int .i64 a0_1, .string a0_2, .slice A0_3 l0_3.length c0_3, .slice A0_4 l0_4.length c0_4] 25 (0, 0)) (by (with_reducible repeat (first | refine zf ?_ _ | refine zh ?_ | refine zc ?_ _)); exact BK440.out) hg (Kd.R_ne HO444.out BK440.out (by decide))); have n1_ := aM (ym (g := gb441) (o := .cells #[.int .i64 0, .int .i64 0, .string (⟨#[]⟩ : ByteArray), .slice none 0 0, .slice none 0 0] 33 (0, 0)) (by (with_reducible repeat (first | refine zf ?_ _ | refine zh ?_ | refine zc ?_ _)); exact BK441.out) hg (Kd.R_ne HO444.out BK441.out (by decide))); have n2_ := aM (ym (g := gb448) (o := .cells #[.int .i64 0, .int .i64 0, .string (⟨#[]⟩ : ByteArray), .slice none 0 0, .slice none 0 0] 33 (0, 0)) (by (with_reducible repeat (first | refine zf ?_ _ | refine zh ?_ | refine zc ?_ _)); exact BK448.out) hg (Kd.R_ne HO444.out BK448.out (by decide))); have n3_ := aM (hb); have n4_ := aM (ho); clear BK440 BK441 BK448 HB HO444; have BK440 := n0_; have BK441 := n1_; have BK448 := n2_; have HB := n3_; have HO447 := n4_; clear n0_ n1_ n2_ n3_ n4_ ho hb hg hat; obtain ⟨Ao10, co10, eo10⟩ := Kd.R_slice HO447.out
     (first | subst eo10 | (injection eo10 with f1_ f2_ f3_; have f4_ := f1_.symm; have f5_ := f3_.symm; clear f1_ f2_ f3_; subst f4_; subst f5_))
     refine hK.out _ _ ⟨(za BK440.out 0).trans rfl, (za BK440.out 1).trans rfl, (za BK440.out 2).trans rfl, (za BK440.out 3).trans rfl, (za BK440.out 4).trans rfl⟩ (fun hHeld => ?_); clear hK K; refine zt (a' := ?_) ?_ ?_; rotate_left
     ·show Act.put _ (some 14) _ = _
      simp only [Act.put, sA, sB, sC, zw, zx]; rfl
     refine pU 10 (some 15) (bZ 13 4095) rfl (ye HT_.out (by kernel_rfl)) ?_; exact zt (by simp only [putAll, Act.put, sA, sB, sC]) (hCont (v443, .slice Ao10 y445.length co10, gb448) _ ⟨hHeld, (by (with_reducible repeat (first | apply Kd.R_alloc | apply Kd.R_drewN | apply Kd.R_drew)); exact HO447.out), (by (with_reducible repeat (first | refine zf ?_ _ | refine zh ?_ | refine zc ?_ _)); exact BK440.out), (by (with_reducible repeat (first | refine zf ?_ _ | refine zh ?_ | refine zc ?_ _)); exact BK441.out), (by (with_reducible repeat (first | refine zf ?_ _ | refine zh ?_ | refine zc ?_ _)); exact BK448.out), GW448.out, GE448.out, NB440_448.out, NB448_440.out, NB441_448.out, NB448_441.out, (by repeat (first | (with_reducible first | exact HB.out | apply zb | apply ze | apply zj | refine zg ?_ GE440.out | refine zg ?_ GE441.out | refine zg ?_ GE448.out) | exact HB.out))⟩)
   ·skip
    refine box_step ?hg (N := 3) ?hd (cs := #[.int .i64 0, .int .i64 0, .string (⟨#[]⟩ : ByteArray), .slice none 0 0, .slice none 0 0]) (t := 33) ?hr ?_; (case hd => rfl); (case hg => rfl); (case hr => first | (go_simp; done) | (go_simp; rfl)); intro gb448 hg w6 hbox hb; have n0_ := aM (zo (g := gb440) (o := .cells #[.int .i64 a0_0, .int .i64 a0_1, .string a0_2, .slice A0_3 l0_3.length c0_3, .slice A0_4 l0_4.length c0_4] 25 (0, 0)) (by (with_reducible repeat (first | refine zf ?_ _ | refine zh ?_ | refine zc ?_ _)); exact BK440.out) hb); have n1_ := aM (zo (g := gb441) (o := .cells #[.int .i64 0, .int .i64 0, .string (⟨#[]⟩ : ByteArray), .slice none 0 0, .slice none 0 0] 33 (0, 0)) (by (with_reducible repeat (first | refine zf ?_ _ | refine zh ?_ | refine zc ?_ _)); exact BK441.out) hb); have n2_ := aM (zq (by repeat (first | (with_reducible first | exact HB.out | apply zb | apply ze | apply zj | refine zg ?_ GE440.out | refine zg ?_ GE441.out) | exact HB.out)) hb); have n3_ := aM (hbox); have n4_ := aM ((by rw [hg]; exact (zl (by repeat (first | (with_reducible first | exact HB.out | apply zb | apply ze | apply zj | refine zg ?_ GE440.out | refine zg ?_ GE441.out) | exact HB.out))) : w.heap.size ≤ gb448)); have n5_ := aM ((by rw [hg]; exact (zl (by repeat (first | (with_reducible first | exact HB.out | apply zb | apply ze | apply zj | refine zg ?_ GE440.out | refine zg ?_ GE441.out) | exact HB.out))) : w.heap.size ≤ gb448)); have n6_ := aM ((by rw [hg]; exact Nat.ne_of_lt (yi (g := gb440) (o := .cells #[.int .i64 a0_0, .int .i64 a0_1, .string a0_2, .slice A0_3 l0_3.length c0_3, .slice A0_4 l0_4.length c0_4] 25 (0, 0)) (by (with_reducible repeat (first | refine zf ?_ _ | refine zh ?_ | refine zc ?_ _)); exact BK440.out)) : gb440 ≠ gb448)); have n7_ := aM ((by rw [hg]; exact Nat.ne_of_gt (yi (g := gb440) (o := .cells #[.int .i64 a0_0, .int .i64 a0_1, .string a0_2, .slice A0_3 l0_3.length c0_3, .slice A0_4 l0_4.length c0_4] 25 (0, 0)) (by (with_reducible repeat (first | refine zf ?_ _ | refine zh ?_ | refine zc ?_ _)); exact BK440.out)) : gb448 ≠ gb440)); have n8_ := aM ((by rw [hg]; exact Nat.ne_of_lt (yi (g := gb441) (o := .cells #[.int .i64 0, .int .i64 0, .string (⟨#[]⟩ : ByteArray), .slice none 0 0, .slice none 0 0] 33 (0, 0)) (by (with_reducible repeat (first | refine zf ?_ _ | refine zh ?_ | refine zc ?_ _)); exact BK441.out)) : gb441 ≠ gb448)); have n9_ := aM ((by rw [hg]; exact Nat.ne_of_gt (yi (g := gb441) (o := .cells #[.int .i64 0, .int .i64 0, .string (⟨#[]⟩ : ByteArray), .slice none 0 0, .slice none 0 0] 33 (0, 0)) (by (with_reducible repeat (first | refine zf ?_ _ | refine zh ?_ | refine zc ?_ _)); exact BK441.out)) : gb448 ≠ gb441)); clear BK440 BK441 HB; have BK440 := n0_; have BK441 := n1_; have HB := n2_; have BK448 := n3_; have GW448 := n4_; have GE448 := n5_; have NB440_448 := n6_; have NB448_440 := n7_; have NB441_448 := n8_; have NB448_441 := n9_; clear n0_ n1_ n2_ n3_ n4_ n5_ n6_ n7_ n8_ n9_ hb hbox hg; refine hK.out _ _ ⟨(za BK440.out 0).trans rfl, (za BK440.out 1).trans rfl, (za BK440.out 2).trans rfl, (za BK440.out 3).trans rfl, (za BK440.out 4).trans rfl⟩ (fun hHeld => ?_); clear hK K; refine zt (a' := ?_) ?_ ?_; rotate_left
    ·show Act.put _ (some 3) _ = _
     simp only [Act.put, sA, sB, sC, zw, zx]; rfl
    refine one_ (i := 6) (N := some 11) (bZ 13 2559) rfl rfl (yu HT_.out (by kernel_rfl)) (by decide) (fun K hK => ?_); refine Kd.R_lit_step Kd.string _ 9 ?hg (N := 11) ?hd (xs := ([] : List ByteArray)) (inner := []) (ok := fun _ => True) (okp := fun _ => True) ?hr ?hp (fun _ hk => hk) trivial (Below.refl _ _) (Nat.le_refl _) (by simp) ?_; (case hd => rfl); (case hg => rfl); (case hr => first | (go_simp; done) | (go_simp; rfl)); (case hp => exact (Reps.none _ _)); intro v443 w7 ho8 hb hg_ hnew_; clear hg_ hnew_
    (first | rw [← Ny442.out] at ho8 | (simp only [Int.reduceToNat] at ho8; rw [← Ny442.out] at ho8))
    have n0_ := aM (Kd.R_lower ho8 (zl (by repeat (first | (with_reducible first | exact HB.out | apply zb | apply ze | apply zj | refine zg ?_ GE440.out | refine zg ?_ GE441.out | refine zg ?_ GE448.out) | exact HB.out)))); have n1_ := aM (zo (g := gb440) (o := .cells #[.int .i64 a0_0, .int .i64 a0_1, .string a0_2, .slice A0_3 l0_3.length c0_3, .slice A0_4 l0_4.length c0_4] 25 (0, 0)) (by (with_reducible repeat (first | refine zf ?_ _ | refine zh ?_ | refine zc ?_ _)); exact BK440.out) hb); have n2_ := aM (zo (g := gb441) (o := .cells #[.int .i64 0, .int .i64 0, .string (⟨#[]⟩ : ByteArray), .slice none 0 0, .slice none 0 0] 33 (0, 0)) (by (with_reducible repeat (first | refine zf ?_ _ | refine zh ?_ | refine zc ?_ _)); exact BK441.out) hb); have n3_ := aM (zo (g := gb448) (o := .cells #[.int .i64 0, .int .i64 0, .string (⟨#[]⟩ : ByteArray), .slice none 0 0, .slice none 0 0] 33 (0, 0)) (by (with_reducible repeat (first | refine zf ?_ _ | refine zh ?_ | refine zc ?_ _)); exact BK448.out) hb); have n4_ := aM (zq (by repeat (first | (with_reducible first | exact HB.out | apply zb | apply ze | apply zj | refine zg ?_ GE440.out | refine zg ?_ GE441.out | refine zg ?_ GE448.out) | exact HB.out)) hb); clear BK440 BK441 BK448 HB; have HO444 := n0_; have BK440 := n1_; have BK441 := n2_; have BK448 := n3_; have HB := n4_; clear n0_ n1_ n2_ n3_ n4_ hb ho8; refine hK.out _ _ ⟨(za BK440.out 0).trans rfl, (za BK440.out 1).trans rfl, (za BK440.out 2).trans rfl, (za BK440.out 3).trans rfl, (za BK440.out 4).trans rfl⟩ (fun hHeld => ?_); clear hK K; refine zt (a' := ?_) ?_ ?_; rotate_left
    ·show Act.put _ (some 11) _ = _
     simp only [Act.put, sA, sB, sC, zw, zx]; rfl
    refine one_ (i := 9) (N := some 14) (bZ 13 3071) rfl rfl (yu HT_.out (by kernel_rfl)) (by decide) (fun K hK => ?_); refine Kd.R_append_rows_step Kd.string (w0 := w) w.heap.size (by rfl) (.tmp 11) (.tmp 13) 22 9 (.string ⟨#[]⟩) 16 rfl Tryd.underlying22 info9 rfl (by decide) (by omega) v443 y442 l0_3 _ _ _ (fun _ => True) (fun _ => False) rfl rfl ?aO ?aR (fun _ _ h => h) (fun _ h => h.elim) ?aF ?aB ?aS ?aL ?_
    (case aR => repeat (first | exact (Kd.C_below HR0_3.out HB.out) | (with_reducible refine Kd.C_alloc ?_ _) | (with_reducible refine Kd.C_drewN ?_ _) | (with_reducible refine Kd.C_drew ?_)))
    (case aB => exact (by repeat (first | (with_reducible first | exact HB.out | apply zb | apply ze | apply zj | refine zg ?_ GE440.out | refine zg ?_ GE441.out | refine zg ?_ GE448.out) | exact HB.out)))
    (case aF => exact (fun _ _ => trivial))
    (case aO => exact (by (with_reducible repeat (first | apply Kd.R_alloc | apply Kd.R_drewN | apply Kd.R_drew)); exact HO444.out))
    (case aS => exact (zl (by repeat (first | (with_reducible first | exact HB.out | apply zb | apply ze | apply zj | refine zg ?_ GE440.out | refine zg ?_ GE441.out | refine zg ?_ GE448.out) | exact HB.out))))
    (case aL => have := LMc2.out; omega)
    intro v446 w9 ho hb hg hat; rw [← Ny445.out] at ho; have n0_ := aM (ym (g := gb440) (o := .cells #[.int .i64 a0_0, .int .i64 a0_1, .string a0_2, .slice A0_3 l0_3.length c0_3, .slice A0_4 l0_4.length c0_4] 25 (0, 0)) (by (with_reducible repeat (first | refine zf ?_ _ | refine zh ?_ | refine zc ?_ _)); exact BK440.out) hg (Kd.R_ne HO444.out BK440.out (by decide))); have n1_ := aM (ym (g := gb441) (o := .cells #[.int .i64 0, .int .i64 0, .string (⟨#[]⟩ : ByteArray), .slice none 0 0, .slice none 0 0] 33 (0, 0)) (by (with_reducible repeat (first | refine zf ?_ _ | refine zh ?_ | refine zc ?_ _)); exact BK441.out) hg (Kd.R_ne HO444.out BK441.out (by decide))); have n2_ := aM (ym (g := gb448) (o := .cells #[.int .i64 0, .int .i64 0, .string (⟨#[]⟩ : ByteArray), .slice none 0 0, .slice none 0 0] 33 (0, 0)) (by (with_reducible repeat (first | refine zf ?_ _ | refine zh ?_ | refine zc ?_ _)); exact BK448.out) hg (Kd.R_ne HO444.out BK448.out (by decide))); have n3_ := aM (hb); have n4_ := aM (ho); clear BK440 BK441 BK448 HB HO444; have BK440 := n0_; have BK441 := n1_; have BK448 := n2_; have HB := n3_; have HO447 := n4_; clear n0_ n1_ n2_ n3_ n4_ ho hb hg hat; obtain ⟨Ao10, co10, eo10⟩ := Kd.R_slice HO447.out
    (first | subst eo10 | (injection eo10 with f1_ f2_ f3_; have f4_ := f1_.symm; have f5_ := f3_.symm; clear f1_ f2_ f3_; subst f4_; subst f5_))
    refine hK.out _ _ ⟨(za BK440.out 0).trans rfl, (za BK440.out 1).trans rfl, (za BK440.out 2).trans rfl, (za BK440.out 3).trans rfl, (za BK440.out 4).trans rfl⟩ (fun hHeld => ?_); clear hK K; refine zt (a' := ?_) ?_ ?_; rotate_left
    ·show Act.put _ (some 14) _ = _
     simp only [Act.put, sA, sB, sC, zw, zx]; rfl
    refine pU 10 (some 15) (bZ 13 4095) rfl (ye HT_.out (by kernel_rfl)) ?_; exact zt (by simp only [putAll, Act.put, sA, sB, sC]) (hCont (v443, .slice Ao10 y445.length co10, gb448) _ ⟨hHeld, (by (with_reducible repeat (first | apply Kd.R_alloc | apply Kd.R_drewN | apply Kd.R_drew)); exact HO447.out), (by (with_reducible repeat (first | refine zf ?_ _ | refine zh ?_ | refine zc ?_ _)); exact BK440.out), (by (with_reducible repeat (first | refine zf ?_ _ | refine zh ?_ | refine zc ?_ _)); exact BK441.out), (by (with_reducible repeat (first | refine zf ?_ _ | refine zh ?_ | refine zc ?_ _)); exact BK448.out), GW448.out, GE448.out, NB440_448.out, NB448_440.out, NB441_448.out, NB448_441.out, (by repeat (first | (with_reducible first | exact HB.out | apply zb | apply ze | apply zj | refine zg ?_ GE440.out | refine zg ?_ GE441.out | refine zg ?_ GE448.out) | exact HB.out))⟩)
  rintro ⟨v443, v446, gb448⟩ w11 ⟨hS_, h0_, h1_, h2_, h3_, h4_, h5_, h6_, h7_, h8_, h9_, h10_⟩
  have n0_ : Aside0 (Kd.R Kd.string 9 w11 w.heap.size (fun _ => True) v446 y445) := ⟨h0_⟩
  have n1_ : Aside0 (w11.heap[gb440]? = some (.cells #[.int .i64 a0_0, .int .i64 a0_1, .string a0_2, .slice A0_3 l0_3.length c0_3, .slice A0_4 l0_4.length c0_4] 25 (0, 0))) := ⟨h1_⟩
  have n2_ : Aside0 (w11.heap[gb441]? = some (.cells #[.int .i64 0, .int .i64 0, .string (⟨#[]⟩ : ByteArray), .slice none 0 0, .slice none 0 0] 33 (0, 0))) := ⟨h2_⟩
  have n3_ : Aside0 (w11.heap[gb448]? = some (.cells #[.int .i64 0, .int .i64 0, .string (⟨#[]⟩ : ByteArray), .slice none 0 0, .slice none 0 0] 33 (0, 0))) := ⟨h3_⟩
  have n4_ : Aside0 (w.heap.size ≤ gb448) := ⟨h4_⟩
  have n5_ : Aside0 (w.heap.size ≤ gb448) := ⟨h5_⟩
  have n6_ : Aside0 (gb440 ≠ gb448) := ⟨h6_⟩
  have n7_ : Aside0 (gb448 ≠ gb440) := ⟨h7_⟩
  have n8_ : Aside0 (gb441 ≠ gb448) := ⟨h8_⟩
  have n9_ : Aside0 (gb448 ≠ gb441) := ⟨h9_⟩
  have n10_ : Aside0 (Below w.heap.size w w11) := ⟨h10_⟩
  clear BK440 BK441 HB h0_ h1_ h2_ h3_ h4_ h5_ h6_ h7_ h8_ h9_ h10_; have HO447 := n0_; have BK440 := n1_; have BK441 := n2_; have BK448 := n3_; have GW448 := n4_; have GE448 := n5_; have NB440_448 := n6_; have NB448_440 := n7_; have NB441_448 := n8_; have NB448_441 := n9_; have HB := n10_; clear n0_ n1_ n2_ n3_ n4_ n5_ n6_ n7_ n8_ n9_ n10_; have hHeld : w11.cell? ⟨gb440, 0, none⟩ = some (.int .i64 a0_0) ∧ w11.cell? ⟨gb440, 1, none⟩ = some (.int .i64 a0_1) ∧ w11.cell? ⟨gb440, 2, none⟩ = some (.string a0_2) ∧ w11.cell? ⟨gb440, 3, none⟩ = some (.slice A0_3 l0_3.length c0_3) ∧ w11.cell? ⟨gb440, 4, none⟩ = some (.slice A0_4 l0_4.length c0_4) := hS_; obtain ⟨Ao12, co12, eo12⟩ := Kd.R_slice HO447.out
  (first | subst eo12 | (injection eo12 with f1_ f2_ f3_; have f4_ := f1_.symm; have f5_ := f3_.symm; clear f1_ f2_ f3_; subst f4_; subst f5_))
  refine zt (a' := ?_) ?_ ?_; rotate_left
  ·simp only [putAll, Act.put, sA, sB, sC]; rfl
  refine one_ (i := 12) (N := none) (bZ 13 8191) rfl rfl (yu HT_.out (by kernel_rfl)) (by decide) (fun K hK => ?_); have hs13 : w11.cell? ⟨gb448, 0, none⟩ = some (.int .i64 0) := (za BK448.out 0).trans rfl; have hfs13 := zi BK448.out 0; have hns13_0 := NB440_448.out; have hns13_1 := NB441_448.out; have hms13_0 := NB448_440.out; have hms13_1 := NB448_441.out; have hs14 : w11.cell? ⟨gb448, 1, none⟩ = some (.int .i64 0) := (za BK448.out 1).trans rfl; have hfs14 := zi BK448.out 1; have hns14_0 := NB440_448.out; have hns14_1 := NB441_448.out; have hms14_0 := NB448_440.out; have hms14_1 := NB448_441.out; have hs15 : w11.cell? ⟨gb448, 2, none⟩ = some (.string (⟨#[]⟩ : ByteArray)) := (za BK448.out 2).trans rfl; have hfs15 := zi BK448.out 2; have hns15_0 := NB440_448.out; have hns15_1 := NB441_448.out; have hms15_0 := NB448_440.out; have hms15_1 := NB448_441.out; have hs16 : w11.cell? ⟨gb448, 3, none⟩ = some (.slice none 0 0) := (za BK448.out 3).trans rfl; have hfs16 := zi BK448.out 3; have hns16_0 := NB440_448.out; have hns16_1 := NB441_448.out; have hms16_0 := NB448_440.out; have hms16_1 := NB448_441.out; have hs17 : w11.cell? ⟨gb448, 4, none⟩ = some (.slice none 0 0) := (za BK448.out 4).trans rfl; have hfs17 := zi BK448.out 4; have hns17_0 := NB440_448.out; have hns17_1 := NB441_448.out; have hms17_0 := NB448_440.out; have hms17_1 := NB448_441.out; refine skip_ (w1 := ?_) (by rfl) rfl ?_ ?_; rotate_left
  ·go_simp; rfl
  refine hK.out _ _ ⟨((ya (p := ⟨gb448, _, none⟩) NB440_448.out _).trans (((ya (p := ⟨gb448, _, none⟩) NB440_448.out _).trans (((ya (p := ⟨gb448, _, none⟩) NB440_448.out _).trans (((ya (p := ⟨gb448, _, none⟩) NB440_448.out _).trans (((ya (p := ⟨gb448, _, none⟩) NB440_448.out _).trans (hHeld.1)))))))))), ((ya (p := ⟨gb448, _, none⟩) NB440_448.out _).trans (((ya (p := ⟨gb448, _, none⟩) NB440_448.out _).trans (((ya (p := ⟨gb448, _, none⟩) NB440_448.out _).trans (((ya (p := ⟨gb448, _, none⟩) NB440_448.out _).trans (((ya (p := ⟨gb448, _, none⟩) NB440_448.out _).trans (hHeld.2.1)))))))))), ((ya (p := ⟨gb448, _, none⟩) NB440_448.out _).trans (((ya (p := ⟨gb448, _, none⟩) NB440_448.out _).trans (((ya (p := ⟨gb448, _, none⟩) NB440_448.out _).trans (((ya (p := ⟨gb448, _, none⟩) NB440_448.out _).trans (((ya (p := ⟨gb448, _, none⟩) NB440_448.out _).trans (hHeld.2.2.1)))))))))), ((ya (p := ⟨gb448, _, none⟩) NB440_448.out _).trans (((ya (p := ⟨gb448, _, none⟩) NB440_448.out _).trans (((ya (p := ⟨gb448, _, none⟩) NB440_448.out _).trans (((ya (p := ⟨gb448, _, none⟩) NB440_448.out _).trans (((ya (p := ⟨gb448, _, none⟩) NB440_448.out _).trans (hHeld.2.2.2.1)))))))))), ((ya (p := ⟨gb448, _, none⟩) NB440_448.out _).trans (((ya (p := ⟨gb448, _, none⟩) NB440_448.out _).trans (((ya (p := ⟨gb448, _, none⟩) NB440_448.out _).trans (((ya (p := ⟨gb448, _, none⟩) NB440_448.out _).trans (((ya (p := ⟨gb448, _, none⟩) NB440_448.out _).trans (hHeld.2.2.2.2))))))))))⟩ (fun hHeld => ?_); clear hK K; refine xp (done_of HT_.out (by kernel_rfl)) ?_
  try go_wp2
  go_loopg [4] k (fun kq v4 w' => ∃ (x4_1 : Int) (x449004_1 : List (S33)) (u449004 : Value), v4 = .int .i64 x4_1 ∧ Aside0 (laws_to.l0 kq x4_1 a0_0 a0_1 a0_2 l0_3 l0_4 a0_0 a0_1 a0_2 y445 x449004_1 = some (r1, r2, r3, r4, r5)) ∧ Aside0 (kq ≤ k) ∧ Aside0 (Kd.R Kd.string 9 w' w.heap.size (fun _ => True) (.slice Ao12 y445.length co12) y445) ∧ Aside0 (Kd.R k33 33 w' w.heap.size (fun k_ => some k_ ≠ ((.slice Ao12 y445.length co12) : Value).ownBlock ∧ k_ ≠ gb441 ∧ k_ ≠ gb448) u449004 x449004_1) ∧ Aside0 (w'.heap[gb440]? = some (.cells #[.int .i64 a0_0, .int .i64 a0_1, .string a0_2, (.slice A0_3 l0_3.length c0_3), (.slice A0_4 l0_4.length c0_4)] 25 (0, 0))) ∧ Aside0 (w'.heap[gb441]? = some (.cells #[.int .i64 0, .int .i64 0, .string (⟨#[]⟩ : ByteArray), (.slice none 0 0), (.slice none 0 0)] 33 (0, 0))) ∧ Aside0 (w'.heap[gb448]? = some (.cells #[.int .i64 a0_0, .int .i64 a0_1, .string a0_2, (.slice Ao12 y445.length co12), u449004] 33 (0, 0))) ∧ Aside0 (Below w.heap.size w w'))
  case atStart => exact ⟨(0), (([] : List (S33))), (.slice none 0 0), (by first | rfl | (simp; done) | (simp [*]; done)), H', ⟨Nat.le_refl _⟩, ⟨by (with_reducible repeat (first | apply Kd.R_alloc | apply Kd.R_drewN | apply Kd.R_drew)); exact Kd.R_mono (Kd.R_far (p := ⟨gb448, 4, none⟩) (Kd.R_far (p := ⟨gb448, 3, none⟩) (Kd.R_far (p := ⟨gb448, 2, none⟩) (Kd.R_far (p := ⟨gb448, 1, none⟩) (Kd.R_far (p := ⟨gb448, 0, none⟩) (Kd.R_types HO447.out BK448.out (by decide)) (fun _ hk => hk.2) (.int .i64 a0_0)) (fun _ hk => hk.2) (.int .i64 a0_1)) (fun _ hk => hk.2) (.string a0_2)) (fun _ hk => hk.2) (.slice Ao12 y445.length co12)) (fun _ hk => hk.2) (.slice none 0 0)) (fun _ hk => trivial)⟩, ⟨by first | exact Kd.R_nil _ _ _ _ _ | exact Kd.N_nil _ _ _ _ _ | exact Kd.V_nil _ _ _ _ _ | exact Kd.Q_nil _ _ _ _ _ | exact Kd.S_nil _ _ _ _ _⟩, ⟨by (with_reducible repeat (first | refine zf ?_ _ | refine zh ?_ | refine zc ?_ _)); refine yc ?_ NB440_448.out _; (with_reducible repeat (first | refine zf ?_ _ | refine zh ?_ | refine zc ?_ _)); refine yc ?_ NB440_448.out _; (with_reducible repeat (first | refine zf ?_ _ | refine zh ?_ | refine zc ?_ _)); refine yc ?_ NB440_448.out _; (with_reducible repeat (first | refine zf ?_ _ | refine zh ?_ | refine zc ?_ _)); refine yc ?_ NB440_448.out _; (with_reducible repeat (first | refine zf ?_ _ | refine zh ?_ | refine zc ?_ _)); refine yc ?_ NB440_448.out _; (with_reducible repeat (first | refine zf ?_ _ | refine zh ?_ | refine zc ?_ _)); exact BK440.out⟩, ⟨by (with_reducible repeat (first | refine zf ?_ _ | refine zh ?_ | refine zc ?_ _)); refine yc ?_ NB441_448.out _; (with_reducible repeat (first | refine zf ?_ _ | refine zh ?_ | refine zc ?_ _)); refine yc ?_ NB441_448.out _; (with_reducible repeat (first | refine zf ?_ _ | refine zh ?_ | refine zc ?_ _)); refine yc ?_ NB441_448.out _; (with_reducible repeat (first | refine zf ?_ _ | refine zh ?_ | refine zc ?_ _)); refine yc ?_ NB441_448.out _; (with_reducible repeat (first | refine zf ?_ _ | refine zh ?_ | refine zc ?_ _)); refine yc ?_ NB441_448.out _; (with_reducible repeat (first | refine zf ?_ _ | refine zh ?_ | refine zc ?_ _)); exact BK441.out⟩, ⟨by (with_reducible repeat (first | refine zf ?_ _ | refine zh ?_ | refine zc ?_ _)); refine zn (cs := #[.int .i64 a0_0, .int .i64 a0_1, .string a0_2, .slice Ao12 y445.length co12, .slice none 0 0]) ?_ 4 _ rfl; (with_reducible repeat (first | refine zf ?_ _ | refine zh ?_ | refine zc ?_ _)); refine zn (cs := #[.int .i64 a0_0, .int .i64 a0_1, .string a0_2, .slice none 0 0, .slice none 0 0]) ?_ 3 _ rfl; (with_reducible repeat (first | refine zf ?_ _ | refine zh ?_ | refine zc ?_ _)); refine zn (cs := #[.int .i64 a0_0, .int .i64 a0_1, .string (⟨#[]⟩ : ByteArray), .slice none 0 0, .slice none 0 0]) ?_ 2 _ rfl; (with_reducible repeat (first | refine zf ?_ _ | refine zh ?_ | refine zc ?_ _)); refine zn (cs := #[.int .i64 a0_0, .int .i64 0, .string (⟨#[]⟩ : ByteArray), .slice none 0 0, .slice none 0 0]) ?_ 1 _ rfl; (with_reducible repeat (first | refine zf ?_ _ | refine zh ?_ | refine zc ?_ _)); refine zn (cs := #[.int .i64 0, .int .i64 0, .string (⟨#[]⟩ : ByteArray), .slice none 0 0, .slice none 0 0]) ?_ 0 _ rfl; (with_reducible repeat (first | refine zf ?_ _ | refine zh ?_ | refine zc ?_ _)); exact BK448.out⟩, ⟨by repeat (first | (with_reducible first | exact HB.out | apply zb | apply ze | apply zj | refine zg ?_ GE440.out | refine zg ?_ GE441.out | refine zg ?_ GE448.out) | exact HB.out)⟩⟩
  case round =>
   clear H'
   try clear c1
   try clear c2
   try clear p2
   try clear c11
   obtain ⟨x4_1, x449004_1, u449004, rfl, HA, HK1, HO_449003, HO_449004, BK440, BK441, BK448, HB⟩ := hrel
   cases gk with
   | zero => exact absurd HA.out (by simp [laws_to.l0])
   | succ k1 =>
    have H := HA.out; clear HA; simp only [laws_to.l0] at H
    by_cases c18 : x4_1 < (l0_4.length : Int)
    ·rw [if_pos c18] at H; have c18b0 : decide (x4_1 < (l0_4.length : Int)) = true := decide_eq_true c18; clear c18
     by_cases c19 : 0 ≤ x4_1
     ·rw [if_pos c19] at H; have c19b0 : decide (0 ≤ x4_1) = true := decide_eq_true c19; clear c19; replace H := Option.bind_eq_some_iff.mp H; obtain ⟨⟨t450, t451, t452, t453, t456⟩, A200, H⟩ := H; replace H : (if x449004_1.length < 1759218604441 then (laws_to.l0 k1 (wrap64 (x4_1 + 1)) a0_0 a0_1 a0_2 l0_3 l0_4 a0_0 a0_1 a0_2 y445 (x449004_1 ++ [(⟨t450, t451, t452, t453, t456⟩ : S33)])) else (none)) = some (r1, r2, r3, r4, r5) := H; have A20 := aM A200; clear A200
      by_cases c21 : x449004_1.length < 1759218604441
      ·rw [if_pos c21] at H; have LMc21 := aM c21; clear c21
       obtain ⟨y459, hy459⟩ : ∃ y_ : List (S33), y_ = (x449004_1 ++ [(⟨t450, t451, t452, t453, t456⟩ : S33)]) := ⟨_, rfl⟩
       replace H : (laws_to.l0 k1 (wrap64 (x4_1 + 1)) a0_0 a0_1 a0_2 l0_3 l0_4 a0_0 a0_1 a0_2 y445 y459) = some (r1, r2, r3, r4, r5) := by first | (rw [hy459]; with_reducible exact H) | (have H2_ := (Option.bind_some _ _).symm.trans H; rw [hy459]; with_reducible exact H2_) | (have H2_ := (Option.bind_some _ _).symm.trans H; with_reducible exact H2_) | with_reducible exact H | (rw [hy459]; exact H) | exact H
       have Ny459 := aM hy459; clear hy459; have H' := aM H; clear H; have hnb22 := NB440_441.out; have hnc22 := NB441_440.out; have hnb23 := NB440_448.out; have hnc23 := NB448_440.out; have hcz24_0 : wr.cell? ⟨gb440, 0, none⟩ = some (.int .i64 a0_0) := (za BK440.out 0).trans rfl; have hcz24_1 : wr.cell? ⟨gb440, 1, none⟩ = some (.int .i64 a0_1) := (za BK440.out 1).trans rfl; have hcz24_2 : wr.cell? ⟨gb440, 2, none⟩ = some (.string a0_2) := (za BK440.out 2).trans rfl; have hcz24_3 : wr.cell? ⟨gb440, 3, none⟩ = some (.slice A0_3 l0_3.length c0_3) := (za BK440.out 3).trans rfl; have hcz24_4 : wr.cell? ⟨gb440, 4, none⟩ = some (.slice A0_4 l0_4.length c0_4) := (za BK440.out 4).trans rfl; have hfz24_0 := zi BK440.out 0; have hfz24_1 := zi BK440.out 1; have hfz24_2 := zi BK440.out 2; have hfz24_3 := zi BK440.out 3; have hfz24_4 := zi BK440.out 4
       try go_wp2
       have n0_ := aM (Kd.R_drew HO_449003.out); have n1_ := aM (Kd.R_drew HO_449004.out); have n2_ := aM (zh BK440.out); have n3_ := aM (zh BK441.out); have n4_ := aM (zh BK448.out); have n5_ := aM (zj HB.out); clear HO_449003 HO_449004 BK440 BK441 BK448 HB; have HO_449003 := n0_; have HO_449004 := n1_; have BK440 := n2_; have BK441 := n3_; have BK448 := n4_; have HB := n5_; clear n0_ n1_ n2_ n3_ n4_ n5_; have p449 : 0 ≤ (x4_1 : Int) := of_decide_eq_true (by first | (with_reducible assumption) | assumption); have q449 : x4_1 < (l0_4.length : Int) := of_decide_eq_true (by first | (with_reducible assumption) | assumption); obtain ⟨ad449, A449_3, c449_3, A449_4, c449_4, e449, hx449_0, hx449_1, hx449_2, hx449_3, hx449_4, hl449_3, hi449_3, hl449_4, hi449_4⟩ := at_T25 HR0_4.out x4_1 p449 q449; have hw449_4 := hx449_4; have hw449_3 := hx449_3; have hw449_2 := hx449_2; have hw449_1 := hx449_1; have hw449_0 := hx449_0
       cases e449
       replace hx449_0 := (HB.out.cell (World.block_lt_of_cell? w _ hx449_0)).trans hx449_0; replace hx449_1 := (HB.out.cell (World.block_lt_of_cell? w _ hx449_1)).trans hx449_1; replace hx449_2 := (HB.out.cell (World.block_lt_of_cell? w _ hx449_2)).trans hx449_2; replace hx449_3 := (HB.out.cell (World.block_lt_of_cell? w _ hx449_3)).trans hx449_3; replace hx449_4 := (HB.out.cell (World.block_lt_of_cell? w _ hx449_4)).trans hx449_4; have HR449_3 := aM hi449_3; have HC449_3 := aM hl449_3; clear hi449_3 hl449_3; have HR449_4 := aM hi449_4; have HC449_4 := aM hl449_4; clear hi449_4 hl449_4; replace p449 := eq_true p449; replace q449 := eq_true q449; refine xc (n := 12) (S := fun w' => w'.cell? ⟨gb448, 0, none⟩ = some (.int .i64 a0_0) ∧ w'.cell? ⟨gb448, 1, none⟩ = some (.int .i64 a0_1) ∧ w'.cell? ⟨gb448, 2, none⟩ = some (.string a0_2) ∧ w'.cell? ⟨gb448, 3, none⟩ = some (.slice Ao12 y445.length co12) ∧ w'.cell? ⟨gb448, 4, none⟩ = some (u449004) ∧ w'.cell? ⟨gb440, 0, none⟩ = some (.int .i64 a0_0) ∧ w'.cell? ⟨gb440, 1, none⟩ = some (.int .i64 a0_1) ∧ w'.cell? ⟨gb440, 2, none⟩ = some (.string a0_2) ∧ w'.cell? ⟨gb440, 3, none⟩ = some (.slice A0_3 l0_3.length c0_3) ∧ w'.cell? ⟨gb440, 4, none⟩ = some (.slice (some ad449) l0_4.length c0_4) ∧ w'.cell? (ad449.add ((x4_1).toNat * 5)) = some (.int .i64 ((rd_T25 l0_4 x4_1).f0)) ∧ w'.cell? ⟨(ad449.add ((x4_1).toNat * 5)).block, (ad449.add ((x4_1).toNat * 5)).off + 1, none⟩ = some (.int .i64 ((rd_T25 l0_4 x4_1).f1)) ∧ w'.cell? ⟨(ad449.add ((x4_1).toNat * 5)).block, (ad449.add ((x4_1).toNat * 5)).off + 2, none⟩ = some (.string ((rd_T25 l0_4 x4_1).f2)) ∧ w'.cell? ⟨(ad449.add ((x4_1).toNat * 5)).block, (ad449.add ((x4_1).toNat * 5)).off + 3, none⟩ = some (.slice A449_3 ((rd_T25 l0_4 x4_1).f3).length c449_3) ∧ w'.cell? ⟨(ad449.add ((x4_1).toNat * 5)).block, (ad449.add ((x4_1).toNat * 5)).off + 4, none⟩ = some (.slice A449_4 ((rd_T25 l0_4 x4_1).f4).length c449_4)) (ds := [11]) (bZ 12 0) (by kernel_rfl) rfl rfl ⟨(za BK448.out 0).trans rfl, (za BK448.out 1).trans rfl, (za BK448.out 2).trans rfl, (za BK448.out 3).trans rfl, (za BK448.out 4).trans rfl, (za BK440.out 0).trans rfl, (za BK440.out 1).trans rfl, (za BK440.out 2).trans rfl, (za BK440.out 3).trans rfl, (za BK440.out 4).trans rfl, ((HB.out.cell (World.block_lt_of_cell? w _ hw449_0)).trans hw449_0), ((HB.out.cell (World.block_lt_of_cell? w _ hw449_1)).trans hw449_1), ((HB.out.cell (World.block_lt_of_cell? w _ hw449_2)).trans hw449_2), ((HB.out.cell (World.block_lt_of_cell? w _ hw449_3)).trans hw449_3), ((HB.out.cell (World.block_lt_of_cell? w _ hw449_4)).trans hw449_4)⟩ (fun hHeld => ?_); refine xk laws_to.tab5 laws_to.bits5 (fun HT_ HW_ => ?_); generalize wr.drew = w25 at HO_449003 HO_449004 BK440 BK441 BK448 HB HR449_3 HR449_4 hx449_0 hx449_1 hx449_2 hx449_3 hx449_4 hHeld ⊢; refine pU 0 (some 23) (bZ 12 1) rfl (ye HT_.out (by kernel_rfl)) ?_; refine pU 2 (some 25) (bZ 12 5) rfl (ye HT_.out (by kernel_rfl)) ?_; refine pU 4 (some 27) (bZ 12 21) rfl (ye HT_.out (by kernel_rfl)) ?_; refine tU 1 (some 24) (bZ 12 23) rfl (yg HT_.out HW_.out (by kernel_rfl)) (Or.inl ⟨by rfl, by rintro w' ⟨s0, s1, s2, s3, s4, s5, s6, s7, s8, s9, s10, s11, s12, s13, s14⟩; go_simp; with_reducible rfl⟩) hHeld ?_; refine tU 3 (some 26) (bZ 12 31) rfl (yg HT_.out HW_.out (by kernel_rfl)) (Or.inl ⟨by rfl, by rintro w' ⟨s0, s1, s2, s3, s4, s5, s6, s7, s8, s9, s10, s11, s12, s13, s14⟩; go_simp; with_reducible rfl⟩) hHeld ?_; refine pU 5 (some 28) (bZ 12 63) rfl (ye HT_.out (by kernel_rfl)) ?_; refine tU 6 (some 29) (bZ 12 127) rfl (yg HT_.out HW_.out (by kernel_rfl)) (Or.inl ⟨by rfl, by rintro w' ⟨s0, s1, s2, s3, s4, s5, s6, s7, s8, s9, s10, s11, s12, s13, s14⟩; go_simp; with_reducible rfl⟩) hHeld ?_; refine one_ (i := 7) (N := some 30) (bZ 12 255) rfl rfl (yu HT_.out (by kernel_rfl)) (by decide) (fun K hK => ?_); refine goes_ Tryd.func11 (by kernel_rfl) rfl #[.agg #[.int .i64 ((rd_T25 l0_4 x4_1).f0), .int .i64 ((rd_T25 l0_4 x4_1).f1), .string ((rd_T25 l0_4 x4_1).f2), .slice A449_3 ((rd_T25 l0_4 x4_1).f3).length c449_3, .slice A449_4 ((rd_T25 l0_4 x4_1).f4).length c449_4]] (by rfl) rfl rfl (by (try simp only [List.map_toArray, List.map_cons, List.map_nil]); first | done | rfl | (simp only [List.length_drop, List.length_take]; rfl)) ?_
       with_reducible refine (ih k1 (by have := HK1.out; omega) ((rd_T25 l0_4 x4_1).f0) ((rd_T25 l0_4 x4_1).f1) ((rd_T25 l0_4 x4_1).f2) _ _ ((rd_T25 l0_4 x4_1).f3) _ _ ((rd_T25 l0_4 x4_1).f4) t450 t451 t452 t453 t456 _ ?side1 ?side2 ?side3 ?side4 A20.out).mono ?_
       (case side1 => repeat (first | exact (Kd.C_below HR449_3.out HB.out) | (with_reducible refine Kd.C_alloc ?_ _) | (with_reducible refine Kd.C_drewN ?_ _) | (with_reducible refine Kd.C_drew ?_)))
       (case side2 => exact HC449_3.out)
       (case side3 => repeat (first | exact (Kd.C_below HR449_4.out HB.out) | (with_reducible refine Kd.C_alloc ?_ _) | (with_reducible refine Kd.C_drewN ?_ _) | (with_reducible refine Kd.C_drew ?_)))
       (case side4 => exact HC449_4.out)
       rintro e w26 ⟨v454, v457, rfl, ho0, ho1, hb⟩; refine ⟨_, rfl, ?_⟩; have n0_ := aM (Kd.R_elder' (by (with_reducible repeat (first | apply Kd.R_alloc | apply Kd.R_drewN | apply Kd.R_drew)); exact HO_449003.out) (Kd.R_base ho0) hb); have n1_ := aM (Kd.R_mono (Kd.R_told (Kd.R_told (Kd.R_old (by (with_reducible repeat (first | apply Kd.R_alloc | apply Kd.R_drewN | apply Kd.R_drew)); exact HO_449004.out) hb) (Kd.R_base ho0)) (Kd.R_base ho1)) (fun _ h_ => h_.1)); have n2_ := aM (Kd.R_lower (Kd.R_new' ho0 (Kd.R_lt (by (with_reducible repeat (first | apply Kd.R_alloc | apply Kd.R_drewN | apply Kd.R_drew)); exact HO_449003.out))) (zl (by repeat (first | (with_reducible first | exact HB.out | apply zb | apply ze | apply zj | refine zg ?_ GE440.out | refine zg ?_ GE441.out | refine zg ?_ GE448.out) | exact HB.out)))); have n3_ := aM (Kd.R_lower (Kd.R_newB (Kd.R_newB (Kd.R_new' (Kd.R_new' ho1 (Kd.R_lt (by (with_reducible repeat (first | apply Kd.R_alloc | apply Kd.R_drewN | apply Kd.R_drew)); exact HO_449003.out))) (Kd.R_lt (by (with_reducible repeat (first | apply Kd.R_alloc | apply Kd.R_drewN | apply Kd.R_drew)); exact HO_449004.out))) (g := gb441) (o := .cells #[.int .i64 0, .int .i64 0, .string (⟨#[]⟩ : ByteArray), .slice none 0 0, .slice none 0 0] 33 (0, 0)) (by (with_reducible repeat (first | refine zf ?_ _ | refine zh ?_ | refine zc ?_ _)); exact BK441.out)) (g := gb448) (o := .cells #[.int .i64 a0_0, .int .i64 a0_1, .string a0_2, .slice Ao12 y445.length co12, u449004] 33 (0, 0)) (by (with_reducible repeat (first | refine zf ?_ _ | refine zh ?_ | refine zc ?_ _)); exact BK448.out)) (zl (by repeat (first | (with_reducible first | exact HB.out | apply zb | apply ze | apply zj | refine zg ?_ GE440.out | refine zg ?_ GE441.out | refine zg ?_ GE448.out) | exact HB.out)))); have n4_ := aM (zo (g := gb440) (o := .cells #[.int .i64 a0_0, .int .i64 a0_1, .string a0_2, .slice A0_3 l0_3.length c0_3, .slice (some ad449) l0_4.length c0_4] 25 (0, 0)) (by (with_reducible repeat (first | refine zf ?_ _ | refine zh ?_ | refine zc ?_ _)); exact BK440.out) hb); have n5_ := aM (zo (g := gb441) (o := .cells #[.int .i64 0, .int .i64 0, .string (⟨#[]⟩ : ByteArray), .slice none 0 0, .slice none 0 0] 33 (0, 0)) (by (with_reducible repeat (first | refine zf ?_ _ | refine zh ?_ | refine zc ?_ _)); exact BK441.out) hb); have n6_ := aM (zo (g := gb448) (o := .cells #[.int .i64 a0_0, .int .i64 a0_1, .string a0_2, .slice Ao12 y445.length co12, u449004] 33 (0, 0)) (by (with_reducible repeat (first | refine zf ?_ _ | refine zh ?_ | refine zc ?_ _)); exact BK448.out) hb); have n7_ := aM (zq (by repeat (first | (with_reducible first | exact HB.out | apply zb | apply ze | apply zj | refine zg ?_ GE440.out | refine zg ?_ GE441.out | refine zg ?_ GE448.out) | exact HB.out)) hb); clear HO_449003 HO_449004 BK440 BK441 BK448 HB; have HO_449003 := n0_; have HO_449004 := n1_; have HO455 := n2_; have HO458 := n3_; have BK440 := n4_; have BK441 := n5_; have BK448 := n6_; have HB := n7_; clear n0_ n1_ n2_ n3_ n4_ n5_ n6_ n7_
       (try clear hb)
       (try clear hb2)
       (try clear hk)
       (try clear hi)
       (try clear ho0)
       (try clear ho1)
       obtain ⟨Ao28, co28, eo28⟩ := Kd.R_slice HO455.out
       (first | subst eo28 | (injection eo28 with f1_ f2_ f3_; have f4_ := f1_.symm; have f5_ := f3_.symm; clear f1_ f2_ f3_; subst f4_; subst f5_))
       obtain ⟨Ao29, co29, eo29⟩ := Kd.R_slice HO458.out
       (first | subst eo29 | (injection eo29 with f1_ f2_ f3_; have f4_ := f1_.symm; have f5_ := f3_.symm; clear f1_ f2_ f3_; subst f4_; subst f5_))
       refine hK.out _ _ ⟨(za BK448.out 0).trans rfl, (za BK448.out 1).trans rfl, (za BK448.out 2).trans rfl, (za BK448.out 3).trans rfl, (za BK448.out 4).trans rfl, (za BK440.out 0).trans rfl, (za BK440.out 1).trans rfl, (za BK440.out 2).trans rfl, (za BK440.out 3).trans rfl, (za BK440.out 4).trans rfl, ((HB.out.cell (World.block_lt_of_cell? w _ hw449_0)).trans hw449_0), ((HB.out.cell (World.block_lt_of_cell? w _ hw449_1)).trans hw449_1), ((HB.out.cell (World.block_lt_of_cell? w _ hw449_2)).trans hw449_2), ((HB.out.cell (World.block_lt_of_cell? w _ hw449_3)).trans hw449_3), ((HB.out.cell (World.block_lt_of_cell? w _ hw449_4)).trans hw449_4)⟩ (fun hHeld => ?_); clear hK K; refine zt (a' := ?_) ?_ ?_; rotate_left
       ·show Act.put _ (some 30) _ = _
        simp only [Act.put, sA, sB, sC, zw, zx]; rfl
       refine one_ (i := 8) (N := some 31) (bZ 12 511) rfl rfl (yu HT_.out (by kernel_rfl)) (by decide) (fun K hK => ?_); refine yo (w1 := ?_) (v := ?_) (by rfl) rfl ?_ ?_; rotate_left 2
       ·go_simp; constructor
        ·rfl
        ·rfl
       refine hK.out _ _ ⟨(za (zc BK448.out _) 0).trans rfl, (za (zc BK448.out _) 1).trans rfl, (za (zc BK448.out _) 2).trans rfl, (za (zc BK448.out _) 3).trans rfl, (za (zc BK448.out _) 4).trans rfl, (za (zc BK440.out _) 0).trans rfl, (za (zc BK440.out _) 1).trans rfl, (za (zc BK440.out _) 2).trans rfl, (za (zc BK440.out _) 3).trans rfl, (za (zc BK440.out _) 4).trans rfl, (World.cell?_alloc_lt _ _ _ (World.block_lt_of_cell? _ _ (((HB.out.cell (World.block_lt_of_cell? w _ hw449_0)).trans hw449_0)))).trans (((HB.out.cell (World.block_lt_of_cell? w _ hw449_0)).trans hw449_0)), (World.cell?_alloc_lt _ _ _ (World.block_lt_of_cell? _ _ (((HB.out.cell (World.block_lt_of_cell? w _ hw449_1)).trans hw449_1)))).trans (((HB.out.cell (World.block_lt_of_cell? w _ hw449_1)).trans hw449_1)), (World.cell?_alloc_lt _ _ _ (World.block_lt_of_cell? _ _ (((HB.out.cell (World.block_lt_of_cell? w _ hw449_2)).trans hw449_2)))).trans (((HB.out.cell (World.block_lt_of_cell? w _ hw449_2)).trans hw449_2)), (World.cell?_alloc_lt _ _ _ (World.block_lt_of_cell? _ _ (((HB.out.cell (World.block_lt_of_cell? w _ hw449_3)).trans hw449_3)))).trans (((HB.out.cell (World.block_lt_of_cell? w _ hw449_3)).trans hw449_3)), (World.cell?_alloc_lt _ _ _ (World.block_lt_of_cell? _ _ (((HB.out.cell (World.block_lt_of_cell? w _ hw449_4)).trans hw449_4)))).trans (((HB.out.cell (World.block_lt_of_cell? w _ hw449_4)).trans hw449_4))⟩ (fun hHeld => ?_); clear hK K; refine zt (a' := ?_) ?_ ?_; rotate_left
       ·show Act.put _ (some 31) _ = _
        simp only [Act.put, sA, sB, sC, zw, zx]; rfl
       refine one_ (i := 9) (N := some 32) (bZ 12 1023) rfl rfl (yu HT_.out (by kernel_rfl)) (by decide) (fun K hK => ?_); refine Kd.R_append_step k33 (w0 := w) w.heap.size (by rfl) (.tmp 24) (.tmp 31) 31 33 (.agg #[(.int .i64 0), (.int .i64 0), (.string ⟨#[]⟩), (.slice none 0 0), (.slice none 0 0)]) 80 rfl Tryd.underlying31 info33 rfl (by decide) (by omega) u449004 x449004_1 (⟨t450, t451, t452, t453, t456⟩ : S33) [.int .i64 t450, .int .i64 t451, .string t452, .slice Ao28 t453.length co28, .slice Ao29 t456.length co29] (fun k_ => some k_ ≠ (.slice Ao12 y445.length co12 : Value).ownBlock ∧ k_ ≠ gb441 ∧ k_ ≠ gb448) (fun k_ => ((fun k_ => some k_ ≠ (.slice Ao12 y445.length co12 : Value).ownBlock ∧ k_ ≠ gb441 ∧ k_ ≠ gb448)) k_ ∧ some k_ ≠ (u449004 : Value).ownBlock) rfl rfl ?aP (fun _ hk => hk) ?aF ?aO ?aB ?aS ?aL ?_
       (case aP => exact k33_mkM _ _ _ (⟨t450, t451, t452, t453, t456⟩ : S33) (Kd.R_mono (Kd.R_types (Kd.R_types (Kd.R_apart' (HO455.out) (Kd.R_typed HO_449004.out) (by decide)) BK441.out (by decide)) BK448.out (by decide)) (fun k_ hk => ⟨⟨hk.1.1.1.2, ⟨hk.1.2, hk.2⟩⟩, hk.1.1.2⟩)) (Kd.R_mono (HO458.out) (fun k_ hk => ⟨⟨hk.1.1.1.2, ⟨hk.1.2, hk.2⟩⟩, hk.1.1.2⟩)))
       (case aB => exact (by repeat (first | (with_reducible first | exact HB.out | apply zb | apply ze | apply zj | refine zg ?_ GE440.out | refine zg ?_ GE441.out | refine zg ?_ GE448.out) | exact HB.out)))
       (case aF => exact (fun k_ hk => ⟨Kd.fresh' (Kd.R_lt (by (with_reducible repeat (first | apply Kd.R_alloc | apply Kd.R_drewN | apply Kd.R_drew)); exact HO_449003.out)) k_ hk, Kd.freshB (g := gb441) (o := .cells #[.int .i64 0, .int .i64 0, .string (⟨#[]⟩ : ByteArray), .slice none 0 0, .slice none 0 0] 33 (0, 0)) (by (with_reducible repeat (first | refine zf ?_ _ | refine zh ?_ | refine zc ?_ _)); exact BK441.out) k_ hk, Kd.freshB (g := gb448) (o := .cells #[.int .i64 a0_0, .int .i64 a0_1, .string a0_2, .slice Ao12 y445.length co12, u449004] 33 (0, 0)) (by (with_reducible repeat (first | refine zf ?_ _ | refine zh ?_ | refine zc ?_ _)); exact BK448.out) k_ hk⟩))
       (case aO => exact (by (with_reducible repeat (first | apply Kd.R_alloc | apply Kd.R_drewN | apply Kd.R_drew)); exact Kd.R_mono HO_449004.out (fun _ hk => ⟨hk.1.1.1, ⟨hk.1.1.2.1, hk.1.1.2.2⟩⟩)))
       (case aS => exact (zl (by repeat (first | (with_reducible first | exact HB.out | apply zb | apply ze | apply zj | refine zg ?_ GE440.out | refine zg ?_ GE441.out | refine zg ?_ GE448.out) | exact HB.out))))
       (case aL => have := LMc21.out; omega)
       intro v460 w27 ho hb hg hat; rw [← Ny459.out] at ho; have n0_ := aM (Kd.R_over' (by (with_reducible repeat (first | apply Kd.R_alloc | apply Kd.R_drewN | apply Kd.R_drew)); exact HO_449003.out) (Kd.R_typed (by (with_reducible repeat (first | apply Kd.R_alloc | apply Kd.R_drewN | apply Kd.R_drew)); exact HO_449004.out)) (by decide) hg); have n1_ := aM (ym (g := gb440) (o := .cells #[.int .i64 a0_0, .int .i64 a0_1, .string a0_2, .slice A0_3 l0_3.length c0_3, .slice (some ad449) l0_4.length c0_4] 25 (0, 0)) (by (with_reducible repeat (first | refine zf ?_ _ | refine zh ?_ | refine zc ?_ _)); exact BK440.out) hg (Kd.R_ne HO_449004.out BK440.out (by decide))); have n2_ := aM (ym (g := gb441) (o := .cells #[.int .i64 0, .int .i64 0, .string (⟨#[]⟩ : ByteArray), .slice none 0 0, .slice none 0 0] 33 (0, 0)) (by (with_reducible repeat (first | refine zf ?_ _ | refine zh ?_ | refine zc ?_ _)); exact BK441.out) hg (Kd.R_away HO_449004.out (fun _ hk => hk.1.1.2.1))); have n3_ := aM (ym (g := gb448) (o := .cells #[.int .i64 a0_0, .int .i64 a0_1, .string a0_2, .slice Ao12 y445.length co12, u449004] 33 (0, 0)) (by (with_reducible repeat (first | refine zf ?_ _ | refine zh ?_ | refine zc ?_ _)); exact BK448.out) hg (Kd.R_away HO_449004.out (fun _ hk => hk.1.1.2.2))); have n4_ := aM (hb); have n5_ := aM (ho); clear HO_449003 BK440 BK441 BK448 HB HO_449004 HO455 HO458; have HO_449003 := n0_; have BK440 := n1_; have BK441 := n2_; have BK448 := n3_; have HB := n4_; have HO461 := n5_; clear n0_ n1_ n2_ n3_ n4_ n5_ ho hb hg hat; obtain ⟨Ao30, co30, eo30⟩ := Kd.R_slice HO461.out
       (first | subst eo30 | (injection eo30 with f1_ f2_ f3_; have f4_ := f1_.symm; have f5_ := f3_.symm; clear f1_ f2_ f3_; subst f4_; subst f5_))
       refine hK.out _ _ ⟨(za BK448.out 0).trans rfl, (za BK448.out 1).trans rfl, (za BK448.out 2).trans rfl, (za BK448.out 3).trans rfl, (za BK448.out 4).trans rfl, (za BK440.out 0).trans rfl, (za BK440.out 1).trans rfl, (za BK440.out 2).trans rfl, (za BK440.out 3).trans rfl, (za BK440.out 4).trans rfl, ((HB.out.cell (World.block_lt_of_cell? w _ hw449_0)).trans hw449_0), ((HB.out.cell (World.block_lt_of_cell? w _ hw449_1)).trans hw449_1), ((HB.out.cell (World.block_lt_of_cell? w _ hw449_2)).trans hw449_2), ((HB.out.cell (World.block_lt_of_cell? w _ hw449_3)).trans hw449_3), ((HB.out.cell (World.block_lt_of_cell? w _ hw449_4)).trans hw449_4)⟩ (fun hHeld => ?_); clear hK K; refine zt (a' := ?_) ?_ ?_; rotate_left
       ·show Act.put _ (some 32) _ = _
        simp only [Act.put, sA, sB, sC, zw, zx]; rfl
       refine pU 10 (some 33) (bZ 12 2047) rfl (ye HT_.out (by kernel_rfl)) ?_; refine xl (i := 11) (N := none) (bZ 12 4095) rfl rfl (yu HT_.out (by kernel_rfl)) (by decide) (fun K hK => ?_); have hs31 : w27.cell? ⟨gb448, 4, none⟩ = some (u449004) := (za BK448.out 4).trans rfl; have hfs31 := zi BK448.out 4; have hns31_0 := NB440_448.out; have hns31_1 := NB441_448.out; have hms31_0 := NB448_440.out; have hms31_1 := NB448_441.out; refine skip_ (w1 := ?_) (by rfl) rfl ?_ ?_; rotate_left
       ·go_simp; rfl
       refine hK.out _ _ ?_; clear hK K; refine xp (done_of HT_.out (by kernel_rfl)) ?_
       try go_wp2
       go_roundg k1
       case measure => have := HK1.out; omega
       case rel => exact ⟨(wrap64 (x4_1 + 1)), (y459), (.slice Ao30 y459.length co30), (by first | rfl | (simp; done) | (simp [*]; done)), H', ⟨by have := HK1.out; omega⟩, ⟨by (with_reducible repeat (first | apply Kd.R_alloc | apply Kd.R_drewN | apply Kd.R_drew)); exact Kd.R_mono (Kd.R_far (p := ⟨gb448, 4, none⟩) (Kd.R_types HO_449003.out BK448.out (by decide)) (fun _ hk => hk.2) (.slice Ao30 y459.length co30)) (fun _ hk => trivial)⟩, ⟨by (with_reducible repeat (first | apply Kd.R_alloc | apply Kd.R_drewN | apply Kd.R_drew)); exact Kd.R_mono (Kd.R_far (p := ⟨gb448, 4, none⟩) (Kd.R_mono HO461.out (fun k_ hk => (⟨hk, hk.2.2⟩ : _ ∧ k_ ≠ gb448))) (fun _ hk => hk.2) (.slice Ao30 y459.length co30)) (fun _ hk => ⟨hk.1.1, ⟨hk.1.2.1, hk.1.2.2⟩⟩)⟩, ⟨by (with_reducible repeat (first | refine zf ?_ _ | refine zh ?_ | refine zc ?_ _)); refine yc ?_ NB440_448.out _; (with_reducible repeat (first | refine zf ?_ _ | refine zh ?_ | refine zc ?_ _)); exact BK440.out⟩, ⟨by (with_reducible repeat (first | refine zf ?_ _ | refine zh ?_ | refine zc ?_ _)); refine yc ?_ NB441_448.out _; (with_reducible repeat (first | refine zf ?_ _ | refine zh ?_ | refine zc ?_ _)); exact BK441.out⟩, ⟨by (with_reducible repeat (first | refine zf ?_ _ | refine zh ?_ | refine zc ?_ _)); refine zn (cs := #[.int .i64 a0_0, .int .i64 a0_1, .string a0_2, .slice Ao12 y445.length co12, u449004]) ?_ 4 _ rfl; (with_reducible repeat (first | refine zf ?_ _ | refine zh ?_ | refine zc ?_ _)); exact BK448.out⟩, ⟨by repeat (first | (with_reducible first | exact HB.out | apply zb | apply ze | apply zj | refine zg ?_ GE440.out | refine zg ?_ GE441.out | refine zg ?_ GE448.out) | exact HB.out)⟩⟩
      ·rw [if_neg c21] at H; exact absurd H (by simp)
     ·rw [if_neg c19] at H; exact absurd H (by simp)
    ·rw [if_neg c18] at H; have c18b0 : decide (x4_1 < (l0_4.length : Int)) = false := decide_eq_false c18; clear c18; simp only [Option.some.injEq, Prod.mk.injEq] at H; obtain ⟨rfl, rfl, rfl, rfl, rfl⟩ := H; have hnb32 := NB440_441.out; have hnc32 := NB441_440.out; have hnb33 := NB440_448.out; have hnc33 := NB448_440.out; have hcz34_0 : wr.cell? ⟨gb440, 0, none⟩ = some (.int .i64 a0_0) := (za BK440.out 0).trans rfl; have hcz34_1 : wr.cell? ⟨gb440, 1, none⟩ = some (.int .i64 a0_1) := (za BK440.out 1).trans rfl; have hcz34_2 : wr.cell? ⟨gb440, 2, none⟩ = some (.string a0_2) := (za BK440.out 2).trans rfl; have hcz34_3 : wr.cell? ⟨gb440, 3, none⟩ = some (.slice A0_3 l0_3.length c0_3) := (za BK440.out 3).trans rfl; have hcz34_4 : wr.cell? ⟨gb440, 4, none⟩ = some (.slice A0_4 l0_4.length c0_4) := (za BK440.out 4).trans rfl; have hfz34_0 := zi BK440.out 0; have hfz34_1 := zi BK440.out 1; have hfz34_2 := zi BK440.out 2; have hfz34_3 := zi BK440.out 3; have hfz34_4 := zi BK440.out 4; have hnb35 := NB448_441.out; have hnc35 := NB441_448.out; have hcz36_0 : wr.cell? ⟨gb448, 0, none⟩ = some (.int .i64 a0_0) := (za BK448.out 0).trans rfl; have hcz36_1 : wr.cell? ⟨gb448, 1, none⟩ = some (.int .i64 a0_1) := (za BK448.out 1).trans rfl; have hcz36_2 : wr.cell? ⟨gb448, 2, none⟩ = some (.string a0_2) := (za BK448.out 2).trans rfl; have hcz36_3 : wr.cell? ⟨gb448, 3, none⟩ = some (.slice Ao12 y445.length co12) := (za BK448.out 3).trans rfl; have hcz36_4 : wr.cell? ⟨gb448, 4, none⟩ = some (u449004) := (za BK448.out 4).trans rfl; have hfz36_0 := zi BK448.out 0; have hfz36_1 := zi BK448.out 1; have hfz36_2 := zi BK448.out 2; have hfz36_3 := zi BK448.out 3; have hfz36_4 := zi BK448.out 4; have hcz37_0 : wr.cell? ⟨gb441, 0, none⟩ = some (.int .i64 0) := (za BK441.out 0).trans rfl; have hcz37_1 : wr.cell? ⟨gb441, 1, none⟩ = some (.int .i64 0) := (za BK441.out 1).trans rfl; have hcz37_2 : wr.cell? ⟨gb441, 2, none⟩ = some (.string (⟨#[]⟩ : ByteArray)) := (za BK441.out 2).trans rfl; have hcz37_3 : wr.cell? ⟨gb441, 3, none⟩ = some (.slice none 0 0) := (za BK441.out 3).trans rfl; have hcz37_4 : wr.cell? ⟨gb441, 4, none⟩ = some (.slice none 0 0) := (za BK441.out 4).trans rfl; have hfz37_0 := zi BK441.out 0; have hfz37_1 := zi BK441.out 1; have hfz37_2 := zi BK441.out 2; have hfz37_3 := zi BK441.out 3; have hfz37_4 := zi BK441.out 4; obtain ⟨Ao38, co38, eo38⟩ := Kd.R_slice HO_449004.out; subst eo38
     go_wp2
     refine bodyPost_ret (results_cell_row rfl _ _ gb441 33 #[.int .i64 a0_0, .int .i64 a0_1, .string a0_2, .slice Ao12 y445.length co12, .slice Ao38 x449004_1.length co38] (0, 0) _ rfl (by (with_reducible repeat (first | refine zf ?_ _ | refine zh ?_ | refine zc ?_ _)); refine zn (cs := #[.int .i64 a0_0, .int .i64 a0_1, .string a0_2, .slice Ao12 y445.length co12, .slice none 0 0]) ?_ 4 _ rfl; (with_reducible repeat (first | refine zf ?_ _ | refine zh ?_ | refine zc ?_ _)); refine zn (cs := #[.int .i64 a0_0, .int .i64 a0_1, .string a0_2, .slice none 0 0, .slice none 0 0]) ?_ 3 _ rfl; (with_reducible repeat (first | refine zf ?_ _ | refine zh ?_ | refine zc ?_ _)); refine zn (cs := #[.int .i64 a0_0, .int .i64 a0_1, .string (⟨#[]⟩ : ByteArray), .slice none 0 0, .slice none 0 0]) ?_ 2 _ rfl; (with_reducible repeat (first | refine zf ?_ _ | refine zh ?_ | refine zc ?_ _)); refine zn (cs := #[.int .i64 a0_0, .int .i64 0, .string (⟨#[]⟩ : ByteArray), .slice none 0 0, .slice none 0 0]) ?_ 1 _ rfl; (with_reducible repeat (first | refine zf ?_ _ | refine zh ?_ | refine zc ?_ _)); refine zn (cs := #[.int .i64 0, .int .i64 0, .string (⟨#[]⟩ : ByteArray), .slice none 0 0, .slice none 0 0]) ?_ 0 _ rfl; (with_reducible repeat (first | refine zf ?_ _ | refine zh ?_ | refine zc ?_ _)); exact BK441.out) Tryd.underlying33 rfl (by kernel_rfl)) rfl ?_; exact ⟨_, _, by first | rfl | (simp [zv, zu] <;> rfl) | (simp [*, zv, zu] <;> rfl), by (with_reducible repeat (first | apply Kd.R_alloc | apply Kd.R_drewN | apply Kd.R_drew)); exact Kd.R_mono (Kd.R_far (p := ⟨gb441, 4, none⟩) (Kd.R_far (p := ⟨gb441, 3, none⟩) (Kd.R_far (p := ⟨gb441, 2, none⟩) (Kd.R_far (p := ⟨gb441, 1, none⟩) (Kd.R_far (p := ⟨gb441, 0, none⟩) (Kd.R_types HO_449003.out BK441.out (by decide)) (fun _ hk => hk.2) (.int .i64 a0_0)) (fun _ hk => hk.2) (.int .i64 a0_1)) (fun _ hk => hk.2) (.string a0_2)) (fun _ hk => hk.2) (.slice Ao12 y445.length co12)) (fun _ hk => hk.2) (.slice Ao38 x449004_1.length co38)) (fun _ hk => trivial), by (with_reducible repeat (first | apply Kd.R_alloc | apply Kd.R_drewN | apply Kd.R_drew)); exact Kd.R_mono (Kd.R_far (p := ⟨gb441, 4, none⟩) (Kd.R_far (p := ⟨gb441, 3, none⟩) (Kd.R_far (p := ⟨gb441, 2, none⟩) (Kd.R_far (p := ⟨gb441, 1, none⟩) (Kd.R_far (p := ⟨gb441, 0, none⟩) (Kd.R_mono HO_449004.out (fun k_ hk => (⟨hk, hk.2.1⟩ : _ ∧ k_ ≠ gb441))) (fun _ hk => hk.2) (.int .i64 a0_0)) (fun _ hk => hk.2) (.int .i64 a0_1)) (fun _ hk => hk.2) (.string a0_2)) (fun _ hk => hk.2) (.slice Ao12 y445.length co12)) (fun _ hk => hk.2) (.slice Ao38 x449004_1.length co38)) (fun _ hk => hk.1.1), by repeat (first | (with_reducible first | exact HB.out | apply zb | apply ze | apply zj | refine zg ?_ GE440.out | refine zg ?_ GE441.out | refine zg ?_ GE448.out) | exact HB.out)⟩
 ·rw [if_neg c2] at H; exact absurd H (by simp)
end Go.Proofs.YtmpmekliaicecaaDoor.PS
namespace Go.Proofs.YtmpmekliaicecaaDoor.Tr
open Go.RowKit Go.Proofs.YtmpmekliaicecaaDoorW.PrintWords Go.Proofs.YtmpmekliaicecaaDoorW.PrintLast Go.Proofs.YtmpmekliaicecaaDoor.Str Go.Proofs.YtmpmekliaicecaaDoor.Kit Go.Proofs.YtmpmekliaicecaaDoor.MapV Go.Proofs.YtmpmekliaicecaaDoor.Frame Go.Proofs.YtmpmekliaicecaaDoor.PS
def ToAnyAt (x : VI) : Prop := ∀ (A3 A4 : Option Addr) (c3 c4 : Nat) (w : World), x.f3.length ≤ c3 → Kd.string.C w A3 x.f3.length x.f3 → x.f4.length ≤ c4 → kI.C w A4 x.f4.length x.f4 →
  Calls Tryd.prog 28 #[.agg #[.int .i64 x.f0, .int .i64 x.f1, .string x.f2, .slice A3 x.f3.length c3, .slice A4 x.f4.length c4]] w (Made w (anyOf x))
set_option maxHeartbeats 6400000 in
set_option maxRecDepth 100000 in
theorem toMap_of (kd nm : Int) (t : BA) (ks : List BA) (vs : List VI) (hks : ∀ s, s ∈ ks → s.size ≤ maxLen) (hkl : ks.length ≤ 8796093022000) (hvl : vs.length ≤ 1759218604400) (hch : ∀ v, v ∈ vs → ToAnyAt v) (A3 A4 : Option Addr) (c3 c4 : Nat) (w : World) (hk : Kd.string.C w A3 ks.length ks) (hv : kI.C w A4 vs.length vs) :
  Calls Tryd.prog 21 #[.agg #[.int .i64 kd, .int .i64 nm, .string t, .slice A3 ks.length c3, .slice A4 vs.length c4]] w fun e w' => ∃ b, e = .returned (.map (some b)) ∧ AR w' (.iface 45 (.map (some b))) (.map (fitM (pairsOf ks vs))) (fun k => w.heap.size ≤ k ∧ k < w'.heap.size) ∧ Below w.heap.size w w' := by
 have HC := aM hch; have HK := aM hk; have HV := aM hv; have HKS := aM hks
 have hmm := fun (n : Int) (w : World) => run_makeHint (P := Tryd.prog) amap_u .i64 n w
 have hbx := zb (Below.refl w.heap.size w) (.cells #[.int .i64 kd, .int .i64 nm, .string t, .slice A3 ks.length c3, .slice A4 vs.length c4] 33); have HB0 := aM (zb hbx (.map #[] 0)); have HX0 := aM (show ((w.alloc (.cells #[.int .i64 kd, .int .i64 nm, .string t, .slice A3 ks.length c3, .slice A4 vs.length c4] 33)).alloc (.map #[] 0)).heap[w.heap.size]? = some (.cells #[.int .i64 kd, .int .i64 nm, .string t, .slice A3 ks.length c3, .slice A4 vs.length c4] 33 (0, 0)) from zc (yx _ _) _); have hm0 := MapAt.made (w.alloc (.cells #[.int .i64 kd, .int .i64 nm, .string t, .slice A3 ks.length c3, .slice A4 vs.length c4] 33)); rw [World.size_alloc] at hm0; have HM0 := aM hm0; have HT0 := aM (show fitM ((pairsOf ks vs).take 0) = [] from rfl); clear hch hk hv hks hbx hm0
 go_enter Tryd.func21, Tryd.ntmps21
 go_wp2
 go_loopw [4] (fun v4 wr => ∃ i : Nat, v4 = .int .i64 i ∧ i ≤ ks.length ∧ i ≤ vs.length ∧ Aside0 (∃ zs, MapAt wr (w.heap.size + 1) zs (fitM ((pairsOf ks vs).take i))) ∧ Aside0 (Below w.heap.size w wr) ∧ Aside0 (wr.heap[w.heap.size]? = some (.cells #[.int .i64 kd, .int .i64 nm, .string t, .slice A3 ks.length c3, .slice A4 vs.length c4] 33 (0, 0)))) (fun v4 _ => ks.length - (intOf v4).toNat)
 case atStart => exact ⟨0, rfl, by omega, by omega, ⟨[], HM0.out⟩, HB0, HX0⟩
 case round =>
  clear HM0 HB0 HX0 HT0; obtain ⟨i, rfl, hik, hiv, HM, HB, HX⟩ := hrel; have x3 := zr (i := 3) HX.out rfl; have x4 := zr (i := 4) HX.out rfl
  have q0 : (0 : Int) ≤ (i : Int) := by omega
  by_cases hlk : i < ks.length
  ·by_cases hlv : i < vs.length
   ·have q1 : (i : Int) < (ks.length : Int) := by omega
    have q2 : (i : Int) < (vs.length : Int) := by omega
    have d1 : decide ((i : Int) < (ks.length : Int)) = true := decide_eq_true q1; have d2 : decide ((i : Int) < (vs.length : Int)) = true := decide_eq_true q2; obtain ⟨kb, ko, rfl, hkb, hkc⟩ := strs_open HK.out (by omega); obtain ⟨vb, vo, rfl, hvb, hvc⟩ := kI_at HV.out (by omega); have k0 := hkc i hlk; obtain ⟨B3, d3, B4, d4, e0, e1, e2, e3, e4, l3, g3, l4, g4⟩ := hvc i hlv; have HCH := aM (HC.out vs[i] (List.getElem_mem hlv)); have HKZ := aM (HKS.out ks[i] (List.getElem_mem hlk)); have HTK := aM (pairsOf_get hlk hlv); have HG := aM (And.intro l3 (And.intro g3 (And.intro l4 g4))); have n0 : wr.drew.cell? ⟨kb, ko + i, none⟩ = some (.string ks[i]) := zk HB.out k0; have y0 : wr.drew.cell? ⟨vb, vo + i * 5, none⟩ = some (.int .i64 vs[i].f0) := zk HB.out e0; have y1 : wr.drew.cell? ⟨vb, vo + i * 5 + 1, none⟩ = some (.int .i64 vs[i].f1) := zk HB.out e1; have y2 : wr.drew.cell? ⟨vb, vo + i * 5 + 2, none⟩ = some (.string vs[i].f2) := zk HB.out e2; have y3 : wr.drew.cell? ⟨vb, vo + i * 5 + 3, none⟩ = some (.slice B3 vs[i].f3.length d3) := zk HB.out e3; have y4 : wr.drew.cell? ⟨vb, vo + i * 5 + 4, none⟩ = some (.slice B4 vs[i].f4.length d4) := zk HB.out e4; have z3 : wr.drew.cell? ⟨w.heap.size, 3, none⟩ = some (.slice (some ⟨kb, ko, none⟩) ks.length c3) := x3; have z4 : wr.drew.cell? ⟨w.heap.size, 4, none⟩ = some (.slice (some ⟨vb, vo, none⟩) vs.length c4) := x4; have CA := aM (fun (W : World) (hb : Below w.heap.size w W) => HCH.out B3 B4 d3 d4 W HG.out.1 (Kd.C_below HG.out.2.1 hb) HG.out.2.2.1 (Kd.C_below HG.out.2.2.2 hb)); clear hkc hvc k0 e0 e1 e2 e3 e4 l3 g3 l4 g4 HCH HG; generalize ks[i] = key at n0 HTK HKZ; generalize vs[i] = v at y0 y1 y2 y3 y4 HTK CA; obtain ⟨x0, x1, x2, x3_, x4_⟩ := v
    obtain ⟨f, hf⟩ : ∃ f, fitM ((pairsOf ks vs).take i) = f := ⟨_, rfl⟩
    have HF := aM (show fitM ((pairsOf ks vs).take (i + 1)) = mput f (lb key) (anyOf ⟨x0, x1, x2, x3_, x4_⟩) by rw [HTK.out, fitM_snoc, hf])
    have hfl : f.length ≤ i := by
     rw [← hf]; exact Nat.le_trans (fitM_length _) (List.length_take_le _ _)
    rw [hf] at HM; clear hf HTK; generalize anyOf ⟨x0, x1, x2, x3_, x4_⟩ = yv at CA HF
    go_wp2_with fail
    refine xc (n := 13) (S := fun w' => w'.cell? ⟨w.heap.size, 3, none⟩ = some (.slice (some ⟨kb, ko, none⟩) ks.length c3) ∧ w'.cell? ⟨w.heap.size, 4, none⟩ = some (.slice (some ⟨vb, vo, none⟩) vs.length c4) ∧ w'.cell? ⟨kb, ko + i, none⟩ = some (.string key) ∧ w'.cell? ⟨vb, vo + i * 5, none⟩ = some (.int .i64 x0) ∧ w'.cell? ⟨vb, vo + i * 5 + 1, none⟩ = some (.int .i64 x1) ∧ w'.cell? ⟨vb, vo + i * 5 + 2, none⟩ = some (.string x2) ∧ w'.cell? ⟨vb, vo + i * 5 + 3, none⟩ = some (.slice B3 x3_.length d3) ∧ w'.cell? ⟨vb, vo + i * 5 + 4, none⟩ = some (.slice B4 x4_.length d4)) (ds := [12]) (bZ 13 0) (by kernel_rfl) rfl rfl ⟨z3, z4, n0, y0, y1, y2, y3, y4⟩ (fun hHeld => ?_); refine pU 0 (some 23) (bZ 13 1) rfl (by kernel_rfl) ?_; refine pU 1 (some 24) (bZ 13 3) rfl (by kernel_rfl) ?_; refine pU 3 (some 26) (bZ 13 11) rfl (by kernel_rfl) ?_; refine pU 6 (some 29) (bZ 13 75) rfl (by kernel_rfl) ?_; refine pU 8 (some 31) (bZ 13 331) rfl (by kernel_rfl) ?_; refine tU 2 (some 25) (bZ 13 335) rfl (by kernel_rfl) (Or.inl ⟨by rfl, by rintro w' ⟨s0, s1, s2, s3, s4, s5, s6, s7⟩; go_simp; with_reducible rfl⟩) hHeld ?_; refine pU 4 (some 27) (bZ 13 351) rfl (by kernel_rfl) ?_; refine tU 5 (some 28) (bZ 13 383) rfl (by kernel_rfl) (Or.inl ⟨by rfl, by rintro w' ⟨s0, s1, s2, s3, s4, s5, s6, s7⟩; go_simp; with_reducible rfl⟩) hHeld ?_; refine tU 7 (some 30) (bZ 13 511) rfl (by kernel_rfl) (Or.inl ⟨by rfl, by rintro w' ⟨s0, s1, s2, s3, s4, s5, s6, s7⟩; go_simp; with_reducible rfl⟩) hHeld ?_; refine pU 9 (some 32) (bZ 13 1023) rfl (by kernel_rfl) ?_; refine tU 10 (some 33) (bZ 13 2047) rfl (by kernel_rfl) (Or.inl ⟨by rfl, by rintro w' ⟨s0, s1, s2, s3, s4, s5, s6, s7⟩; go_simp; with_reducible rfl⟩) hHeld ?_; refine one_ (i := 11) (N := some 34) (bZ 13 4095) rfl rfl (by kernel_rfl) (by decide) (fun K hK => ?_); refine goes_ Tryd.func28 (by kernel_rfl) rfl #[.agg #[.int .i64 x0, .int .i64 x1, .string x2, .slice B3 x3_.length d3, .slice B4 x4_.length d4]] (by rfl) rfl rfl (by simp only [List.map_toArray, List.map_cons, List.map_nil]; rfl) ?_
    with_reducible refine (CA.out wr.drew (yf HB.out)).mono ?_
    rintro e w3 ⟨v3, rfl, ha3, hb3⟩; refine ⟨_, rfl, ?_⟩; have HB3 := aM hb3; have HA3 := aM ha3; have HX3 := aM ((hb3.block _ (yb (show wr.drew.heap[w.heap.size]? = _ from HX.out))).trans (show wr.drew.heap[w.heap.size]? = _ from HX.out)); clear ha3; refine hK.out _ _ ⟨zk hb3 hHeld.1, zk hb3 hHeld.2.1, zk hb3 hHeld.2.2.1, zk hb3 hHeld.2.2.2.1, zk hb3 hHeld.2.2.2.2.1, zk hb3 hHeld.2.2.2.2.2.1, zk hb3 hHeld.2.2.2.2.2.2.1, zk hb3 hHeld.2.2.2.2.2.2.2⟩ (fun hHeld => ?_); clear hK K; refine zt (a' := ?_) ?_ ?_; rotate_left
    ·show Act.put _ (some 34) _ = _
     simp only [Act.put, sA, sB, sC, zw, zx]; rfl
    refine xl (i := 12) (N := none) (bZ 13 8191) rfl rfl (by kernel_rfl) (by decide) (fun K hK => ?_); obtain ⟨zs, hzs⟩ := HM.out; have hlen := hzs.length; refine store_mapE_step (enc := (id : Value → Value)) (y := v3) akey_u amap_u rfl rfl _ _ _ rfl rfl ((hzs.drew.move HB3.out).hm) (by rw [hlen]; unfold maxLen; omega) rfl HKZ.out rfl ?_; intro w4 hm4 hg4; have HM4 := aM (hzs.drew.put HB3.out HA3.out (lb key) hm4 hg4); have HG4 := aM hg4; clear hm4 hg4 hzs hlen; refine hK.out _ _ ?_; clear hK K; refine xp (by kernel_rfl) ?_
    go_wp2
    go_roundw
    case rel =>
     refine ⟨i + 1, by go_num, by omega, by omega, ⟨⟨_, by rw [HF.out]; exact HM4.out⟩⟩, ⟨?_⟩, ⟨?_⟩⟩
     ·exact zm (yq (yf HB.out) HB3.out) _ (yq (yf HB.out) HB3.out).size HG4.out (fun k hk => by injection hk with hk; omega)
     ·exact (HG4.out.block _ (yb HX3.out) (fun e => by injection e with e; omega)).trans HX3.out
    case measure => simp [intOf]; omega
   ·have d1 : decide ((i : Int) < (ks.length : Int)) = true := decide_eq_true (by omega); have d2 : decide ((i : Int) < (vs.length : Int)) = false := decide_eq_false (by omega); have HTK := aM (show (pairsOf ks vs).take i = pairsOf ks vs from List.take_of_length_le (by rw [pairsOf_length]; omega))
    go_wp2
    go_ret
    obtain ⟨zs, hzs⟩ := HM.out; rw [HTK.out] at hzs; exact ⟨_, rfl, hzs.done.mono (fun k hk => ⟨by have := hk.1; omega, hk.2⟩), HB.out⟩
  ·have d1 : decide ((i : Int) < (ks.length : Int)) = false := decide_eq_false (by omega); have HTK := aM (show (pairsOf ks vs).take i = pairsOf ks vs from List.take_of_length_le (by rw [pairsOf_length]; omega))
   go_wp2
   go_ret
   obtain ⟨zs, hzs⟩ := HM.out; rw [HTK.out] at hzs; exact ⟨_, rfl, hzs.done.mono (fun k hk => ⟨by have := hk.1; omega, hk.2⟩), HB.out⟩
theorem info_any : (Tryd.prog.info? 20).map (fun i => (i.zero, i.size, i.bytes)) = some (some .nilIface, 1, 16) := by kernel_rfl
def noEn : En := (.nilIface, .null, fun _ => False)
structure ListAt (wr : World) (b n : Nat) (zs : List En) : Prop where
 hr : kAny.R 20 wr 0 (fun _ => True) (.slice (some ⟨b, 0, none⟩) n n) (zs.map (fun z => z.1))
 hz : ∀ z, z ∈ zs → AR wr z.1 z.2.1 z.2.2
 hd : zs.Pairwise En.far
 hF : ∀ z, z ∈ zs → ∀ k, z.2.2 k → b < k ∧ k < wr.heap.size
theorem ListAt.length {wr : World} {b n : Nat} {zs : List En} (h : ListAt wr b n zs) : zs.length = n := by
 have := (Kd.R_reads' h.hr).1; rw [List.length_map] at this; exact this.symm
theorem ListAt.lt {wr : World} {b n : Nat} {zs : List En} (h : ListAt wr b n zs) : b < wr.heap.size := ((Kd.R_bound h.hr).1 b (by simp [Value.ownBlock])).2.2.1
theorem ListAt.move {wr w1 : World} {b n : Nat} {zs : List En} (h : ListAt wr b n zs) (hb : Below wr.heap.size wr w1) : ListAt w1 b n zs :=
 ⟨Kd.R_below h.hr hb, fun z hz => (h.hz z hz).move (fun k hk => hb.block k (h.hF z hz k hk).2), h.hd, fun z hz k hk => ⟨(h.hF z hz k hk).1, Nat.lt_of_lt_of_le (h.hF z hz k hk).2 hb.size⟩⟩
theorem set_pair {R : En → En → Prop} (hs : ∀ a b, R a b → R b a) {x : En} : ∀ {zs : List En} (i : Nat), zs.Pairwise R → (∀ z ∈ zs, R x z) → (zs.set i x).Pairwise R
 | [], _, h, _ => h
 | y :: r, 0, h, hx => List.pairwise_cons.2 ⟨fun z hz => hx z (by simp [hz]), (List.pairwise_cons.1 h).2⟩
 | y :: r, i + 1, h, hx => by
  obtain ⟨h1, h2⟩ := List.pairwise_cons.1 h; rw [List.set_cons_succ]; refine List.pairwise_cons.2 ⟨fun z hz => ?_, set_pair hs i h2 (fun z hz => hx z (by simp [hz]))⟩
  rcases List.mem_or_eq_of_mem_set hz with hz | rfl
  ·exact h1 z hz
  ·exact hs _ _ (hx y (by simp))
theorem ListAt.put {W w3 : World} {b n : Nat} {zs : List En} (h : ListAt W b n zs) (hb3 : Below W.heap.size W w3) {v : Value} {y : Y} (hA : AR w3 v y (fun k => W.heap.size ≤ k ∧ k < w3.heap.size)) (i : Nat) (hi : i < n) :
  ListAt (w3.setCell ⟨b, i, none⟩ v) b n (zs.set i (v, y, fun k => W.heap.size ≤ k ∧ k < w3.heap.size)) := by
 have hlt := h.lt; have h3 := h.move hb3
 have hsz : (w3.setCell ⟨b, i, none⟩ v).heap.size = w3.heap.size := by simp
 have hg : w3.grownBy (w3.setCell ⟨b, i, none⟩ v) (some b) := zz w3 b i v
 have mv : ∀ {v' y F}, AR w3 v' y F → (∀ k, F k → b < k ∧ k < w3.heap.size) → AR (w3.setCell ⟨b, i, none⟩ v) v' y F := fun hA hF => hA.move (fun k hk => hg.block k (hF k hk).2 (fun e => by injection e with e; have := (hF k hk).1; omega))
 refine ⟨?_, fun z hz => ?_, ?_, fun z hz k hk => ?_⟩
 ·rw [List.map_set]; exact (kAny_put h3.hr i hi v hA.one).2.2
 ·rcases List.mem_or_eq_of_mem_set hz with hz | rfl
  ·exact mv (h3.hz z hz) (h3.hF z hz)
  ·exact mv hA (fun k hk => ⟨by omega, hk.2⟩)
 ·refine set_pair (fun a b hab k hk hk2 => hab k hk2 hk) i h.hd (fun z hz k hk hk2 => ?_); have h1 := (h.hF z hz k hk2).2; have h2 : W.heap.size ≤ k := hk.1
  omega
 ·rw [hsz]
  rcases List.mem_or_eq_of_mem_set hz with hz | rfl
  ·exact h3.hF z hz k hk
  ·have h2 : W.heap.size ≤ k := hk.1; exact ⟨by omega, hk.2⟩
theorem ListAt.done {wr : World} {b n : Nat} {zs : List En} {l : List Y} (h : ListAt wr b n zs) (hl : zs.map (fun z => z.2.1) = l) : AR wr (.iface 58 (.slice (some ⟨b, 0, none⟩) n n)) (.list l) (fun k => b ≤ k ∧ k < wr.heap.size) :=
 .list _ zs l _ hl.symm h.hr h.hz h.hd (fun b' hb' => by
  have : b = b' := by simpa [Value.ownBlock] using hb'
  subst this
  exact ⟨⟨Nat.le_refl _, h.lt⟩, fun z hz hk => by have := (h.hF z hz b hk).1; omega⟩) (fun z hz k hk => ⟨Nat.le_of_lt (h.hF z hz k hk).1, (h.hF z hz k hk).2⟩)
theorem ListAt.made (w : World) (n : Nat) (hn : n ≤ 1759218604400) : ListAt (w.alloc (.cells (madeCells #[.nilIface] n) 20)) w.heap.size n (List.replicate n noEn) := by
 refine ⟨?_, fun z hz => ?_, ?_, fun z hz k hk => ?_⟩
 ·have e : (List.replicate n noEn).map (fun z => z.1) = List.replicate n Value.nilIface := by rw [List.map_replicate]; rfl
  rw [e]; refine ⟨fun _ _ => trivial, List.replicate n Value.nilIface, ⟨by simp [held], .inr ⟨w.heap.size, n, madeCells #[.nilIface] n, by simp, Nat.zero_le _, yx _ _, by simp, by unfold maxLen; omega, by simp [held, size_madeCells], ?_⟩⟩, by simp [held], fun j p hp => ?_⟩
  ·show (madeCells #[.nilIface] n).toList.take ((List.replicate n Value.nilIface).length * 1) = List.replicate n Value.nilIface
   rw [List.length_replicate, Nat.mul_one]
   apply List.ext_getElem?
   intro j
   by_cases hj : j < n
   ·rw [List.getElem?_take_of_lt hj, Array.getElem?_toList]
    simp [madeCells, hj, Nat.mod_one]
   ·rw [List.getElem?_take_eq_none (by omega), List.getElem?_eq_none (by simp; omega)]
  ·obtain ⟨hj, rfl⟩ := List.getElem?_eq_some_iff.1 hp
   have hj' : j < n := by simpa using hj
   show ((List.replicate n Value.nilIface).drop (j * 1)).take 1 = [(List.replicate n Value.nilIface)[j]] ∧ _
   rw [List.getElem_replicate, Nat.mul_one, List.drop_replicate, List.take_replicate, show min 1 (n - j) = 1 by omega]; exact ⟨rfl, rfl⟩
 ·rw [List.eq_of_mem_replicate hz]; exact .null _
 ·exact List.pairwise_replicate.2 (.inr (fun k hk => hk.elim))
 ·rw [List.eq_of_mem_replicate hz] at hk; exact hk.elim
def saidTo (l : List Y) (i n : Nat) : List Y := l.take i ++ List.replicate (n - i) .null
theorem saidTo_set (l : List Y) (i n : Nat) (hi : i < n) (hl : l.length = n) : (saidTo l i n).set i (l[i]'(by omega)) = saidTo l (i + 1) n := by
 unfold saidTo
 have h1 : (l.take i).length = i := by rw [List.length_take]; omega
 rw [List.set_append_right _ _ (by omega), h1, Nat.sub_self]
 obtain ⟨m, hm⟩ : ∃ m, n - i = m + 1 := ⟨n - i - 1, by omega⟩
 rw [hm, List.replicate_succ, List.set_cons_zero, List.take_succ_eq_append_getElem (by omega), show n - (i + 1) = m by omega, List.append_assoc]; rfl
set_option maxHeartbeats 6400000 in
set_option maxRecDepth 100000 in
theorem toAny_list (nm : Int) (t : BA) (ks : List BA) (vs : List VI) (hvl : vs.length ≤ 1759218604400) (hch : ∀ v, v ∈ vs → ToAnyAt v) (A3 A4 : Option Addr) (c3 c4 : Nat) (w : World) (hv : kI.C w A4 vs.length vs) :
  Calls Tryd.prog 28 #[.agg #[.int .i64 4, .int .i64 nm, .string t, .slice A3 ks.length c3, .slice A4 vs.length c4]] w (Made w (.list (anyL vs))) := by
 have HC := aM hch; have HV := aM hv
 have hmk := fun W => run_make_row' (P := Tryd.prog) 58 20 .nilIface 16 Tryd.underlying58 info_any rfl .i64 .i64 vs.length (by omega) (by omega) W
 have hbx := zb (Below.refl w.heap.size w) (.cells #[.int .i64 4, .int .i64 nm, .string t, .slice A3 ks.length c3, .slice A4 vs.length c4] 33); have HB0 := aM (zb hbx (.cells (madeCells #[.nilIface] vs.length) 20)); have HX0 := aM (show ((w.alloc (.cells #[.int .i64 4, .int .i64 nm, .string t, .slice A3 ks.length c3, .slice A4 vs.length c4] 33)).alloc (.cells (madeCells #[.nilIface] vs.length) 20)).heap[w.heap.size]? = some (.cells #[.int .i64 4, .int .i64 nm, .string t, .slice A3 ks.length c3, .slice A4 vs.length c4] 33 (0, 0)) from zc (yx _ _) _); have hm0 := ListAt.made (w.alloc (.cells #[.int .i64 4, .int .i64 nm, .string t, .slice A3 ks.length c3, .slice A4 vs.length c4] 33)) vs.length hvl; rw [World.size_alloc] at hm0; have HM0 := aM hm0; have HT0 := aM (show (List.replicate vs.length noEn).map (fun z => z.2.1) = saidTo (anyL vs) 0 vs.length from by rw [List.map_replicate]; rfl)
 have hc : ∀ W : World, W = W := fun _ => rfl
 clear hch hv hbx hm0 hc
 go_enter Tryd.func28, Tryd.ntmps28
 go_wp2
 go_loopw [32, 4] (fun v32 v4 wr => ∃ i : Nat, v32 = .int .i64 i ∧ i ≤ vs.length ∧ Aside0 (∃ zs, ListAt wr (w.heap.size + 1) vs.length zs ∧ zs.map (fun z => z.2.1) = saidTo (anyL vs) i vs.length) ∧ Aside0 (Below w.heap.size w wr) ∧ Aside0 (wr.heap[w.heap.size]? = some (.cells #[.int .i64 4, .int .i64 nm, .string t, .slice A3 ks.length c3, .slice A4 vs.length c4] 33 (0, 0)))) (fun v32 _ _ => vs.length - (intOf v32).toNat)
 case atStart => exact ⟨0, rfl, by omega, ⟨_, HM0.out, HT0.out⟩, HB0, HX0⟩
 case round =>
  clear HM0 HB0 HX0 HT0; obtain ⟨i, rfl, hiv, HM, HB, HX⟩ := hrel; have x4 := zr (i := 4) HX.out rfl
  have q0 : (0 : Int) ≤ (i : Int) := by omega
  by_cases hlv : i < vs.length
  ·have q2 : (i : Int) < (vs.length : Int) := by omega
   obtain ⟨vb, vo, rfl, hvb, hvc⟩ := kI_at HV.out (by omega); obtain ⟨B3, d3, B4, d4, e0, e1, e2, e3, e4, l3, g3, l4, g4⟩ := hvc i hlv; have HCH := aM (HC.out vs[i] (List.getElem_mem hlv)); have HG := aM (And.intro l3 (And.intro g3 (And.intro l4 g4))); have y0 := zk HB.out e0; have y1 := zk HB.out e1; have y2 := zk HB.out e2; have y3 := zk HB.out e3; have y4 := zk HB.out e4; have CA := aM (fun (W : World) (hb : Below w.heap.size w W) => HCH.out B3 B4 d3 d4 W HG.out.1 (Kd.C_below HG.out.2.1 hb) HG.out.2.2.1 (Kd.C_below HG.out.2.2.2 hb)); have HST := aM (saidTo_set (anyL vs) i vs.length hlv (xu vs)); have HGE := aM (show (anyL vs)[i]'(by rw [xu]; exact hlv) = anyOf vs[i] by simp [xj]); clear hvc e0 e1 e2 e3 e4 l3 g3 l4 g4 HCH HG; generalize vs[i] = v at y0 y1 y2 y3 y4 HGE CA; obtain ⟨x0, x1, x2, x3_, x4_⟩ := v; generalize anyOf ⟨x0, x1, x2, x3_, x4_⟩ = yv at CA HGE
   go_wp2_with fail
   refine (CA.out wr HB.out).mono ?_; rintro e w3 ⟨v3, rfl, ha3, hb3⟩; have HB3 := aM hb3; have HA3 := aM ha3; have HX3 := aM ((hb3.block _ (yb HX.out)).trans HX.out); obtain ⟨zs, hzs, hsaid⟩ := HM.out; have HZS := aM hzs; have HSD := aM hsaid; have hzt := kAny_put (hzs.move hb3).hr i hlv v3 ha3.one
   have hst : (storeCells ⟨w.heap.size + 1, i, none⟩ [v3]).run Tryd.prog w3 = .ok () (w3.setCell ⟨w.heap.size + 1, i, none⟩ v3) := by
    have := run_storeCells_cells (P := Tryd.prog) (w.heap.size + 1) i [v3] 0 w3 (fun j hj => by
     have : j = 0 := by simpa using hj
     subst this
     exact hzt.1) (fun j hj => by
     have : j = 0 := by simpa using hj
     subst this
     exact hzt.2.1) (fun u hu => by
     have : u = v3 := by simpa using hu
     rw [this]
     exact ha3.one)
    simpa [World.setCells] using this
   clear hb3 ha3 hzs hsaid hzt
   go_wp2
   rw [hst]
   go_wp2
   go_roundw
   case rel =>
    have hp := HZS.out.put HB3.out HA3.out i hlv; refine ⟨i + 1, by go_num, by omega, ⟨⟨_, hp, ?_⟩⟩, ⟨?_⟩, ⟨?_⟩⟩
    ·rw [List.map_set, HSD.out, ← HST.out, HGE.out]
    ·exact (yq HB.out HB3.out).setCell (by show w.heap.size ≤ w.heap.size + 1; omega) _
    ·exact (Below.heap_setCell w3 ⟨w.heap.size + 1, i, none⟩ v3 _ (by show w.heap.size ≠ w.heap.size + 1; omega)).trans HX3.out
   case measure => simp [intOf]; omega
  ·have HTK := aM (show saidTo (anyL vs) i vs.length = anyL vs by
    unfold saidTo
    rw [List.take_of_length_le (by rw [xu]; omega), show vs.length - i = 0 by omega]
    simp)
   go_wp2
   go_ret
   obtain ⟨zs, hzs, hsaid⟩ := HM.out; rw [HTK.out] at hsaid; exact ⟨_, rfl, (hzs.done hsaid).mono (fun k hk => ⟨by have := hk.1; omega, hk.2⟩), HB.out⟩
set_option maxHeartbeats 800000 in
theorem toAny_bool (nm : Int) (t : BA) (ks : List BA) (vs : List VI) (A3 A4 : Option Addr) (c3 c4 : Nat) (w : World) :
  Calls Tryd.prog 28 #[.agg #[.int .i64 1, .int .i64 nm, .string t, .slice A3 ks.length c3, .slice A4 vs.length c4]] w (Made w (.bool (nm != 0))) := by
 have HB := aM (zb (Below.refl w.heap.size w) (.cells #[.int .i64 1, .int .i64 nm, .string t, .slice A3 ks.length c3, .slice A4 vs.length c4] 33))
 go_enter Tryd.func28, Tryd.ntmps28
 go_wp2
 go_ret
 exact ⟨_, rfl, .bool _ _, HB.out⟩
set_option maxHeartbeats 800000 in
theorem toAny_int (nm : Int) (t : BA) (ks : List BA) (vs : List VI) (A3 A4 : Option Addr) (c3 c4 : Nat) (w : World) :
  Calls Tryd.prog 28 #[.agg #[.int .i64 2, .int .i64 nm, .string t, .slice A3 ks.length c3, .slice A4 vs.length c4]] w (Made w (.int nm)) := by
 have HB := aM (zb (Below.refl w.heap.size w) (.cells #[.int .i64 2, .int .i64 nm, .string t, .slice A3 ks.length c3, .slice A4 vs.length c4] 33))
 go_enter Tryd.func28, Tryd.ntmps28
 go_wp2
 go_ret
 exact ⟨_, rfl, .int _ _, HB.out⟩
set_option maxHeartbeats 800000 in
theorem toAny_text (nm : Int) (t : BA) (ks : List BA) (vs : List VI) (A3 A4 : Option Addr) (c3 c4 : Nat) (w : World) :
  Calls Tryd.prog 28 #[.agg #[.int .i64 3, .int .i64 nm, .string t, .slice A3 ks.length c3, .slice A4 vs.length c4]] w (Made w (.text t)) := by
 have HB := aM (zb (Below.refl w.heap.size w) (.cells #[.int .i64 3, .int .i64 nm, .string t, .slice A3 ks.length c3, .slice A4 vs.length c4] 33))
 go_enter Tryd.func28, Tryd.ntmps28
 go_wp2
 go_ret
 exact ⟨_, rfl, .text _ _, HB.out⟩
set_option maxHeartbeats 800000 in
theorem toAny_other (kd nm : Int) (t : BA) (ks : List BA) (vs : List VI) (A3 A4 : Option Addr) (c3 c4 : Nat) (w : World) (h1 : (kd == 1) = false) (h2 : (kd == 2) = false) (h3 : (kd == 3) = false) (h4 : (kd == 4) = false) (h5 : (kd == 5) = false) :
  Calls Tryd.prog 28 #[.agg #[.int .i64 kd, .int .i64 nm, .string t, .slice A3 ks.length c3, .slice A4 vs.length c4]] w (Made w .null) := by
 have HB := aM (zb (Below.refl w.heap.size w) (.cells #[.int .i64 kd, .int .i64 nm, .string t, .slice A3 ks.length c3, .slice A4 vs.length c4] 33))
 go_enter Tryd.func28, Tryd.ntmps28
 go_wp2
 go_ret
 exact ⟨_, rfl, .null _, HB.out⟩
set_option maxHeartbeats 1600000 in
theorem toAny_map (nm : Int) (t : BA) (ks : List BA) (vs : List VI) (hks : ∀ s, s ∈ ks → s.size ≤ maxLen) (hkl : ks.length ≤ 8796093022000) (hvl : vs.length ≤ 1759218604400) (hch : ∀ v, v ∈ vs → ToAnyAt v) (A3 A4 : Option Addr) (c3 c4 : Nat) (w : World) (hk : Kd.string.C w A3 ks.length ks) (hv : kI.C w A4 vs.length vs) :
  Calls Tryd.prog 28 #[.agg #[.int .i64 5, .int .i64 nm, .string t, .slice A3 ks.length c3, .slice A4 vs.length c4]] w (Made w (.map (fitM (pairsOf ks vs)))) := by
 have hb := zb (Below.refl w.heap.size w) (.cells #[.int .i64 5, .int .i64 nm, .string t, .slice A3 ks.length c3, .slice A4 vs.length c4] 33); have HB := aM hb; have CM := aM (toMap_of 5 nm t ks vs hks hkl hvl hch A3 A4 c3 c4 (w.alloc (.cells #[.int .i64 5, .int .i64 nm, .string t, .slice A3 ks.length c3, .slice A4 vs.length c4] 33)) (Kd.C_below hk hb) (Kd.C_below hv hb)); clear hb hks hch hk hv
 go_enter Tryd.func28, Tryd.ntmps28
 go_wp2_with fail
 refine CM.out.mono ?_; rintro e w1 ⟨b, rfl, ha, hb⟩; have HA := aM ha; have HB1 := aM (yq HB.out hb); clear ha hb CM
 go_wp2
 go_ret
 exact ⟨_, rfl, HA.out.mono (fun k hk => ⟨by have h1 := hk.1; rw [World.size_alloc] at h1; omega, hk.2⟩), HB1.out⟩
theorem anyOf_list (n : Int) (t : BA) (ks : List BA) (vs : List VI) : anyOf ⟨4, n, t, ks, vs⟩ = .list (anyL vs) := by simp [anyOf]
theorem anyOf_map (n : Int) (t : BA) (ks : List BA) (vs : List VI) : anyOf ⟨5, n, t, ks, vs⟩ = .map (fitM (pairsOf ks vs)) := by simp [anyOf, pairsOf]
theorem toAny : ∀ x : VI, Small x → ToAnyAt x := by
 intro x hx
 induction hx with
 | mk x hks hkl hvl hv ih =>
  obtain ⟨kd, nm, t, ks, vs⟩ := x; intro A3 A4 c3 c4 w h3 hk h4 hv
  by_cases h1 : kd = 1
  ·subst h1
   have e : anyOf ⟨1, nm, t, ks, vs⟩ = .bool (nm != 0) := by simp [anyOf]
   rw [e]; exact toAny_bool nm t ks vs A3 A4 c3 c4 w
  by_cases h2 : kd = 2
  ·subst h2
   have e : anyOf ⟨2, nm, t, ks, vs⟩ = .int nm := by simp [anyOf]
   rw [e]; exact toAny_int nm t ks vs A3 A4 c3 c4 w
  by_cases h3 : kd = 3
  ·subst h3
   have e : anyOf ⟨3, nm, t, ks, vs⟩ = .text t := by simp [anyOf]
   rw [e]; exact toAny_text nm t ks vs A3 A4 c3 c4 w
  by_cases h4 : kd = 4
  ·subst h4; rw [anyOf_list]; exact toAny_list nm t ks vs hvl ih A3 A4 c3 c4 w hv
  by_cases h5 : kd = 5
  ·subst h5; rw [anyOf_map]; exact toAny_map nm t ks vs hks hkl hvl ih A3 A4 c3 c4 w hk hv
  ·have e : anyOf ⟨kd, nm, t, ks, vs⟩ = .null := by simp [anyOf, h1, h2, h3, h4, h5]
   rw [e]; exact toAny_other kd nm t ks vs A3 A4 c3 c4 w (by simpa using h1) (by simpa using h2) (by simpa using h3) (by simpa using h4) (by simpa using h5)
theorem Small.of {x v : VI} (h : Small x) (hv : v ∈ x.f4) : Small v := by
 cases h with
 | mk _ _ _ _ h => exact h v hv
theorem toMap (x : VI) (hx : Small x) (A3 A4 : Option Addr) (c3 c4 : Nat) (w : World) (hk : Kd.string.C w A3 x.f3.length x.f3) (hv : kI.C w A4 x.f4.length x.f4) :
  Calls Tryd.prog 21 #[.agg #[.int .i64 x.f0, .int .i64 x.f1, .string x.f2, .slice A3 x.f3.length c3, .slice A4 x.f4.length c4]] w fun e w' => ∃ b, e = .returned (.map (some b)) ∧ AR w' (.iface 45 (.map (some b))) (.map (mapOf x)) (fun k => w.heap.size ≤ k ∧ k < w'.heap.size) ∧ Below w.heap.size w w' := by
 cases hx with
 | mk _ hks hkl hvl hv' => exact toMap_of x.f0 x.f1 x.f2 x.f3 x.f4 hks hkl hvl (fun v hv => toAny v (hv' v hv)) A3 A4 c3 c4 w hk hv
end Go.Proofs.YtmpmekliaicecaaDoor.Tr
namespace Go.Proofs.YtmpmekliaicecaaDoor.Tr
open Go.RowKit Go.Proofs.YtmpmekliaicecaaDoorW.PrintWords Go.Proofs.YtmpmekliaicecaaDoorW.PrintLast Go.Proofs.YtmpmekliaicecaaDoor.Str Go.Proofs.YtmpmekliaicecaaDoor.Kit Go.Proofs.YtmpmekliaicecaaDoor.MapV Go.Proofs.YtmpmekliaicecaaDoor.Frame Go.Proofs.YtmpmekliaicecaaDoor.PS
open Go.Proofs.YtmpmekliaicecaaDoor.Val (place placeI placeB placeI_hit placeI_end)
inductive SmallS : VS → Prop
 | mk (x : VS) (ht : x.f2.size ≤ 140737488355328) (hk : ∀ s, s ∈ x.f3 → s.size ≤ maxLen) (hkl : x.f3.length ≤ 8796093022000) (hvl : x.f4.length ≤ 1759218604400) (hv : ∀ v, v ∈ x.f4 → SmallS v) : SmallS x
def tup (x : VS) : Int × Int × BA × List BA × List VS := (x.f0, x.f1, x.f2, x.f3, x.f4)
theorem etaS (x : VS) : (⟨x.f0, x.f1, x.f2, x.f3, x.f4⟩ : VS) = x := by cases x; rfl
def leaf (k n : Int) (t : BA) : VS := ⟨k, n, t, [], []⟩
def fitW : List BA → List VS → List BA → List VS → List BA × List VS
 | k :: ks, v :: vs, K, V => fitW ks vs (withK K k) (withV K V k v)
 | _, _, K, V => (K, V)
theorem fitW_nil (ks : List BA) (K : List BA) (V : List VS) : fitW ks [] K V = (K, V) := by cases ks <;> rfl
mutual
def fitV : VS → VS
 | ⟨k, n, t, ks, vs⟩ => if k = 1 then (if n = 0 then leaf 1 0 ⟨#[]⟩ else leaf 1 1 ⟨#[]⟩) else if k = 2 then leaf 2 n ⟨#[]⟩ else if k = 3 then leaf 3 0 t else if k = 4 then ⟨4, 0, ⟨#[]⟩, [], fitL vs⟩ else if k = 5 then ⟨5, 0, ⟨#[]⟩, (fitW ks (fitL vs) [] []).1, (fitW ks (fitL vs) [] []).2⟩ else leaf 0 0 ⟨#[]⟩
def fitL : List VS → List VS
 | [] => []
 | v :: r => fitV v :: fitL r
end
theorem fitL_map : ∀ vs, fitL vs = vs.map fitV
 | [] => by simp [fitL]
 | v :: r => by simp [fitL, fitL_map r]
theorem fitL_length (vs : List VS) : (fitL vs).length = vs.length := by rw [fitL_map, List.length_map]
theorem fitL_drop {vs : List VS} {i : Nat} (h : i < vs.length) : (fitL vs).drop i = fitV vs[i] :: (fitL vs).drop (i + 1) := by
 rw [List.drop_eq_getElem_cons (by rw [fitL_length]; exact h)]; simp only [fitL_map, List.getElem_map]
def FitEv (x : VS) : Prop := Ev (fun k => spec_Fit.f k x.f0 x.f1 x.f2 x.f3 x.f4) (tup (fitV x))
theorem ev_Fit_l0 (a b : Int) (c : BA) (ks : List BA) (vs : List VS) (p q : Int) (r : BA) (hvl : vs.length ≤ 1759218604400) (hch : ∀ v, v ∈ vs → FitEv v) : ∀ (d i : Nat) (acc : List VS), i + d = vs.length → acc.length = i →
  Ev (fun k => spec_Fit.l0 k (i : Int) a b c ks vs p q r acc) (p, q, r, [], acc ++ (fitL vs).drop i) := by
 intro d
 induction d with
 | zero =>
  intro i acc hi ha; refine yp (fun k => ?_) (Ev.now _); simp only [spec_Fit.l0]; rw [if_neg (by omega), List.drop_eq_nil_of_le (by rw [fitL_length]; omega), List.append_nil]
 | succ d ih =>
  intro i acc hi ha
  have hlt : i < vs.length := by omega
  refine yp (f := fun k => (spec_Fit.f k vs[i].f0 vs[i].f1 vs[i].f2 vs[i].f3 vs[i].f4).bind fun bt => spec_Fit.l0 k ((i + 1 : Nat) : Int) a b c ks vs p q r (acc ++ [(⟨bt.1, bt.2.1, bt.2.2.1, bt.2.2.2.1, bt.2.2.2.2⟩ : VS)])) (fun k => ?_) ?_
  ·simp only [spec_Fit.l0]; rw [if_pos (by omega), if_pos (by omega), rdS hlt]; refine congrArg _ (funext fun bt => ?_); rw [if_pos (by omega), wrapS i (by omega)]
  ·refine ev_bind (hch vs[i] (List.getElem_mem hlt)) ?_; have := ih (i + 1) (acc ++ [fitV vs[i]]) (by omega) (by simp [ha]); rw [List.append_assoc, List.singleton_append, ← fitL_drop hlt] at this; simp only [tup, etaS]; exact this
theorem ev_Fit_l1 (a b : Int) (c : BA) (ks : List BA) (vs : List VS) (hkl : ks.length ≤ 8796093022000) (hvl : vs.length ≤ 1759218604400) (hch : ∀ v, v ∈ vs → FitEv v) : ∀ (d i : Nat) (K : List BA) (V : List VS), i + d = ks.length → K.length = V.length → V.length ≤ i → V.length ≤ vs.length →
  Ev (fun k => spec_Fit.l1 k (i : Int) a b c ks vs 5 0 ⟨#[]⟩ K V) (5, 0, ⟨#[]⟩, (fitW (ks.drop i) ((fitL vs).drop i) K V).1, (fitW (ks.drop i) ((fitL vs).drop i) K V).2) := by
 intro d
 induction d with
 | zero =>
  intro i K V hi hKV hVi hVv; rw [List.drop_eq_nil_of_le (by omega : ks.length ≤ i)]; refine yp (fun k => ?_) (f := fun k => spec_Fit.j2 k (i : Int) false a b c ks vs 5 0 ⟨#[]⟩ K V) (yp (fun k => ?_) (Ev.now _))
  ·simp only [spec_Fit.l1]; rw [if_neg (by omega)]
  ·simp only [spec_Fit.j2]; rw [if_neg (by decide)]; rfl
 | succ d ih =>
  intro i K V hi hKV hVi hVv
  have hlt : i < ks.length := by omega
  have hd : ks.drop i = ks[i] :: ks.drop (i + 1) := List.drop_eq_getElem_cons hlt
  by_cases hv : i < vs.length
  ·refine yp (fun k => ?_) (f := fun k => spec_Fit.j2 k (i : Int) true a b c ks vs 5 0 ⟨#[]⟩ K V) (yp (f := fun k => (spec_Fit.f k vs[i].f0 vs[i].f1 vs[i].f2 vs[i].f3 vs[i].f4).bind fun bt => (spec_With.f k 5 0 ⟨#[]⟩ K V ks[i] bt.1 bt.2.1 bt.2.2.1 bt.2.2.2.1 bt.2.2.2.2).bind fun bu => spec_Fit.l1 k ((i + 1 : Nat) : Int) a b c ks vs bu.1 bu.2.1 bu.2.2.1 bu.2.2.2.1 bu.2.2.2.2) (fun k => ?_) ?_)
   ·simp only [spec_Fit.l1]; rw [if_pos (by omega), decide_eq_true (show (i : Int) < (vs.length : Int) by omega)]
   ·simp only [spec_Fit.j2]; rw [if_pos trivial, if_pos (by omega), if_pos (by omega), if_pos (by omega), rdS hv, rdB hlt, wrapS i (by omega)]
   ·refine ev_bind (hch vs[i] (List.getElem_mem hv)) (ev_bind (a := (5, 0, ⟨#[]⟩, withK K ks[i], withV K V ks[i] (fitV vs[i]))) (ev_now (fun k => ?_)) ?_)
    ·show spec_With.f k 5 0 ⟨#[]⟩ K V ks[i] (fitV vs[i]).f0 (fitV vs[i]).f1 (fitV vs[i]).f2 (fitV vs[i]).f3 (fitV vs[i]).f4 = _
     unfold spec_With.f
     rw [if_pos ⟨hKV, by omega⟩, etaS]
    ·have hl1 := withV_length (key := ks[i]) (x := fitV vs[i]) hKV; have hl2 := withK_length (ks := K) (key := ks[i]); have := ih (i + 1) (withK K ks[i]) (withV K V ks[i] (fitV vs[i])) (by omega) hl1.symm (by omega) (by omega); rw [hd, fitL_drop hv]; exact this
  ·rw [List.drop_eq_nil_of_le (show (fitL vs).length ≤ i by rw [fitL_length]; omega), fitW_nil]; refine yp (fun k => ?_) (f := fun k => spec_Fit.j2 k (i : Int) false a b c ks vs 5 0 ⟨#[]⟩ K V) (yp (fun k => ?_) (Ev.now _))
   ·simp only [spec_Fit.l1]; rw [if_pos (by omega), decide_eq_false (show ¬ (i : Int) < (vs.length : Int) by omega)]
   ·simp only [spec_Fit.j2]; rw [if_neg (by decide)]
theorem ev_Fit : ∀ x : VS, SmallS x → FitEv x := by
 intro x hx
 induction hx with
 | mk x ht hk hkl hvl hv ih =>
  obtain ⟨k, n, t, ks, vs⟩ := x
  unfold FitEv
  by_cases h1 : k = 1
  ·subst h1; refine yp (f := fun _ => some (tup (fitV ⟨1, n, t, ks, vs⟩))) (fun j => ?_) (Ev.now _)
   by_cases hn : n = 0
   ·subst hn
    simp [spec_Fit.f, spec_B.f, fitV, tup, leaf]
   ·simp [spec_Fit.f, spec_B.f, fitV, tup, leaf, hn]
  by_cases h2 : k = 2
  ·subst h2; exact yp (f := fun _ => some (tup (fitV ⟨2, n, t, ks, vs⟩))) (fun j => by simp [spec_Fit.f, spec_N.f, fitV, tup, leaf]) (Ev.now _)
  by_cases h3 : k = 3
  ·subst h3; exact yp (f := fun _ => some (tup (fitV ⟨3, n, t, ks, vs⟩))) (fun j => by simp [spec_Fit.f, spec_T.f, fitV, tup, leaf]) (Ev.now _)
  by_cases h4 : k = 4
  ·subst h4; have h := ev_Fit_l0 4 n t ks vs 4 0 ⟨#[]⟩ hvl ih vs.length 0 [] (by omega) rfl; rw [List.drop_zero, List.nil_append] at h
   have e : tup (fitV ⟨4, n, t, ks, vs⟩) = (4, 0, ⟨#[]⟩, [], fitL vs) := by simp [fitV, tup]
   rw [e]; exact yp (fun j => by simp [spec_Fit.f]) h
  by_cases h5 : k = 5
  ·subst h5; have h := ev_Fit_l1 5 n t ks vs hkl hvl ih ks.length 0 [] [] (by omega) rfl (by simp) (by simp); rw [List.drop_zero, List.drop_zero] at h
   have e : tup (fitV ⟨5, n, t, ks, vs⟩) = (5, 0, ⟨#[]⟩, (fitW ks (fitL vs) [] []).1, (fitW ks (fitL vs) [] []).2) := by simp [fitV, tup]
   rw [e]; exact yp (fun j => by simp [spec_Fit.f, spec_Empty.f]) h
  ·exact yp (f := fun _ => some (tup (fitV ⟨k, n, t, ks, vs⟩))) (fun j => by simp [spec_Fit.f, fitV, tup, leaf, h1, h2, h3, h4, h5]) (Ev.now _)
mutual
def toI : VS → VI
 | ⟨k, n, t, ks, vs⟩ => ⟨k, n, t, ks, toL vs⟩
def toL : List VS → List VI
 | [] => []
 | v :: r => toI v :: toL r
end
theorem toL_map : ∀ vs, toL vs = vs.map toI
 | [] => by simp [toL]
 | v :: r => by simp [toL, toL_map r]
theorem toL_length (vs : List VS) : (toL vs).length = vs.length := by rw [toL_map, List.length_map]
theorem etaI (x : VI) : (⟨x.f0, x.f1, x.f2, x.f3, x.f4⟩ : VI) = x := by cases x; rfl
theorem toI_eq (x : VS) : toI x = ⟨x.f0, x.f1, x.f2, x.f3, toL x.f4⟩ := by cases x; simp [toI]
theorem toL_drop {vs : List VS} {i : Nat} (h : i < vs.length) : (toL vs).drop i = toI vs[i] :: (toL vs).drop (i + 1) := by
 rw [List.drop_eq_getElem_cons (by rw [toL_length]; exact h)]; simp only [toL_map, List.getElem_map]
def tupI (x : VI) : Int × Int × BA × List BA × List VI := (x.f0, x.f1, x.f2, x.f3, x.f4)
def ToEv (x : VS) : Prop := Ev (fun k => laws_to.f k x.f0 x.f1 x.f2 x.f3 x.f4) (tupI (toI x))
theorem ev_to_l0 (a b : Int) (c : BA) (ks : List BA) (vs : List VS) (p q : Int) (r : BA) (rk : List BA) (hvl : vs.length ≤ 1759218604400) (hch : ∀ v, v ∈ vs → ToEv v) : ∀ (d i : Nat) (acc : List VI), i + d = vs.length → acc.length = i →
  Ev (fun k => laws_to.l0 k (i : Int) a b c ks vs p q r rk acc) (p, q, r, rk, acc ++ (toL vs).drop i) := by
 intro d
 induction d with
 | zero =>
  intro i acc hi ha; refine yp (fun k => ?_) (Ev.now _); simp only [laws_to.l0]; rw [if_neg (by omega), List.drop_eq_nil_of_le (by rw [toL_length]; omega), List.append_nil]
 | succ d ih =>
  intro i acc hi ha
  have hlt : i < vs.length := by omega
  refine yp (f := fun k => (laws_to.f k vs[i].f0 vs[i].f1 vs[i].f2 vs[i].f3 vs[i].f4).bind fun bt => laws_to.l0 k ((i + 1 : Nat) : Int) a b c ks vs p q r rk (acc ++ [(⟨bt.1, bt.2.1, bt.2.2.1, bt.2.2.2.1, bt.2.2.2.2⟩ : VI)])) (fun k => ?_) ?_
  ·simp only [laws_to.l0]; rw [if_pos (by omega), if_pos (by omega), rdS hlt]; refine congrArg _ (funext fun bt => ?_); rw [if_pos (by omega), wrapS i (by omega)]
  ·refine ev_bind (hch vs[i] (List.getElem_mem hlt)) ?_; have := ih (i + 1) (acc ++ [toI vs[i]]) (by omega) (by simp [ha]); rw [List.append_assoc, List.singleton_append, ← toL_drop hlt] at this; simp only [tupI, etaI]; exact this
theorem ev_to : ∀ x : VS, SmallS x → ToEv x := by
 intro x hx
 induction hx with
 | mk x ht hk hkl hvl hv ih =>
  obtain ⟨k, n, t, ks, vs⟩ := x; have hkl' : ks.length ≤ 8796093022000 := hkl; have h := ev_to_l0 k n t ks vs k n t ks hvl ih vs.length 0 [] (by omega) rfl; rw [List.drop_zero, List.nil_append] at h
  unfold ToEv
  rw [toI_eq]; refine yp (fun j => ?_) h; simp only [laws_to.f, Option.bind_some, List.nil_append, List.length_nil, Nat.zero_add]; rw [if_pos (by omega)]; rfl
theorem small_to : ∀ x : VS, SmallS x → Small (toI x) := by
 intro x hx
 induction hx with
 | mk x ht hk hkl hvl hv ih =>
  rw [toI_eq]; refine Small.mk _ hk hkl (by show (toL x.f4).length ≤ _; rw [toL_length]; exact hvl) (fun v hv' => ?_)
  have hv2 : v ∈ x.f4.map toI := by rw [← toL_map]; exact hv'
  obtain ⟨u, hu, rfl⟩ := List.mem_map.1 hv2; exact ih u hu
theorem withK_mem {ks : List BA} {key s : BA} (h : s ∈ withK ks key) : s ∈ ks ∨ s = key := by
 unfold withK at h
 split at h
 ·exact .inl h
 ·rcases List.mem_append.1 h with h | h
  ·exact .inl (List.mem_of_mem_take h)
  ·rcases List.mem_append.1 h with h | h
   ·exact .inr (by simpa using h)
   ·exact .inl (List.mem_of_mem_drop h)
theorem withV_mem {α : Type} {ks : List BA} {vs : List α} {key : BA} {x v : α} (h : v ∈ withV ks vs key x) : v ∈ vs ∨ v = x := by
 unfold withV at h
 split at h
 ·exact List.mem_or_eq_of_mem_set h
 ·rcases List.mem_append.1 h with h | h
  ·exact .inl (List.mem_of_mem_take h)
  ·rcases List.mem_append.1 h with h | h
   ·exact .inr (by simpa using h)
   ·exact .inl (List.mem_of_mem_drop h)
def RiseK (ks : List BA) : Prop := ks.Pairwise (fun a b => lb a < lb b)
theorem place_cons_lt {x key : BA} {r : List BA} (h : lb x < lb key) : placeI (x :: r) key = placeI r key + 1 ∧ placeB (x :: r) key = placeB r key := by
 have h1 : placeI (x :: r) key = placeI r key + 1 := by
  unfold placeI
  rw [List.takeWhile_cons_of_pos (by simpa using h), List.length_cons]
 refine ⟨h1, ?_⟩
 unfold placeB
 rw [h1, List.getElem?_cons_succ]
theorem place_cons_ge {x key : BA} {r : List BA} (h : ¬ lb x < lb key) : placeI (x :: r) key = 0 ∧ placeB (x :: r) key = (x.toList == key.toList) := by
 have h1 : placeI (x :: r) key = 0 := by
  unfold placeI
  rw [List.takeWhile_cons_of_neg (by simpa using h)]; rfl
 refine ⟨h1, ?_⟩
 unfold placeB
 rw [h1, List.getElem?_cons_zero]
theorem withK_rises : ∀ {ks : List BA} {key : BA}, RiseK ks → RiseK (withK ks key)
 | [], key, _ => by
  have : withK [] key = [key] := rfl; rw [this]
  simp [RiseK]
 | x :: r, key, h => by
  obtain ⟨h1, h2⟩ := List.pairwise_cons.1 h
  by_cases hl : lb x < lb key
  ·obtain ⟨e1, e2⟩ := place_cons_lt (r := r) hl
   have e : withK (x :: r) key = x :: withK r key := by
    unfold withK
    rw [e1, e2]
    split
    ·rfl
    ·rfl
   rw [e]; refine List.pairwise_cons.2 ⟨fun s hs => ?_, withK_rises h2⟩
   rcases withK_mem hs with hs | rfl
   ·exact h1 s hs
   ·exact hl
  ·obtain ⟨e1, e2⟩ := place_cons_ge (r := r) hl
   by_cases he : x.toList = key.toList
   ·have e : withK (x :: r) key = x :: r := by
     unfold withK
     rw [e2, if_pos (by simpa using he)]
    rw [e]; exact h
   ·have hne : lb x ≠ lb key := fun e => he (by rw [xa, xa, e])
    have hgt : lb key < lb x := by
     rcases lt_total (lb x) (lb key) with e | e | e
     ·exact absurd e hl
     ·exact absurd e hne
     ·exact e
    have e : withK (x :: r) key = key :: x :: r := by
     unfold withK
     rw [e1, e2, if_neg (by simpa using he)]; rfl
    rw [e]; refine List.pairwise_cons.2 ⟨fun s hs => ?_, h⟩
    rcases List.mem_cons.1 hs with rfl | hs
    ·exact hgt
    ·exact lt_trans hgt (h1 s hs)
theorem fitW_facts : ∀ (ks : List BA) (vs : List VS) (K : List BA) (V : List VS), K.length = V.length → RiseK K →
  (fitW ks vs K V).1.length = (fitW ks vs K V).2.length ∧ RiseK (fitW ks vs K V).1 ∧ (fitW ks vs K V).1.length ≤ K.length + ks.length ∧ (fitW ks vs K V).2.length ≤ V.length + vs.length ∧ (∀ s, s ∈ (fitW ks vs K V).1 → s ∈ K ∨ s ∈ ks) ∧ (∀ v, v ∈ (fitW ks vs K V).2 → v ∈ V ∨ v ∈ vs)
 | [], vs, K, V, hl, hr => ⟨hl, hr, by simp [fitW], by simp [fitW], fun s h => .inl h, fun v h => .inl h⟩
 | k :: ks, [], K, V, hl, hr => ⟨hl, hr, by simp [fitW], by simp [fitW], fun s h => .inl h, fun v h => .inl h⟩
 | k :: ks, v :: vs, K, V, hl, hr => by
  have hlv := withV_length (key := k) (x := v) hl; have hlk := withK_length (ks := K) (key := k); obtain ⟨a, b, c, d, e, f⟩ := fitW_facts ks vs (withK K k) (withV K V k v) hlv.symm (withK_rises hr); refine ⟨a, b, ?_, ?_, fun s hs => ?_, fun u hu => ?_⟩
  ·show (fitW ks vs (withK K k) (withV K V k v)).1.length ≤ _
   rw [List.length_cons]
   omega
  ·show (fitW ks vs (withK K k) (withV K V k v)).2.length ≤ _
   rw [List.length_cons]
   omega
  ·rcases e s hs with h | h
   ·rcases withK_mem h with h | rfl
    ·exact .inl h
    ·exact .inr (by simp)
   ·exact .inr (by simp [h])
  ·rcases f u hu with h | h
   ·rcases withV_mem h with h | rfl
    ·exact .inl h
    ·exact .inr (by simp)
   ·exact .inr (by simp [h])
inductive Fitted : VS → Prop
 | mk (x : VS) (hl : x.f3.length = x.f4.length ∨ x.f3 = []) (hr : RiseK x.f3) (h5 : x.f0 ≠ 5 → x.f3 = []) (hm : x.f0 = 5 → x.f3.length = x.f4.length) (hv : ∀ v, v ∈ x.f4 → Fitted v) : Fitted x
theorem leaf_fitted (k n : Int) (t : BA) : Fitted (leaf k n t) := .mk _ (.inr rfl) List.Pairwise.nil (fun _ => rfl) (fun _ => rfl) (fun v h => by cases h)
theorem leaf_small (k n : Int) (t : BA) (ht : t.size ≤ 140737488355328) : SmallS (leaf k n t) := .mk _ ht (fun s h => by cases h) (Nat.zero_le _) (Nat.zero_le _) (fun v h => by cases h)
theorem fit_facts : ∀ x : VS, SmallS x → SmallS (fitV x) ∧ Fitted (fitV x) := by
 intro x hx
 induction hx with
 | mk x ht hk hkl hvl hv ih =>
  obtain ⟨k, n, t, ks, vs⟩ := x
  have hch : ∀ v, v ∈ fitL vs → SmallS v ∧ Fitted v := by
   intro v hv'; rw [fitL_map] at hv'; obtain ⟨u, hu, rfl⟩ := List.mem_map.1 hv'; exact ih u hu
  unfold fitV
  split
  ·split
   ·exact ⟨leaf_small _ _ _ (by first | exact ht | exact Nat.zero_le _), leaf_fitted _ _ _⟩
   ·exact ⟨leaf_small _ _ _ (by first | exact ht | exact Nat.zero_le _), leaf_fitted _ _ _⟩
  split
  ·exact ⟨leaf_small _ _ _ (by first | exact ht | exact Nat.zero_le _), leaf_fitted _ _ _⟩
  split
  ·exact ⟨leaf_small _ _ _ (by first | exact ht | exact Nat.zero_le _), leaf_fitted _ _ _⟩
  split
  ·refine ⟨.mk _ (Nat.zero_le _) (fun s h => by cases h) (Nat.zero_le _) (by show (fitL vs).length ≤ _; rw [fitL_length]; exact hvl) (fun v h => (hch v h).1), .mk _ (.inr rfl) List.Pairwise.nil (fun _ => rfl) (fun h => by cases h) (fun v h => (hch v h).2)⟩
  split
  ·obtain ⟨a, b, c, d, e, f⟩ := fitW_facts ks (fitL vs) [] [] rfl List.Pairwise.nil; have hkl' : ks.length ≤ 8796093022000 := hkl; have hvl' : vs.length ≤ 1759218604400 := hvl; rw [fitL_length] at d; simp only [List.length_nil, Nat.zero_add] at c d
   have f' : ∀ v, v ∈ (fitW ks (fitL vs) [] []).2 → SmallS v ∧ Fitted v := fun v h => by
    rcases f v h with h | h
    ·cases h
    ·exact hch v h
   refine ⟨.mk _ (Nat.zero_le _) (fun s h => ?_) (by show (fitW ks (fitL vs) [] []).1.length ≤ _; omega) (by show (fitW ks (fitL vs) [] []).2.length ≤ _; omega) (fun v h => (f' v h).1), .mk _ (.inl a) b (fun h => absurd rfl h) (fun _ => a) (fun v h => (f' v h).2)⟩
   rcases e s h with h | h
   ·cases h
   ·exact hk s h
  ·exact ⟨leaf_small _ _ _ (by first | exact ht | exact Nat.zero_le _), leaf_fitted _ _ _⟩
theorem fitM_id {α : Type} : ∀ {l : List (Bs × α)}, Rises l → fitM l = l := by
 intro l
 have go : ∀ (r f : List (Bs × α)), Rises (f ++ r) → r.foldl (fun f p => mput f p.1 p.2) f = f ++ r := by
  intro r
  induction r with
  | nil => intro f _; simp
  | cons p r ih =>
   intro f h
   have hp : mput f p.1 p.2 = f ++ [p] := by
    have h1 := mput_ins (key := p.1) (v := p.2) f.length (f := f) ((List.pairwise_append.1 h).1) (fun j hj _ => (List.pairwise_append.1 h).2.2 _ (List.getElem_mem hj) p (by simp)) (Nat.le_refl _) (fun h => absurd h (Nat.lt_irrefl _)); rw [h1, List.take_length, List.drop_length]
   rw [List.foldl_cons, hp, ih (f ++ [p]) (by simpa using h)]
   simp
 intro h; have := go l [] (by simpa using h)
 simpa [fitM] using this
theorem pairs_rise {α : Type} {ks : List BA} : ∀ {ys : List α}, RiseK ks → Rises ((ks.map lb).zip ys) := by
 induction ks with
 | nil => intro ys _; exact List.Pairwise.nil
 | cons x r ih =>
  intro ys h
  cases ys with
  | nil => exact List.Pairwise.nil
  | cons y ys =>
   obtain ⟨h1, h2⟩ := List.pairwise_cons.1 h; rw [List.map_cons, List.zip_cons_cons]; refine List.pairwise_cons.2 ⟨fun p hp => ?_, ih h2⟩; obtain ⟨a, b⟩ := p; obtain ⟨s, hs, rfl⟩ := List.mem_map.1 (List.of_mem_zip hp).1; exact h1 s hs
end Go.Proofs.YtmpmekliaicecaaDoor.Tr
namespace Go.Proofs.YtmpmekliaicecaaDoor.PS
open Go.RowKit Go.Proofs.YtmpmekliaicecaaDoorW.PrintWords Go.Proofs.YtmpmekliaicecaaDoorW.PrintLast Go.Proofs.YtmpmekliaicecaaDoorW.PrintMore
attribute [local go_sem] xg xe xn xm yz yy xf xd 
mutual
def laws_from.l0 : Nat → Int → Int → Int → ByteArray → List ByteArray → List (S33) → Int → Int → ByteArray → List ByteArray → List (S25) → Option (Int × Int × ByteArray × List ByteArray × (List (S25)))
 | 0, _, _, _, _, _, _, _, _, _, _, _ => none
 | k + 1, x4, x289000, x289001, x289002, x289003, x289004, x297000, x297001, x297002, x297003, x297004 => if x4 < (x289004.length : Int) then (if 0 ≤ x4 then ((laws_from.f k ((rd_T33 x289004 x4).f0) ((rd_T33 x289004 x4).f1) ((rd_T33 x289004 x4).f2) ((rd_T33 x289004 x4).f3) ((rd_T33 x289004 x4).f4)).bind fun bt298 => (if x297004.length < 1759218604441 then (laws_from.l0 k (wrap64 (x4 + 1)) x289000 x289001 x289002 x289003 x289004 x297000 x297001 x297002 x297003 (x297004 ++ [(⟨bt298.1, bt298.2.1, bt298.2.2.1, bt298.2.2.2.1, bt298.2.2.2.2⟩ : S25)])) else (none))) else (none)) else (some (x297000, x297001, x297002, x297003, x297004))
def laws_from.f : Nat → Int → Int → ByteArray → List ByteArray → List (S33) → Option (Int × Int × ByteArray × List ByteArray × (List (S25)))
 | 0, _, _, _, _, _ => none
 | k + 1, a0_0, a0_1, a0_2, l0_3, l0_4 => (some (([] : List ByteArray) : List ByteArray)).bind fun y290 => (if y290.length + l0_3.length < 8796093022208 then (laws_from.l0 k 0 a0_0 a0_1 a0_2 l0_3 l0_4 a0_0 a0_1 a0_2 (y290 ++ l0_3) ([] : List (S25))) else (none))
end
def laws_from.T1 : Bool × List (List Nat × List Nat) := (true, [([], []), ([0], [0]), ([], []), ([2], [2]), ([], []), ([4], [4]), ([], []), ([], []), ([7], [7]), ([6, 8], [6, 8]), ([1, 3, 5, 9], [1, 3, 5, 9]), ([], []), ([11, 10, 9, 0, 1, 2, 3, 4, 5, 6, 7, 8, 9, 10, 11], [10, 11])])
def laws_from.B1 : List Nat := [0, 1, 0, 4, 0, 16, 0, 0, 128, 448, 1023, 0, 4095]
theorem laws_from.tab1 : rtab .any (opsOf Tryd.f9 1) = laws_from.T1 := by kernel_rfl
theorem laws_from.bits1 : waitsOk laws_from.T1.2 laws_from.B1 = true := by kernel_rfl
def laws_from.T5 : Bool × List (List Nat × List Nat) := (true, [([], []), ([0], [0]), ([], []), ([2], [2]), ([], []), ([3, 4], [3, 4]), ([5], [5]), ([6], [6]), ([7], [7]), ([1, 8, 7], [1, 8]), ([0, 1, 2, 3, 4, 5, 6, 7, 8, 9], []), ([10, 9, 9, 0, 1, 2, 3, 4, 5, 6, 7, 8, 9], [9, 10])])
def laws_from.B5 : List Nat := [0, 1, 0, 4, 0, 28, 60, 124, 252, 511, 1023, 2047]
theorem laws_from.tab5 : rtab .any (opsOf Tryd.f9 5) = laws_from.T5 := by kernel_rfl
theorem laws_from.bits5 : waitsOk laws_from.T5.2 laws_from.B5 = true := by kernel_rfl
set_option maxHeartbeats 8000000 in
set_option maxRecDepth 100000 in
theorem laws_from.calls (k : Nat) : ∀ (a0_0 : Int) (a0_1 : Int) (a0_2 : ByteArray) (A0_3 : Option Addr) (c0_3 : Nat) (l0_3 : List ByteArray) (A0_4 : Option Addr) (c0_4 : Nat) (l0_4 : List (S33)) (r1 : Int) (r2 : Int) (r3 : ByteArray) (r4 : List ByteArray) (r5 : List (S25)) (w : World) (hr0_3 : Kd.C Kd.string w A0_3 l0_3.length l0_3) (hc0_3 : l0_3.length ≤ c0_3) (hr0_4 : Kd.C k33 w A0_4 l0_4.length l0_4) (hc0_4 : l0_4.length ≤ c0_4) (h : laws_from.f k a0_0 a0_1 a0_2 l0_3 l0_4 = some (r1, r2, r3, r4, r5)),
  Calls Tryd.prog 9 #[.agg #[.int .i64 a0_0, .int .i64 a0_1, .string a0_2, .slice A0_3 l0_3.length c0_3, .slice A0_4 l0_4.length c0_4]] w fun e w' => ∃ v3_ v4_ : Value, e = .returned (.agg #[.int .i64 r1, .int .i64 r2, .string r3, v3_, v4_]) ∧ Kd.R Kd.string 9 w' w.heap.size (fun _ => True) v3_ r4 ∧ Kd.R k25 25 w' w.heap.size (fun k_ => some k_ ≠ (v3_ : Value).ownBlock) v4_ r5 ∧ Below w.heap.size w w' := by
 induction k using Nat.strongRecOn with
 | _ k ih =>
 intro a0_0 a0_1 a0_2 A0_3 c0_3 l0_3 A0_4 c0_4 l0_4 r1 r2 r3 r4 r5 w hr0_3 hc0_3 hr0_4 hc0_4 h
 cases k with
 | zero => exact absurd h (by simp [laws_from.f])
 | succ k =>
 simp only [laws_from.f] at h; have hu33 := Tryd.underlying33; have hu25 := Tryd.underlying25; have HR0_3 := aM hr0_3; have HC0_3 := aM hc0_3; clear hr0_3 hc0_3; have HR0_4 := aM hr0_4; have HC0_4 := aM hc0_4; clear hr0_4 hc0_4; have HB := aM (Below.refl w.heap.size w); have H : ((some (([] : List ByteArray) : List ByteArray)).bind fun y290 => (if y290.length + l0_3.length < 8796093022208 then (laws_from.l0 k 0 a0_0 a0_1 a0_2 l0_3 l0_4 a0_0 a0_1 a0_2 (y290 ++ l0_3) ([] : List (S25))) else (none))) = some (r1, r2, r3, r4, r5) := h; clear h
 obtain ⟨y290, hy290⟩ : ∃ y_ : List ByteArray, y_ = (([] : List ByteArray)) := ⟨_, rfl⟩
 replace H : (if y290.length + l0_3.length < 8796093022208 then (laws_from.l0 k 0 a0_0 a0_1 a0_2 l0_3 l0_4 a0_0 a0_1 a0_2 (y290 ++ l0_3) ([] : List (S25))) else (none)) = some (r1, r2, r3, r4, r5) := by first | (rw [hy290]; with_reducible exact H) | (have H2_ := (Option.bind_some _ _).symm.trans H; rw [hy290]; with_reducible exact H2_) | (have H2_ := (Option.bind_some _ _).symm.trans H; with_reducible exact H2_) | with_reducible exact H | (rw [hy290]; exact H) | exact H
 have Ny290 := aM hy290; clear hy290
 by_cases c2 : y290.length + l0_3.length < 8796093022208
 ·rw [if_pos c2] at H; have LMc2 := aM c2; clear c2
  obtain ⟨y293, hy293⟩ : ∃ y_ : List ByteArray, y_ = (y290 ++ l0_3) := ⟨_, rfl⟩
  replace H : (laws_from.l0 k 0 a0_0 a0_1 a0_2 l0_3 l0_4 a0_0 a0_1 a0_2 y293 ([] : List (S25))) = some (r1, r2, r3, r4, r5) := by first | (rw [hy293]; with_reducible exact H) | (have H2_ := (Option.bind_some _ _).symm.trans H; rw [hy293]; with_reducible exact H2_) | (have H2_ := (Option.bind_some _ _).symm.trans H; with_reducible exact H2_) | with_reducible exact H | (rw [hy293]; exact H) | exact H
  have Ny293 := aM hy293; clear hy293; have H' := aM H; clear H
  go_enter Tryd.func9, Tryd.ntmps9
  try go_wp2_with (first | ((with_reducible refine yl (N := 1) rfl ?_); refine yh ?hg (N := 1) ?hd (cs := #[.int .i64 a0_0, .int .i64 a0_1, .string a0_2, .slice A0_3 l0_3.length c0_3, .slice A0_4 l0_4.length c0_4]) (t := 33) ?hr ?_; (case hd => rfl); (case hg => rfl); (case hr => first | (go_simp; done) | (go_simp; rfl)); intro gb288 hg w3 hbox hb; have n0_ := aM (zq (by repeat (first | (with_reducible first | exact HB.out | apply zb | apply ze | apply zj) | exact HB.out)) hb); have n1_ := aM (hbox); have n2_ := aM ((by rw [hg]; exact (zl (by repeat (first | (with_reducible first | exact HB.out | apply zb | apply ze | apply zj) | exact HB.out))) : w.heap.size ≤ gb288)); have n3_ := aM ((by rw [hg]; exact (zl (by repeat (first | (with_reducible first | exact HB.out | apply zb | apply ze | apply zj) | exact HB.out))) : w.heap.size ≤ gb288)); clear HB; have HB := n0_; have BK288 := n1_; have GW288 := n2_; have GE288 := n3_; clear n0_ n1_ n2_ n3_; clear hb hbox hg) | ((with_reducible refine yl (N := 2) rfl ?_); refine yh ?hg (N := 2) ?hd (cs := #[.int .i64 0, .int .i64 0, .string (⟨#[]⟩ : ByteArray), .slice none 0 0, .slice none 0 0]) (t := 25) ?hr ?_; (case hd => rfl); (case hg => rfl); (case hr => first | (go_simp; done) | (go_simp; rfl)); intro gb289 hg w4 hbox hb; have n0_ := aM (zo (g := gb288) (o := .cells #[.int .i64 a0_0, .int .i64 a0_1, .string a0_2, .slice A0_3 l0_3.length c0_3, .slice A0_4 l0_4.length c0_4] 33 (0, 0)) (by (with_reducible repeat (first | refine zf ?_ _ | refine zh ?_ | refine zc ?_ _)); exact BK288.out) hb); have n1_ := aM (zq (by repeat (first | (with_reducible first | exact HB.out | apply zb | apply ze | apply zj | refine zg ?_ GE288.out) | exact HB.out)) hb); have n2_ := aM (hbox); have n3_ := aM ((by rw [hg]; exact (zl (by repeat (first | (with_reducible first | exact HB.out | apply zb | apply ze | apply zj | refine zg ?_ GE288.out) | exact HB.out))) : w.heap.size ≤ gb289)); have n4_ := aM ((by rw [hg]; exact (zl (by repeat (first | (with_reducible first | exact HB.out | apply zb | apply ze | apply zj | refine zg ?_ GE288.out) | exact HB.out))) : w.heap.size ≤ gb289)); have n5_ := aM ((by rw [hg]; exact Nat.ne_of_lt (yi (g := gb288) (o := .cells #[.int .i64 a0_0, .int .i64 a0_1, .string a0_2, .slice A0_3 l0_3.length c0_3, .slice A0_4 l0_4.length c0_4] 33 (0, 0)) (by (with_reducible repeat (first | refine zf ?_ _ | refine zh ?_ | refine zc ?_ _)); exact BK288.out)) : gb288 ≠ gb289)); have n6_ := aM ((by rw [hg]; exact Nat.ne_of_gt (yi (g := gb288) (o := .cells #[.int .i64 a0_0, .int .i64 a0_1, .string a0_2, .slice A0_3 l0_3.length c0_3, .slice A0_4 l0_4.length c0_4] 33 (0, 0)) (by (with_reducible repeat (first | refine zf ?_ _ | refine zh ?_ | refine zc ?_ _)); exact BK288.out)) : gb289 ≠ gb288)); clear BK288; clear HB; have BK288 := n0_; have HB := n1_; have BK289 := n2_; have GW289 := n3_; have GE289 := n4_; have NB288_289 := n5_; have NB289_288 := n6_; clear n0_ n1_ n2_ n3_ n4_ n5_ n6_; clear hb hbox hg))
  have n0_ := aM (zh BK288.out); have n1_ := aM (zh BK289.out); have n2_ := aM (zj HB.out); clear BK288 BK289 HB; have BK288 := n0_; have BK289 := n1_; have HB := n2_; clear n0_ n1_ n2_; refine xc (n := 13) (S := fun w' => w'.cell? ⟨gb288, 0, none⟩ = some (.int .i64 a0_0) ∧ w'.cell? ⟨gb288, 1, none⟩ = some (.int .i64 a0_1) ∧ w'.cell? ⟨gb288, 2, none⟩ = some (.string a0_2) ∧ w'.cell? ⟨gb288, 3, none⟩ = some (.slice A0_3 l0_3.length c0_3) ∧ w'.cell? ⟨gb288, 4, none⟩ = some (.slice A0_4 l0_4.length c0_4)) (ds := []) (bZ 13 0) (by kernel_rfl) rfl rfl ⟨(za BK288.out 0).trans rfl, (za BK288.out 1).trans rfl, (za BK288.out 2).trans rfl, (za BK288.out 3).trans rfl, (za BK288.out 4).trans rfl⟩ (fun hHeld => ?_); refine xk laws_from.tab1 laws_from.bits1 (fun HT_ HW_ => ?_); generalize w4.drew = w5 at BK288 BK289 HB hHeld ⊢; refine pU 0 (some 5) (bZ 13 1) rfl (ye HT_.out (by kernel_rfl)) ?_; refine pU 2 (some 7) (bZ 13 5) rfl (ye HT_.out (by kernel_rfl)) ?_; refine pU 4 (some 9) (bZ 13 21) rfl (ye HT_.out (by kernel_rfl)) ?_; refine pU 7 (some 12) (bZ 13 149) rfl (ye HT_.out (by kernel_rfl)) ?_; refine tU 1 (some 6) (bZ 13 151) rfl (yg HT_.out HW_.out (by kernel_rfl)) (Or.inl ⟨by rfl, by rintro w' ⟨s0, s1, s2, s3, s4⟩; go_simp; with_reducible rfl⟩) hHeld ?_; refine tU 3 (some 8) (bZ 13 159) rfl (yg HT_.out HW_.out (by kernel_rfl)) (Or.inl ⟨by rfl, by rintro w' ⟨s0, s1, s2, s3, s4⟩; go_simp; with_reducible rfl⟩) hHeld ?_; refine tU 5 (some 10) (bZ 13 191) rfl (yg HT_.out HW_.out (by kernel_rfl)) (Or.inl ⟨by rfl, by rintro w' ⟨s0, s1, s2, s3, s4⟩; go_simp; with_reducible rfl⟩) hHeld ?_; refine tU 8 (some 13) (bZ 13 447) rfl (yg HT_.out HW_.out (by kernel_rfl)) (Or.inl ⟨by rfl, by rintro w' ⟨s0, s1, s2, s3, s4⟩; go_simp; with_reducible rfl⟩) hHeld ?_; refine join_ (σ := Value × Value × Nat) 1 (bZ 13 4095) (fun s_ => [(11, s_.1), (14, s_.2.1), (3, .pointer (some ⟨s_.2.2, 0, none⟩)), (15, .agg #[.int .i64 a0_0, .int .i64 a0_1, .string a0_2, s_.2.1, .slice none 0 0])]) (fun s_ w' => (w'.cell? ⟨gb288, 0, none⟩ = some (.int .i64 a0_0) ∧ w'.cell? ⟨gb288, 1, none⟩ = some (.int .i64 a0_1) ∧ w'.cell? ⟨gb288, 2, none⟩ = some (.string a0_2) ∧ w'.cell? ⟨gb288, 3, none⟩ = some (.slice A0_3 l0_3.length c0_3) ∧ w'.cell? ⟨gb288, 4, none⟩ = some (.slice A0_4 l0_4.length c0_4)) ∧ (Kd.R Kd.string 9 w' w.heap.size (fun _ => True) s_.2.1 y293) ∧ (w'.heap[gb288]? = some (.cells #[.int .i64 a0_0, .int .i64 a0_1, .string a0_2, .slice A0_3 l0_3.length c0_3, .slice A0_4 l0_4.length c0_4] 33 (0, 0))) ∧ (w'.heap[gb289]? = some (.cells #[.int .i64 0, .int .i64 0, .string (⟨#[]⟩ : ByteArray), .slice none 0 0, .slice none 0 0] 25 (0, 0))) ∧ (w'.heap[s_.2.2]? = some (.cells #[.int .i64 0, .int .i64 0, .string (⟨#[]⟩ : ByteArray), .slice none 0 0, .slice none 0 0] 25 (0, 0))) ∧ (w.heap.size ≤ s_.2.2) ∧ (w.heap.size ≤ s_.2.2) ∧ (gb288 ≠ s_.2.2) ∧ (s_.2.2 ≠ gb288) ∧ (gb289 ≠ s_.2.2) ∧ (s_.2.2 ≠ gb289) ∧ (Below w.heap.size w w')) ?_ ?_; rotate_left
  ·intro hCont; refine two_ (i := 6) (j := 11) (Ni := some 11) (Nj := some 3) (bZ 13 511) (bZ 13 2495) rfl rfl rfl rfl (two_of HT_.out (by kernel_rfl)) (by decide) (by decide) (fun K hK => ?_) (fun K hK => ?_)
   ·skip
    refine Kd.R_lit_step Kd.string _ 9 ?hg (N := 11) ?hd (xs := ([] : List ByteArray)) (inner := []) (ok := fun _ => True) (okp := fun _ => True) ?hr ?hp (fun _ hk => hk) trivial (Below.refl _ _) (Nat.le_refl _) (by simp) ?_; (case hd => rfl); (case hg => rfl); (case hr => first | (go_simp; done) | (go_simp; rfl)); (case hp => exact (Reps.none _ _)); intro v291 w6 ho7 hb hg_ hnew_; clear hg_ hnew_
    (first | rw [← Ny290.out] at ho7 | (simp only [Int.reduceToNat] at ho7; rw [← Ny290.out] at ho7))
    have n0_ := aM (Kd.R_lower ho7 (zl (by repeat (first | (with_reducible first | exact HB.out | apply zb | apply ze | apply zj | refine zg ?_ GE288.out | refine zg ?_ GE289.out) | exact HB.out)))); have n1_ := aM (zo (g := gb288) (o := .cells #[.int .i64 a0_0, .int .i64 a0_1, .string a0_2, .slice A0_3 l0_3.length c0_3, .slice A0_4 l0_4.length c0_4] 33 (0, 0)) (by (with_reducible repeat (first | refine zf ?_ _ | refine zh ?_ | refine zc ?_ _)); exact BK288.out) hb); have n2_ := aM (zo (g := gb289) (o := .cells #[.int .i64 0, .int .i64 0, .string (⟨#[]⟩ : ByteArray), .slice none 0 0, .slice none 0 0] 25 (0, 0)) (by (with_reducible repeat (first | refine zf ?_ _ | refine zh ?_ | refine zc ?_ _)); exact BK289.out) hb); have n3_ := aM (zq (by repeat (first | (with_reducible first | exact HB.out | apply zb | apply ze | apply zj | refine zg ?_ GE288.out | refine zg ?_ GE289.out) | exact HB.out)) hb); clear BK288 BK289 HB; have HO292 := n0_; have BK288 := n1_; have BK289 := n2_; have HB := n3_; clear n0_ n1_ n2_ n3_ hb ho7; refine hK.out _ _ ⟨(za BK288.out 0).trans rfl, (za BK288.out 1).trans rfl, (za BK288.out 2).trans rfl, (za BK288.out 3).trans rfl, (za BK288.out 4).trans rfl⟩ (fun hHeld => ?_); clear hK K; refine zt (a' := ?_) ?_ ?_; rotate_left
    ·show Act.put _ (some 11) _ = _
     simp only [Act.put, sA, sB, sC, zw, zx]; rfl
    refine two_ (i := 9) (j := 11) (Ni := some 14) (Nj := some 3) (bZ 13 1023) (bZ 13 2559) rfl rfl rfl rfl (two_of HT_.out (by kernel_rfl)) (by decide) (by decide) (fun K hK => ?_) (fun K hK => ?_)
    ·skip
     refine Kd.R_append_rows_step Kd.string (w0 := w) w.heap.size (by rfl) (.tmp 11) (.tmp 13) 22 9 (.string ⟨#[]⟩) 16 rfl Tryd.underlying22 info9 rfl (by decide) (by omega) v291 y290 l0_3 _ _ _ (fun _ => True) (fun _ => False) rfl rfl ?aO ?aR (fun _ _ h => h) (fun _ h => h.elim) ?aF ?aB ?aS ?aL ?_
     (case aR => repeat (first | exact (Kd.C_below HR0_3.out HB.out) | (with_reducible refine Kd.C_alloc ?_ _) | (with_reducible refine Kd.C_drewN ?_ _) | (with_reducible refine Kd.C_drew ?_)))
     (case aB => exact (by repeat (first | (with_reducible first | exact HB.out | apply zb | apply ze | apply zj | refine zg ?_ GE288.out | refine zg ?_ GE289.out) | exact HB.out)))
     (case aF => exact (fun _ _ => trivial))
     (case aO => exact (by (with_reducible repeat (first | apply Kd.R_alloc | apply Kd.R_drewN | apply Kd.R_drew)); exact HO292.out))
     (case aS => exact (zl (by repeat (first | (with_reducible first | exact HB.out | apply zb | apply ze | apply zj | refine zg ?_ GE288.out | refine zg ?_ GE289.out) | exact HB.out))))
     (case aL => have := LMc2.out; omega)
     intro v294 w8 ho hb hg hat; rw [← Ny293.out] at ho; have n0_ := aM (ym (g := gb288) (o := .cells #[.int .i64 a0_0, .int .i64 a0_1, .string a0_2, .slice A0_3 l0_3.length c0_3, .slice A0_4 l0_4.length c0_4] 33 (0, 0)) (by (with_reducible repeat (first | refine zf ?_ _ | refine zh ?_ | refine zc ?_ _)); exact BK288.out) hg (Kd.R_ne HO292.out BK288.out (by decide))); have n1_ := aM (ym (g := gb289) (o := .cells #[.int .i64 0, .int .i64 0, .string (⟨#[]⟩ : ByteArray), .slice none 0 0, .slice none 0 0] 25 (0, 0)) (by (with_reducible repeat (first | refine zf ?_ _ | refine zh ?_ | refine zc ?_ _)); exact BK289.out) hg (Kd.R_ne HO292.out BK289.out (by decide))); have n2_ := aM (hb); have n3_ := aM (ho); clear BK288 BK289 HB HO292; have BK288 := n0_; have BK289 := n1_; have HB := n2_; have HO295 := n3_; clear n0_ n1_ n2_ n3_ ho hb hg hat; obtain ⟨Ao9, co9, eo9⟩ := Kd.R_slice HO295.out
     (first | subst eo9 | (injection eo9 with f1_ f2_ f3_; have f4_ := f1_.symm; have f5_ := f3_.symm; clear f1_ f2_ f3_; subst f4_; subst f5_))
     refine hK.out _ _ ⟨(za BK288.out 0).trans rfl, (za BK288.out 1).trans rfl, (za BK288.out 2).trans rfl, (za BK288.out 3).trans rfl, (za BK288.out 4).trans rfl⟩ (fun hHeld => ?_); clear hK K; refine zt (a' := ?_) ?_ ?_; rotate_left
     ·show Act.put _ (some 14) _ = _
      simp only [Act.put, sA, sB, sC, zw, zx]; rfl
     refine pU 10 (some 15) (bZ 13 2047) rfl (ye HT_.out (by kernel_rfl)) ?_; refine one_ (i := 11) (N := some 3) (bZ 13 4095) rfl rfl (yu HT_.out (by kernel_rfl)) (by decide) (fun K hK => ?_); refine box_step ?hg (N := 3) ?hd (cs := #[.int .i64 0, .int .i64 0, .string (⟨#[]⟩ : ByteArray), .slice none 0 0, .slice none 0 0]) (t := 25) ?hr ?_; (case hd => rfl); (case hg => rfl); (case hr => first | (go_simp; done) | (go_simp; rfl)); intro gb296 hg w10 hbox hb; have n0_ := aM (Kd.R_below (by (with_reducible repeat (first | apply Kd.R_alloc | apply Kd.R_drewN | apply Kd.R_drew)); exact HO295.out) hb); have n1_ := aM (zo (g := gb288) (o := .cells #[.int .i64 a0_0, .int .i64 a0_1, .string a0_2, .slice A0_3 l0_3.length c0_3, .slice A0_4 l0_4.length c0_4] 33 (0, 0)) (by (with_reducible repeat (first | refine zf ?_ _ | refine zh ?_ | refine zc ?_ _)); exact BK288.out) hb); have n2_ := aM (zo (g := gb289) (o := .cells #[.int .i64 0, .int .i64 0, .string (⟨#[]⟩ : ByteArray), .slice none 0 0, .slice none 0 0] 25 (0, 0)) (by (with_reducible repeat (first | refine zf ?_ _ | refine zh ?_ | refine zc ?_ _)); exact BK289.out) hb); have n3_ := aM (zq (by repeat (first | (with_reducible first | exact HB.out | apply zb | apply ze | apply zj | refine zg ?_ GE288.out | refine zg ?_ GE289.out) | exact HB.out)) hb); have n4_ := aM (hbox); have n5_ := aM ((by rw [hg]; exact (zl (by repeat (first | (with_reducible first | exact HB.out | apply zb | apply ze | apply zj | refine zg ?_ GE288.out | refine zg ?_ GE289.out) | exact HB.out))) : w.heap.size ≤ gb296)); have n6_ := aM ((by rw [hg]; exact (zl (by repeat (first | (with_reducible first | exact HB.out | apply zb | apply ze | apply zj | refine zg ?_ GE288.out | refine zg ?_ GE289.out) | exact HB.out))) : w.heap.size ≤ gb296)); have n7_ := aM ((by rw [hg]; exact Nat.ne_of_lt (yi (g := gb288) (o := .cells #[.int .i64 a0_0, .int .i64 a0_1, .string a0_2, .slice A0_3 l0_3.length c0_3, .slice A0_4 l0_4.length c0_4] 33 (0, 0)) (by (with_reducible repeat (first | refine zf ?_ _ | refine zh ?_ | refine zc ?_ _)); exact BK288.out)) : gb288 ≠ gb296)); have n8_ := aM ((by rw [hg]; exact Nat.ne_of_gt (yi (g := gb288) (o := .cells #[.int .i64 a0_0, .int .i64 a0_1, .string a0_2, .slice A0_3 l0_3.length c0_3, .slice A0_4 l0_4.length c0_4] 33 (0, 0)) (by (with_reducible repeat (first | refine zf ?_ _ | refine zh ?_ | refine zc ?_ _)); exact BK288.out)) : gb296 ≠ gb288)); have n9_ := aM ((by rw [hg]; exact Nat.ne_of_lt (yi (g := gb289) (o := .cells #[.int .i64 0, .int .i64 0, .string (⟨#[]⟩ : ByteArray), .slice none 0 0, .slice none 0 0] 25 (0, 0)) (by (with_reducible repeat (first | refine zf ?_ _ | refine zh ?_ | refine zc ?_ _)); exact BK289.out)) : gb289 ≠ gb296)); have n10_ := aM ((by rw [hg]; exact Nat.ne_of_gt (yi (g := gb289) (o := .cells #[.int .i64 0, .int .i64 0, .string (⟨#[]⟩ : ByteArray), .slice none 0 0, .slice none 0 0] 25 (0, 0)) (by (with_reducible repeat (first | refine zf ?_ _ | refine zh ?_ | refine zc ?_ _)); exact BK289.out)) : gb296 ≠ gb289)); clear HO295 BK288 BK289 HB; have HO295 := n0_; have BK288 := n1_; have BK289 := n2_; have HB := n3_; have BK296 := n4_; have GW296 := n5_; have GE296 := n6_; have NB288_296 := n7_; have NB296_288 := n8_; have NB289_296 := n9_; have NB296_289 := n10_; clear n0_ n1_ n2_ n3_ n4_ n5_ n6_ n7_ n8_ n9_ n10_ hb hbox hg; refine hK.out _ _ ⟨(za BK288.out 0).trans rfl, (za BK288.out 1).trans rfl, (za BK288.out 2).trans rfl, (za BK288.out 3).trans rfl, (za BK288.out 4).trans rfl⟩ (fun hHeld => ?_); clear hK K; refine zt (a' := ?_) ?_ ?_; rotate_left
     ·show Act.put _ (some 3) _ = _
      simp only [Act.put, sA, sB, sC, zw, zx]; rfl
     exact zt (by simp only [putAll, Act.put, sA, sB, sC]) (hCont (v291, .slice Ao9 y293.length co9, gb296) _ ⟨hHeld, (by (with_reducible repeat (first | apply Kd.R_alloc | apply Kd.R_drewN | apply Kd.R_drew)); exact HO295.out), (by (with_reducible repeat (first | refine zf ?_ _ | refine zh ?_ | refine zc ?_ _)); exact BK288.out), (by (with_reducible repeat (first | refine zf ?_ _ | refine zh ?_ | refine zc ?_ _)); exact BK289.out), (by (with_reducible repeat (first | refine zf ?_ _ | refine zh ?_ | refine zc ?_ _)); exact BK296.out), GW296.out, GE296.out, NB288_296.out, NB296_288.out, NB289_296.out, NB296_289.out, (by repeat (first | (with_reducible first | exact HB.out | apply zb | apply ze | apply zj | refine zg ?_ GE288.out | refine zg ?_ GE289.out | refine zg ?_ GE296.out) | exact HB.out))⟩)
    ·skip
     refine box_step ?hg (N := 3) ?hd (cs := #[.int .i64 0, .int .i64 0, .string (⟨#[]⟩ : ByteArray), .slice none 0 0, .slice none 0 0]) (t := 25) ?hr ?_; (case hd => rfl); (case hg => rfl); (case hr => first | (go_simp; done) | (go_simp; rfl)); intro gb296 hg w8 hbox hb; have n0_ := aM (Kd.R_below (by (with_reducible repeat (first | apply Kd.R_alloc | apply Kd.R_drewN | apply Kd.R_drew)); exact HO292.out) hb); have n1_ := aM (zo (g := gb288) (o := .cells #[.int .i64 a0_0, .int .i64 a0_1, .string a0_2, .slice A0_3 l0_3.length c0_3, .slice A0_4 l0_4.length c0_4] 33 (0, 0)) (by (with_reducible repeat (first | refine zf ?_ _ | refine zh ?_ | refine zc ?_ _)); exact BK288.out) hb); have n2_ := aM (zo (g := gb289) (o := .cells #[.int .i64 0, .int .i64 0, .string (⟨#[]⟩ : ByteArray), .slice none 0 0, .slice none 0 0] 25 (0, 0)) (by (with_reducible repeat (first | refine zf ?_ _ | refine zh ?_ | refine zc ?_ _)); exact BK289.out) hb); have n3_ := aM (zq (by repeat (first | (with_reducible first | exact HB.out | apply zb | apply ze | apply zj | refine zg ?_ GE288.out | refine zg ?_ GE289.out) | exact HB.out)) hb); have n4_ := aM (hbox); have n5_ := aM ((by rw [hg]; exact (zl (by repeat (first | (with_reducible first | exact HB.out | apply zb | apply ze | apply zj | refine zg ?_ GE288.out | refine zg ?_ GE289.out) | exact HB.out))) : w.heap.size ≤ gb296)); have n6_ := aM ((by rw [hg]; exact (zl (by repeat (first | (with_reducible first | exact HB.out | apply zb | apply ze | apply zj | refine zg ?_ GE288.out | refine zg ?_ GE289.out) | exact HB.out))) : w.heap.size ≤ gb296)); have n7_ := aM ((by rw [hg]; exact Nat.ne_of_lt (yi (g := gb288) (o := .cells #[.int .i64 a0_0, .int .i64 a0_1, .string a0_2, .slice A0_3 l0_3.length c0_3, .slice A0_4 l0_4.length c0_4] 33 (0, 0)) (by (with_reducible repeat (first | refine zf ?_ _ | refine zh ?_ | refine zc ?_ _)); exact BK288.out)) : gb288 ≠ gb296)); have n8_ := aM ((by rw [hg]; exact Nat.ne_of_gt (yi (g := gb288) (o := .cells #[.int .i64 a0_0, .int .i64 a0_1, .string a0_2, .slice A0_3 l0_3.length c0_3, .slice A0_4 l0_4.length c0_4] 33 (0, 0)) (by (with_reducible repeat (first | refine zf ?_ _ | refine zh ?_ | refine zc ?_ _)); exact BK288.out)) : gb296 ≠ gb288)); have n9_ := aM ((by rw [hg]; exact Nat.ne_of_lt (yi (g := gb289) (o := .cells #[.int .i64 0, .int .i64 0, .string (⟨#[]⟩ : ByteArray), .slice none 0 0, .slice none 0 0] 25 (0, 0)) (by (with_reducible repeat (first | refine zf ?_ _ | refine zh ?_ | refine zc ?_ _)); exact BK289.out)) : gb289 ≠ gb296)); have n10_ := aM ((by rw [hg]; exact Nat.ne_of_gt (yi (g := gb289) (o := .cells #[.int .i64 0, .int .i64 0, .string (⟨#[]⟩ : ByteArray), .slice none 0 0, .slice none 0 0] 25 (0, 0)) (by (with_reducible repeat (first | refine zf ?_ _ | refine zh ?_ | refine zc ?_ _)); exact BK289.out)) : gb296 ≠ gb289)); clear HO292 BK288 BK289 HB; have HO292 := n0_; have BK288 := n1_; have BK289 := n2_; have HB := n3_; have BK296 := n4_; have GW296 := n5_; have GE296 := n6_; have NB288_296 := n7_; have NB296_288 := n8_; have NB289_296 := n9_; have NB296_289 := n10_; clear n0_ n1_ n2_ n3_ n4_ n5_ n6_ n7_ n8_ n9_ n10_ hb hbox hg; refine hK.out _ _ ⟨(za BK288.out 0).trans rfl, (za BK288.out 1).trans rfl, (za BK288.out 2).trans rfl, (za BK288.out 3).trans rfl, (za BK288.out 4).trans rfl⟩ (fun hHeld => ?_); clear hK K; refine zt (a' := ?_) ?_ ?_; rotate_left
     ·show Act.put _ (some 3) _ = _
      simp only [Act.put, sA, sB, sC, zw, zx]; rfl
     refine one_ (i := 9) (N := some 14) (bZ 13 3071) rfl rfl (yu HT_.out (by kernel_rfl)) (by decide) (fun K hK => ?_); refine Kd.R_append_rows_step Kd.string (w0 := w) w.heap.size (by rfl) (.tmp 11) (.tmp 13) 22 9 (.string ⟨#[]⟩) 16 rfl Tryd.underlying22 info9 rfl (by decide) (by omega) v291 y290 l0_3 _ _ _ (fun _ => True) (fun _ => False) rfl rfl ?aO ?aR (fun _ _ h => h) (fun _ h => h.elim) ?aF ?aB ?aS ?aL ?_
     (case aR => repeat (first | exact (Kd.C_below HR0_3.out HB.out) | (with_reducible refine Kd.C_alloc ?_ _) | (with_reducible refine Kd.C_drewN ?_ _) | (with_reducible refine Kd.C_drew ?_)))
     (case aB => exact (by repeat (first | (with_reducible first | exact HB.out | apply zb | apply ze | apply zj | refine zg ?_ GE288.out | refine zg ?_ GE289.out | refine zg ?_ GE296.out) | exact HB.out)))
     (case aF => exact (fun _ _ => trivial))
     (case aO => exact (by (with_reducible repeat (first | apply Kd.R_alloc | apply Kd.R_drewN | apply Kd.R_drew)); exact HO292.out))
     (case aS => exact (zl (by repeat (first | (with_reducible first | exact HB.out | apply zb | apply ze | apply zj | refine zg ?_ GE288.out | refine zg ?_ GE289.out | refine zg ?_ GE296.out) | exact HB.out))))
     (case aL => have := LMc2.out; omega)
     intro v294 w9 ho hb hg hat; rw [← Ny293.out] at ho; have n0_ := aM (ym (g := gb288) (o := .cells #[.int .i64 a0_0, .int .i64 a0_1, .string a0_2, .slice A0_3 l0_3.length c0_3, .slice A0_4 l0_4.length c0_4] 33 (0, 0)) (by (with_reducible repeat (first | refine zf ?_ _ | refine zh ?_ | refine zc ?_ _)); exact BK288.out) hg (Kd.R_ne HO292.out BK288.out (by decide))); have n1_ := aM (ym (g := gb289) (o := .cells #[.int .i64 0, .int .i64 0, .string (⟨#[]⟩ : ByteArray), .slice none 0 0, .slice none 0 0] 25 (0, 0)) (by (with_reducible repeat (first | refine zf ?_ _ | refine zh ?_ | refine zc ?_ _)); exact BK289.out) hg (Kd.R_ne HO292.out BK289.out (by decide))); have n2_ := aM (ym (g := gb296) (o := .cells #[.int .i64 0, .int .i64 0, .string (⟨#[]⟩ : ByteArray), .slice none 0 0, .slice none 0 0] 25 (0, 0)) (by (with_reducible repeat (first | refine zf ?_ _ | refine zh ?_ | refine zc ?_ _)); exact BK296.out) hg (Kd.R_ne HO292.out BK296.out (by decide))); have n3_ := aM (hb); have n4_ := aM (ho); clear BK288 BK289 BK296 HB HO292; have BK288 := n0_; have BK289 := n1_; have BK296 := n2_; have HB := n3_; have HO295 := n4_; clear n0_ n1_ n2_ n3_ n4_ ho hb hg hat; obtain ⟨Ao10, co10, eo10⟩ := Kd.R_slice HO295.out
     (first | subst eo10 | (injection eo10 with f1_ f2_ f3_; have f4_ := f1_.symm; have f5_ := f3_.symm; clear f1_ f2_ f3_; subst f4_; subst f5_))
     refine hK.out _ _ ⟨(za BK288.out 0).trans rfl, (za BK288.out 1).trans rfl, (za BK288.out 2).trans rfl, (za BK288.out 3).trans rfl, (za BK288.out 4).trans rfl⟩ (fun hHeld => ?_); clear hK K; refine zt (a' := ?_) ?_ ?_; rotate_left
     ·show Act.put _ (some 14) _ = _
      simp only [Act.put, sA, sB, sC, zw, zx]; rfl
     refine pU 10 (some 15) (bZ 13 4095) rfl (ye HT_.out (by kernel_rfl)) ?_; exact zt (by simp only [putAll, Act.put, sA, sB, sC]) (hCont (v291, .slice Ao10 y293.length co10, gb296) _ ⟨hHeld, (by (with_reducible repeat (first | apply Kd.R_alloc | apply Kd.R_drewN | apply Kd.R_drew)); exact HO295.out), (by (with_reducible repeat (first | refine zf ?_ _ | refine zh ?_ | refine zc ?_ _)); exact BK288.out), (by (with_reducible repeat (first | refine zf ?_ _ | refine zh ?_ | refine zc ?_ _)); exact BK289.out), (by (with_reducible repeat (first | refine zf ?_ _ | refine zh ?_ | refine zc ?_ _)); exact BK296.out), GW296.out, GE296.out, NB288_296.out, NB296_288.out, NB289_296.out, NB296_289.out, (by repeat (first | (with_reducible first | exact HB.out | apply zb | apply ze | apply zj | refine zg ?_ GE288.out | refine zg ?_ GE289.out | refine zg ?_ GE296.out) | exact HB.out))⟩)
   ·skip
    refine box_step ?hg (N := 3) ?hd (cs := #[.int .i64 0, .int .i64 0, .string (⟨#[]⟩ : ByteArray), .slice none 0 0, .slice none 0 0]) (t := 25) ?hr ?_; (case hd => rfl); (case hg => rfl); (case hr => first | (go_simp; done) | (go_simp; rfl)); intro gb296 hg w6 hbox hb; have n0_ := aM (zo (g := gb288) (o := .cells #[.int .i64 a0_0, .int .i64 a0_1, .string a0_2, .slice A0_3 l0_3.length c0_3, .slice A0_4 l0_4.length c0_4] 33 (0, 0)) (by (with_reducible repeat (first | refine zf ?_ _ | refine zh ?_ | refine zc ?_ _)); exact BK288.out) hb); have n1_ := aM (zo (g := gb289) (o := .cells #[.int .i64 0, .int .i64 0, .string (⟨#[]⟩ : ByteArray), .slice none 0 0, .slice none 0 0] 25 (0, 0)) (by (with_reducible repeat (first | refine zf ?_ _ | refine zh ?_ | refine zc ?_ _)); exact BK289.out) hb); have n2_ := aM (zq (by repeat (first | (with_reducible first | exact HB.out | apply zb | apply ze | apply zj | refine zg ?_ GE288.out | refine zg ?_ GE289.out) | exact HB.out)) hb); have n3_ := aM (hbox); have n4_ := aM ((by rw [hg]; exact (zl (by repeat (first | (with_reducible first | exact HB.out | apply zb | apply ze | apply zj | refine zg ?_ GE288.out | refine zg ?_ GE289.out) | exact HB.out))) : w.heap.size ≤ gb296)); have n5_ := aM ((by rw [hg]; exact (zl (by repeat (first | (with_reducible first | exact HB.out | apply zb | apply ze | apply zj | refine zg ?_ GE288.out | refine zg ?_ GE289.out) | exact HB.out))) : w.heap.size ≤ gb296)); have n6_ := aM ((by rw [hg]; exact Nat.ne_of_lt (yi (g := gb288) (o := .cells #[.int .i64 a0_0, .int .i64 a0_1, .string a0_2, .slice A0_3 l0_3.length c0_3, .slice A0_4 l0_4.length c0_4] 33 (0, 0)) (by (with_reducible repeat (first | refine zf ?_ _ | refine zh ?_ | refine zc ?_ _)); exact BK288.out)) : gb288 ≠ gb296)); have n7_ := aM ((by rw [hg]; exact Nat.ne_of_gt (yi (g := gb288) (o := .cells #[.int .i64 a0_0, .int .i64 a0_1, .string a0_2, .slice A0_3 l0_3.length c0_3, .slice A0_4 l0_4.length c0_4] 33 (0, 0)) (by (with_reducible repeat (first | refine zf ?_ _ | refine zh ?_ | refine zc ?_ _)); exact BK288.out)) : gb296 ≠ gb288)); have n8_ := aM ((by rw [hg]; exact Nat.ne_of_lt (yi (g := gb289) (o := .cells #[.int .i64 0, .int .i64 0, .string (⟨#[]⟩ : ByteArray), .slice none 0 0, .slice none 0 0] 25 (0, 0)) (by (with_reducible repeat (first | refine zf ?_ _ | refine zh ?_ | refine zc ?_ _)); exact BK289.out)) : gb289 ≠ gb296)); have n9_ := aM ((by rw [hg]; exact Nat.ne_of_gt (yi (g := gb289) (o := .cells #[.int .i64 0, .int .i64 0, .string (⟨#[]⟩ : ByteArray), .slice none 0 0, .slice none 0 0] 25 (0, 0)) (by (with_reducible repeat (first | refine zf ?_ _ | refine zh ?_ | refine zc ?_ _)); exact BK289.out)) : gb296 ≠ gb289)); clear BK288 BK289 HB; have BK288 := n0_; have BK289 := n1_; have HB := n2_; have BK296 := n3_; have GW296 := n4_; have GE296 := n5_; have NB288_296 := n6_; have NB296_288 := n7_; have NB289_296 := n8_; have NB296_289 := n9_; clear n0_ n1_ n2_ n3_ n4_ n5_ n6_ n7_ n8_ n9_ hb hbox hg; refine hK.out _ _ ⟨(za BK288.out 0).trans rfl, (za BK288.out 1).trans rfl, (za BK288.out 2).trans rfl, (za BK288.out 3).trans rfl, (za BK288.out 4).trans rfl⟩ (fun hHeld => ?_); clear hK K; refine zt (a' := ?_) ?_ ?_; rotate_left
    ·show Act.put _ (some 3) _ = _
     simp only [Act.put, sA, sB, sC, zw, zx]; rfl
    refine one_ (i := 6) (N := some 11) (bZ 13 2559) rfl rfl (yu HT_.out (by kernel_rfl)) (by decide) (fun K hK => ?_); refine Kd.R_lit_step Kd.string _ 9 ?hg (N := 11) ?hd (xs := ([] : List ByteArray)) (inner := []) (ok := fun _ => True) (okp := fun _ => True) ?hr ?hp (fun _ hk => hk) trivial (Below.refl _ _) (Nat.le_refl _) (by simp) ?_; (case hd => rfl); (case hg => rfl); (case hr => first | (go_simp; done) | (go_simp; rfl)); (case hp => exact (Reps.none _ _)); intro v291 w7 ho8 hb hg_ hnew_; clear hg_ hnew_
    (first | rw [← Ny290.out] at ho8 | (simp only [Int.reduceToNat] at ho8; rw [← Ny290.out] at ho8))
    have n0_ := aM (Kd.R_lower ho8 (zl (by repeat (first | (with_reducible first | exact HB.out | apply zb | apply ze | apply zj | refine zg ?_ GE288.out | refine zg ?_ GE289.out | refine zg ?_ GE296.out) | exact HB.out)))); have n1_ := aM (zo (g := gb288) (o := .cells #[.int .i64 a0_0, .int .i64 a0_1, .string a0_2, .slice A0_3 l0_3.length c0_3, .slice A0_4 l0_4.length c0_4] 33 (0, 0)) (by (with_reducible repeat (first | refine zf ?_ _ | refine zh ?_ | refine zc ?_ _)); exact BK288.out) hb); have n2_ := aM (zo (g := gb289) (o := .cells #[.int .i64 0, .int .i64 0, .string (⟨#[]⟩ : ByteArray), .slice none 0 0, .slice none 0 0] 25 (0, 0)) (by (with_reducible repeat (first | refine zf ?_ _ | refine zh ?_ | refine zc ?_ _)); exact BK289.out) hb); have n3_ := aM (zo (g := gb296) (o := .cells #[.int .i64 0, .int .i64 0, .string (⟨#[]⟩ : ByteArray), .slice none 0 0, .slice none 0 0] 25 (0, 0)) (by (with_reducible repeat (first | refine zf ?_ _ | refine zh ?_ | refine zc ?_ _)); exact BK296.out) hb); have n4_ := aM (zq (by repeat (first | (with_reducible first | exact HB.out | apply zb | apply ze | apply zj | refine zg ?_ GE288.out | refine zg ?_ GE289.out | refine zg ?_ GE296.out) | exact HB.out)) hb); clear BK288 BK289 BK296 HB; have HO292 := n0_; have BK288 := n1_; have BK289 := n2_; have BK296 := n3_; have HB := n4_; clear n0_ n1_ n2_ n3_ n4_ hb ho8; refine hK.out _ _ ⟨(za BK288.out 0).trans rfl, (za BK288.out 1).trans rfl, (za BK288.out 2).trans rfl, (za BK288.out 3).trans rfl, (za BK288.out 4).trans rfl⟩ (fun hHeld => ?_); clear hK K; refine zt (a' := ?_) ?_ ?_; rotate_left
    ·show Act.put _ (some 11) _ = _
     simp only [Act.put, sA, sB, sC, zw, zx]; rfl
    refine one_ (i := 9) (N := some 14) (bZ 13 3071) rfl rfl (yu HT_.out (by kernel_rfl)) (by decide) (fun K hK => ?_); refine Kd.R_append_rows_step Kd.string (w0 := w) w.heap.size (by rfl) (.tmp 11) (.tmp 13) 22 9 (.string ⟨#[]⟩) 16 rfl Tryd.underlying22 info9 rfl (by decide) (by omega) v291 y290 l0_3 _ _ _ (fun _ => True) (fun _ => False) rfl rfl ?aO ?aR (fun _ _ h => h) (fun _ h => h.elim) ?aF ?aB ?aS ?aL ?_
    (case aR => repeat (first | exact (Kd.C_below HR0_3.out HB.out) | (with_reducible refine Kd.C_alloc ?_ _) | (with_reducible refine Kd.C_drewN ?_ _) | (with_reducible refine Kd.C_drew ?_)))
    (case aB => exact (by repeat (first | (with_reducible first | exact HB.out | apply zb | apply ze | apply zj | refine zg ?_ GE288.out | refine zg ?_ GE289.out | refine zg ?_ GE296.out) | exact HB.out)))
    (case aF => exact (fun _ _ => trivial))
    (case aO => exact (by (with_reducible repeat (first | apply Kd.R_alloc | apply Kd.R_drewN | apply Kd.R_drew)); exact HO292.out))
    (case aS => exact (zl (by repeat (first | (with_reducible first | exact HB.out | apply zb | apply ze | apply zj | refine zg ?_ GE288.out | refine zg ?_ GE289.out | refine zg ?_ GE296.out) | exact HB.out))))
    (case aL => have := LMc2.out; omega)
    intro v294 w9 ho hb hg hat; rw [← Ny293.out] at ho; have n0_ := aM (ym (g := gb288) (o := .cells #[.int .i64 a0_0, .int .i64 a0_1, .string a0_2, .slice A0_3 l0_3.length c0_3, .slice A0_4 l0_4.length c0_4] 33 (0, 0)) (by (with_reducible repeat (first | refine zf ?_ _ | refine zh ?_ | refine zc ?_ _)); exact BK288.out) hg (Kd.R_ne HO292.out BK288.out (by decide))); have n1_ := aM (ym (g := gb289) (o := .cells #[.int .i64 0, .int .i64 0, .string (⟨#[]⟩ : ByteArray), .slice none 0 0, .slice none 0 0] 25 (0, 0)) (by (with_reducible repeat (first | refine zf ?_ _ | refine zh ?_ | refine zc ?_ _)); exact BK289.out) hg (Kd.R_ne HO292.out BK289.out (by decide))); have n2_ := aM (ym (g := gb296) (o := .cells #[.int .i64 0, .int .i64 0, .string (⟨#[]⟩ : ByteArray), .slice none 0 0, .slice none 0 0] 25 (0, 0)) (by (with_reducible repeat (first | refine zf ?_ _ | refine zh ?_ | refine zc ?_ _)); exact BK296.out) hg (Kd.R_ne HO292.out BK296.out (by decide))); have n3_ := aM (hb); have n4_ := aM (ho); clear BK288 BK289 BK296 HB HO292; have BK288 := n0_; have BK289 := n1_; have BK296 := n2_; have HB := n3_; have HO295 := n4_; clear n0_ n1_ n2_ n3_ n4_ ho hb hg hat; obtain ⟨Ao10, co10, eo10⟩ := Kd.R_slice HO295.out
    (first | subst eo10 | (injection eo10 with f1_ f2_ f3_; have f4_ := f1_.symm; have f5_ := f3_.symm; clear f1_ f2_ f3_; subst f4_; subst f5_))
    refine hK.out _ _ ⟨(za BK288.out 0).trans rfl, (za BK288.out 1).trans rfl, (za BK288.out 2).trans rfl, (za BK288.out 3).trans rfl, (za BK288.out 4).trans rfl⟩ (fun hHeld => ?_); clear hK K; refine zt (a' := ?_) ?_ ?_; rotate_left
    ·show Act.put _ (some 14) _ = _
     simp only [Act.put, sA, sB, sC, zw, zx]; rfl
    refine pU 10 (some 15) (bZ 13 4095) rfl (ye HT_.out (by kernel_rfl)) ?_; exact zt (by simp only [putAll, Act.put, sA, sB, sC]) (hCont (v291, .slice Ao10 y293.length co10, gb296) _ ⟨hHeld, (by (with_reducible repeat (first | apply Kd.R_alloc | apply Kd.R_drewN | apply Kd.R_drew)); exact HO295.out), (by (with_reducible repeat (first | refine zf ?_ _ | refine zh ?_ | refine zc ?_ _)); exact BK288.out), (by (with_reducible repeat (first | refine zf ?_ _ | refine zh ?_ | refine zc ?_ _)); exact BK289.out), (by (with_reducible repeat (first | refine zf ?_ _ | refine zh ?_ | refine zc ?_ _)); exact BK296.out), GW296.out, GE296.out, NB288_296.out, NB296_288.out, NB289_296.out, NB296_289.out, (by repeat (first | (with_reducible first | exact HB.out | apply zb | apply ze | apply zj | refine zg ?_ GE288.out | refine zg ?_ GE289.out | refine zg ?_ GE296.out) | exact HB.out))⟩)
  rintro ⟨v291, v294, gb296⟩ w11 ⟨hS_, h0_, h1_, h2_, h3_, h4_, h5_, h6_, h7_, h8_, h9_, h10_⟩
  have n0_ : Aside0 (Kd.R Kd.string 9 w11 w.heap.size (fun _ => True) v294 y293) := ⟨h0_⟩
  have n1_ : Aside0 (w11.heap[gb288]? = some (.cells #[.int .i64 a0_0, .int .i64 a0_1, .string a0_2, .slice A0_3 l0_3.length c0_3, .slice A0_4 l0_4.length c0_4] 33 (0, 0))) := ⟨h1_⟩
  have n2_ : Aside0 (w11.heap[gb289]? = some (.cells #[.int .i64 0, .int .i64 0, .string (⟨#[]⟩ : ByteArray), .slice none 0 0, .slice none 0 0] 25 (0, 0))) := ⟨h2_⟩
  have n3_ : Aside0 (w11.heap[gb296]? = some (.cells #[.int .i64 0, .int .i64 0, .string (⟨#[]⟩ : ByteArray), .slice none 0 0, .slice none 0 0] 25 (0, 0))) := ⟨h3_⟩
  have n4_ : Aside0 (w.heap.size ≤ gb296) := ⟨h4_⟩
  have n5_ : Aside0 (w.heap.size ≤ gb296) := ⟨h5_⟩
  have n6_ : Aside0 (gb288 ≠ gb296) := ⟨h6_⟩
  have n7_ : Aside0 (gb296 ≠ gb288) := ⟨h7_⟩
  have n8_ : Aside0 (gb289 ≠ gb296) := ⟨h8_⟩
  have n9_ : Aside0 (gb296 ≠ gb289) := ⟨h9_⟩
  have n10_ : Aside0 (Below w.heap.size w w11) := ⟨h10_⟩
  clear BK288 BK289 HB h0_ h1_ h2_ h3_ h4_ h5_ h6_ h7_ h8_ h9_ h10_; have HO295 := n0_; have BK288 := n1_; have BK289 := n2_; have BK296 := n3_; have GW296 := n4_; have GE296 := n5_; have NB288_296 := n6_; have NB296_288 := n7_; have NB289_296 := n8_; have NB296_289 := n9_; have HB := n10_; clear n0_ n1_ n2_ n3_ n4_ n5_ n6_ n7_ n8_ n9_ n10_; have hHeld : w11.cell? ⟨gb288, 0, none⟩ = some (.int .i64 a0_0) ∧ w11.cell? ⟨gb288, 1, none⟩ = some (.int .i64 a0_1) ∧ w11.cell? ⟨gb288, 2, none⟩ = some (.string a0_2) ∧ w11.cell? ⟨gb288, 3, none⟩ = some (.slice A0_3 l0_3.length c0_3) ∧ w11.cell? ⟨gb288, 4, none⟩ = some (.slice A0_4 l0_4.length c0_4) := hS_; obtain ⟨Ao12, co12, eo12⟩ := Kd.R_slice HO295.out
  (first | subst eo12 | (injection eo12 with f1_ f2_ f3_; have f4_ := f1_.symm; have f5_ := f3_.symm; clear f1_ f2_ f3_; subst f4_; subst f5_))
  refine zt (a' := ?_) ?_ ?_; rotate_left
  ·simp only [putAll, Act.put, sA, sB, sC]; rfl
  refine one_ (i := 12) (N := none) (bZ 13 8191) rfl rfl (yu HT_.out (by kernel_rfl)) (by decide) (fun K hK => ?_); have hs13 : w11.cell? ⟨gb296, 0, none⟩ = some (.int .i64 0) := (za BK296.out 0).trans rfl; have hfs13 := zi BK296.out 0; have hns13_0 := NB288_296.out; have hns13_1 := NB289_296.out; have hms13_0 := NB296_288.out; have hms13_1 := NB296_289.out; have hs14 : w11.cell? ⟨gb296, 1, none⟩ = some (.int .i64 0) := (za BK296.out 1).trans rfl; have hfs14 := zi BK296.out 1; have hns14_0 := NB288_296.out; have hns14_1 := NB289_296.out; have hms14_0 := NB296_288.out; have hms14_1 := NB296_289.out; have hs15 : w11.cell? ⟨gb296, 2, none⟩ = some (.string (⟨#[]⟩ : ByteArray)) := (za BK296.out 2).trans rfl; have hfs15 := zi BK296.out 2; have hns15_0 := NB288_296.out; have hns15_1 := NB289_296.out; have hms15_0 := NB296_288.out; have hms15_1 := NB296_289.out; have hs16 : w11.cell? ⟨gb296, 3, none⟩ = some (.slice none 0 0) := (za BK296.out 3).trans rfl; have hfs16 := zi BK296.out 3; have hns16_0 := NB288_296.out; have hns16_1 := NB289_296.out; have hms16_0 := NB296_288.out; have hms16_1 := NB296_289.out; have hs17 : w11.cell? ⟨gb296, 4, none⟩ = some (.slice none 0 0) := (za BK296.out 4).trans rfl; have hfs17 := zi BK296.out 4; have hns17_0 := NB288_296.out; have hns17_1 := NB289_296.out; have hms17_0 := NB296_288.out; have hms17_1 := NB296_289.out; refine skip_ (w1 := ?_) (by rfl) rfl ?_ ?_; rotate_left
  ·go_simp; rfl
  refine hK.out _ _ ⟨((ya (p := ⟨gb296, _, none⟩) NB288_296.out _).trans (((ya (p := ⟨gb296, _, none⟩) NB288_296.out _).trans (((ya (p := ⟨gb296, _, none⟩) NB288_296.out _).trans (((ya (p := ⟨gb296, _, none⟩) NB288_296.out _).trans (((ya (p := ⟨gb296, _, none⟩) NB288_296.out _).trans (hHeld.1)))))))))), ((ya (p := ⟨gb296, _, none⟩) NB288_296.out _).trans (((ya (p := ⟨gb296, _, none⟩) NB288_296.out _).trans (((ya (p := ⟨gb296, _, none⟩) NB288_296.out _).trans (((ya (p := ⟨gb296, _, none⟩) NB288_296.out _).trans (((ya (p := ⟨gb296, _, none⟩) NB288_296.out _).trans (hHeld.2.1)))))))))), ((ya (p := ⟨gb296, _, none⟩) NB288_296.out _).trans (((ya (p := ⟨gb296, _, none⟩) NB288_296.out _).trans (((ya (p := ⟨gb296, _, none⟩) NB288_296.out _).trans (((ya (p := ⟨gb296, _, none⟩) NB288_296.out _).trans (((ya (p := ⟨gb296, _, none⟩) NB288_296.out _).trans (hHeld.2.2.1)))))))))), ((ya (p := ⟨gb296, _, none⟩) NB288_296.out _).trans (((ya (p := ⟨gb296, _, none⟩) NB288_296.out _).trans (((ya (p := ⟨gb296, _, none⟩) NB288_296.out _).trans (((ya (p := ⟨gb296, _, none⟩) NB288_296.out _).trans (((ya (p := ⟨gb296, _, none⟩) NB288_296.out _).trans (hHeld.2.2.2.1)))))))))), ((ya (p := ⟨gb296, _, none⟩) NB288_296.out _).trans (((ya (p := ⟨gb296, _, none⟩) NB288_296.out _).trans (((ya (p := ⟨gb296, _, none⟩) NB288_296.out _).trans (((ya (p := ⟨gb296, _, none⟩) NB288_296.out _).trans (((ya (p := ⟨gb296, _, none⟩) NB288_296.out _).trans (hHeld.2.2.2.2))))))))))⟩ (fun hHeld => ?_); clear hK K; refine xp (done_of HT_.out (by kernel_rfl)) ?_
  try go_wp2
  go_loopg [4] k (fun kq v4 w' => ∃ (x4_1 : Int) (x297004_1 : List (S25)) (u297004 : Value), v4 = .int .i64 x4_1 ∧ Aside0 (laws_from.l0 kq x4_1 a0_0 a0_1 a0_2 l0_3 l0_4 a0_0 a0_1 a0_2 y293 x297004_1 = some (r1, r2, r3, r4, r5)) ∧ Aside0 (kq ≤ k) ∧ Aside0 (Kd.R Kd.string 9 w' w.heap.size (fun _ => True) (.slice Ao12 y293.length co12) y293) ∧ Aside0 (Kd.R k25 25 w' w.heap.size (fun k_ => some k_ ≠ ((.slice Ao12 y293.length co12) : Value).ownBlock ∧ k_ ≠ gb289 ∧ k_ ≠ gb296) u297004 x297004_1) ∧ Aside0 (w'.heap[gb288]? = some (.cells #[.int .i64 a0_0, .int .i64 a0_1, .string a0_2, (.slice A0_3 l0_3.length c0_3), (.slice A0_4 l0_4.length c0_4)] 33 (0, 0))) ∧ Aside0 (w'.heap[gb289]? = some (.cells #[.int .i64 0, .int .i64 0, .string (⟨#[]⟩ : ByteArray), (.slice none 0 0), (.slice none 0 0)] 25 (0, 0))) ∧ Aside0 (w'.heap[gb296]? = some (.cells #[.int .i64 a0_0, .int .i64 a0_1, .string a0_2, (.slice Ao12 y293.length co12), u297004] 25 (0, 0))) ∧ Aside0 (Below w.heap.size w w'))
  case atStart => exact ⟨(0), (([] : List (S25))), (.slice none 0 0), (by first | rfl | (simp; done) | (simp [*]; done)), H', ⟨Nat.le_refl _⟩, ⟨by (with_reducible repeat (first | apply Kd.R_alloc | apply Kd.R_drewN | apply Kd.R_drew)); exact Kd.R_mono (Kd.R_far (p := ⟨gb296, 4, none⟩) (Kd.R_far (p := ⟨gb296, 3, none⟩) (Kd.R_far (p := ⟨gb296, 2, none⟩) (Kd.R_far (p := ⟨gb296, 1, none⟩) (Kd.R_far (p := ⟨gb296, 0, none⟩) (Kd.R_types HO295.out BK296.out (by decide)) (fun _ hk => hk.2) (.int .i64 a0_0)) (fun _ hk => hk.2) (.int .i64 a0_1)) (fun _ hk => hk.2) (.string a0_2)) (fun _ hk => hk.2) (.slice Ao12 y293.length co12)) (fun _ hk => hk.2) (.slice none 0 0)) (fun _ hk => trivial)⟩, ⟨by first | exact Kd.R_nil _ _ _ _ _ | exact Kd.N_nil _ _ _ _ _ | exact Kd.V_nil _ _ _ _ _ | exact Kd.Q_nil _ _ _ _ _ | exact Kd.S_nil _ _ _ _ _⟩, ⟨by (with_reducible repeat (first | refine zf ?_ _ | refine zh ?_ | refine zc ?_ _)); refine yc ?_ NB288_296.out _; (with_reducible repeat (first | refine zf ?_ _ | refine zh ?_ | refine zc ?_ _)); refine yc ?_ NB288_296.out _; (with_reducible repeat (first | refine zf ?_ _ | refine zh ?_ | refine zc ?_ _)); refine yc ?_ NB288_296.out _; (with_reducible repeat (first | refine zf ?_ _ | refine zh ?_ | refine zc ?_ _)); refine yc ?_ NB288_296.out _; (with_reducible repeat (first | refine zf ?_ _ | refine zh ?_ | refine zc ?_ _)); refine yc ?_ NB288_296.out _; (with_reducible repeat (first | refine zf ?_ _ | refine zh ?_ | refine zc ?_ _)); exact BK288.out⟩, ⟨by (with_reducible repeat (first | refine zf ?_ _ | refine zh ?_ | refine zc ?_ _)); refine yc ?_ NB289_296.out _; (with_reducible repeat (first | refine zf ?_ _ | refine zh ?_ | refine zc ?_ _)); refine yc ?_ NB289_296.out _; (with_reducible repeat (first | refine zf ?_ _ | refine zh ?_ | refine zc ?_ _)); refine yc ?_ NB289_296.out _; (with_reducible repeat (first | refine zf ?_ _ | refine zh ?_ | refine zc ?_ _)); refine yc ?_ NB289_296.out _; (with_reducible repeat (first | refine zf ?_ _ | refine zh ?_ | refine zc ?_ _)); refine yc ?_ NB289_296.out _; (with_reducible repeat (first | refine zf ?_ _ | refine zh ?_ | refine zc ?_ _)); exact BK289.out⟩, ⟨by (with_reducible repeat (first | refine zf ?_ _ | refine zh ?_ | refine zc ?_ _)); refine zn (cs := #[.int .i64 a0_0, .int .i64 a0_1, .string a0_2, .slice Ao12 y293.length co12, .slice none 0 0]) ?_ 4 _ rfl; (with_reducible repeat (first | refine zf ?_ _ | refine zh ?_ | refine zc ?_ _)); refine zn (cs := #[.int .i64 a0_0, .int .i64 a0_1, .string a0_2, .slice none 0 0, .slice none 0 0]) ?_ 3 _ rfl; (with_reducible repeat (first | refine zf ?_ _ | refine zh ?_ | refine zc ?_ _)); refine zn (cs := #[.int .i64 a0_0, .int .i64 a0_1, .string (⟨#[]⟩ : ByteArray), .slice none 0 0, .slice none 0 0]) ?_ 2 _ rfl; (with_reducible repeat (first | refine zf ?_ _ | refine zh ?_ | refine zc ?_ _)); refine zn (cs := #[.int .i64 a0_0, .int .i64 0, .string (⟨#[]⟩ : ByteArray), .slice none 0 0, .slice none 0 0]) ?_ 1 _ rfl; (with_reducible repeat (first | refine zf ?_ _ | refine zh ?_ | refine zc ?_ _)); refine zn (cs := #[.int .i64 0, .int .i64 0, .string (⟨#[]⟩ : ByteArray), .slice none 0 0, .slice none 0 0]) ?_ 0 _ rfl; (with_reducible repeat (first | refine zf ?_ _ | refine zh ?_ | refine zc ?_ _)); exact BK296.out⟩, ⟨by repeat (first | (with_reducible first | exact HB.out | apply zb | apply ze | apply zj | refine zg ?_ GE288.out | refine zg ?_ GE289.out | refine zg ?_ GE296.out) | exact HB.out)⟩⟩
  case round =>
   clear H'
   try clear c2
   try clear p2
   try clear c9
   obtain ⟨x4_1, x297004_1, u297004, rfl, HA, HK1, HO_297003, HO_297004, BK288, BK289, BK296, HB⟩ := hrel
   cases gk with
   | zero => exact absurd HA.out (by simp [laws_from.l0])
   | succ k1 =>
    have H := HA.out; clear HA; simp only [laws_from.l0] at H
    by_cases c18 : x4_1 < (l0_4.length : Int)
    ·rw [if_pos c18] at H; have c18b0 : decide (x4_1 < (l0_4.length : Int)) = true := decide_eq_true c18; clear c18
     by_cases c19 : 0 ≤ x4_1
     ·rw [if_pos c19] at H; have c19b0 : decide (0 ≤ x4_1) = true := decide_eq_true c19; clear c19; replace H := Option.bind_eq_some_iff.mp H; obtain ⟨⟨t298, t299, t300, t301, t304⟩, A200, H⟩ := H; replace H : (if x297004_1.length < 1759218604441 then (laws_from.l0 k1 (wrap64 (x4_1 + 1)) a0_0 a0_1 a0_2 l0_3 l0_4 a0_0 a0_1 a0_2 y293 (x297004_1 ++ [(⟨t298, t299, t300, t301, t304⟩ : S25)])) else (none)) = some (r1, r2, r3, r4, r5) := H; have A20 := aM A200; clear A200
      by_cases c21 : x297004_1.length < 1759218604441
      ·rw [if_pos c21] at H; have LMc21 := aM c21; clear c21
       obtain ⟨y307, hy307⟩ : ∃ y_ : List (S25), y_ = (x297004_1 ++ [(⟨t298, t299, t300, t301, t304⟩ : S25)]) := ⟨_, rfl⟩
       replace H : (laws_from.l0 k1 (wrap64 (x4_1 + 1)) a0_0 a0_1 a0_2 l0_3 l0_4 a0_0 a0_1 a0_2 y293 y307) = some (r1, r2, r3, r4, r5) := by first | (rw [hy307]; with_reducible exact H) | (have H2_ := (Option.bind_some _ _).symm.trans H; rw [hy307]; with_reducible exact H2_) | (have H2_ := (Option.bind_some _ _).symm.trans H; with_reducible exact H2_) | with_reducible exact H | (rw [hy307]; exact H) | exact H
       have Ny307 := aM hy307; clear hy307; have H' := aM H; clear H; have hnb22 := NB288_289.out; have hnc22 := NB289_288.out; have hnb23 := NB288_296.out; have hnc23 := NB296_288.out; have hcz24_0 : wr.cell? ⟨gb288, 0, none⟩ = some (.int .i64 a0_0) := (za BK288.out 0).trans rfl; have hcz24_1 : wr.cell? ⟨gb288, 1, none⟩ = some (.int .i64 a0_1) := (za BK288.out 1).trans rfl; have hcz24_2 : wr.cell? ⟨gb288, 2, none⟩ = some (.string a0_2) := (za BK288.out 2).trans rfl; have hcz24_3 : wr.cell? ⟨gb288, 3, none⟩ = some (.slice A0_3 l0_3.length c0_3) := (za BK288.out 3).trans rfl; have hcz24_4 : wr.cell? ⟨gb288, 4, none⟩ = some (.slice A0_4 l0_4.length c0_4) := (za BK288.out 4).trans rfl; have hfz24_0 := zi BK288.out 0; have hfz24_1 := zi BK288.out 1; have hfz24_2 := zi BK288.out 2; have hfz24_3 := zi BK288.out 3; have hfz24_4 := zi BK288.out 4
       try go_wp2
       have n0_ := aM (Kd.R_drew HO_297003.out); have n1_ := aM (Kd.R_drew HO_297004.out); have n2_ := aM (zh BK288.out); have n3_ := aM (zh BK289.out); have n4_ := aM (zh BK296.out); have n5_ := aM (zj HB.out); clear HO_297003 HO_297004 BK288 BK289 BK296 HB; have HO_297003 := n0_; have HO_297004 := n1_; have BK288 := n2_; have BK289 := n3_; have BK296 := n4_; have HB := n5_; clear n0_ n1_ n2_ n3_ n4_ n5_; have p297 : 0 ≤ (x4_1 : Int) := of_decide_eq_true (by first | (with_reducible assumption) | assumption); have q297 : x4_1 < (l0_4.length : Int) := of_decide_eq_true (by first | (with_reducible assumption) | assumption); obtain ⟨ad297, A297_3, c297_3, A297_4, c297_4, e297, hx297_0, hx297_1, hx297_2, hx297_3, hx297_4, hl297_3, hi297_3, hl297_4, hi297_4⟩ := at_T33 HR0_4.out x4_1 p297 q297; have hw297_4 := hx297_4; have hw297_3 := hx297_3; have hw297_2 := hx297_2; have hw297_1 := hx297_1; have hw297_0 := hx297_0
       cases e297
       replace hx297_0 := (HB.out.cell (World.block_lt_of_cell? w _ hx297_0)).trans hx297_0; replace hx297_1 := (HB.out.cell (World.block_lt_of_cell? w _ hx297_1)).trans hx297_1; replace hx297_2 := (HB.out.cell (World.block_lt_of_cell? w _ hx297_2)).trans hx297_2; replace hx297_3 := (HB.out.cell (World.block_lt_of_cell? w _ hx297_3)).trans hx297_3; replace hx297_4 := (HB.out.cell (World.block_lt_of_cell? w _ hx297_4)).trans hx297_4; have HR297_3 := aM hi297_3; have HC297_3 := aM hl297_3; clear hi297_3 hl297_3; have HR297_4 := aM hi297_4; have HC297_4 := aM hl297_4; clear hi297_4 hl297_4; replace p297 := eq_true p297; replace q297 := eq_true q297; refine xc (n := 12) (S := fun w' => w'.cell? ⟨gb296, 0, none⟩ = some (.int .i64 a0_0) ∧ w'.cell? ⟨gb296, 1, none⟩ = some (.int .i64 a0_1) ∧ w'.cell? ⟨gb296, 2, none⟩ = some (.string a0_2) ∧ w'.cell? ⟨gb296, 3, none⟩ = some (.slice Ao12 y293.length co12) ∧ w'.cell? ⟨gb296, 4, none⟩ = some (u297004) ∧ w'.cell? ⟨gb288, 0, none⟩ = some (.int .i64 a0_0) ∧ w'.cell? ⟨gb288, 1, none⟩ = some (.int .i64 a0_1) ∧ w'.cell? ⟨gb288, 2, none⟩ = some (.string a0_2) ∧ w'.cell? ⟨gb288, 3, none⟩ = some (.slice A0_3 l0_3.length c0_3) ∧ w'.cell? ⟨gb288, 4, none⟩ = some (.slice (some ad297) l0_4.length c0_4) ∧ w'.cell? (ad297.add ((x4_1).toNat * 5)) = some (.int .i64 ((rd_T33 l0_4 x4_1).f0)) ∧ w'.cell? ⟨(ad297.add ((x4_1).toNat * 5)).block, (ad297.add ((x4_1).toNat * 5)).off + 1, none⟩ = some (.int .i64 ((rd_T33 l0_4 x4_1).f1)) ∧ w'.cell? ⟨(ad297.add ((x4_1).toNat * 5)).block, (ad297.add ((x4_1).toNat * 5)).off + 2, none⟩ = some (.string ((rd_T33 l0_4 x4_1).f2)) ∧ w'.cell? ⟨(ad297.add ((x4_1).toNat * 5)).block, (ad297.add ((x4_1).toNat * 5)).off + 3, none⟩ = some (.slice A297_3 ((rd_T33 l0_4 x4_1).f3).length c297_3) ∧ w'.cell? ⟨(ad297.add ((x4_1).toNat * 5)).block, (ad297.add ((x4_1).toNat * 5)).off + 4, none⟩ = some (.slice A297_4 ((rd_T33 l0_4 x4_1).f4).length c297_4)) (ds := [11]) (bZ 12 0) (by kernel_rfl) rfl rfl ⟨(za BK296.out 0).trans rfl, (za BK296.out 1).trans rfl, (za BK296.out 2).trans rfl, (za BK296.out 3).trans rfl, (za BK296.out 4).trans rfl, (za BK288.out 0).trans rfl, (za BK288.out 1).trans rfl, (za BK288.out 2).trans rfl, (za BK288.out 3).trans rfl, (za BK288.out 4).trans rfl, ((HB.out.cell (World.block_lt_of_cell? w _ hw297_0)).trans hw297_0), ((HB.out.cell (World.block_lt_of_cell? w _ hw297_1)).trans hw297_1), ((HB.out.cell (World.block_lt_of_cell? w _ hw297_2)).trans hw297_2), ((HB.out.cell (World.block_lt_of_cell? w _ hw297_3)).trans hw297_3), ((HB.out.cell (World.block_lt_of_cell? w _ hw297_4)).trans hw297_4)⟩ (fun hHeld => ?_); refine xk laws_from.tab5 laws_from.bits5 (fun HT_ HW_ => ?_); generalize wr.drew = w25 at HO_297003 HO_297004 BK288 BK289 BK296 HB HR297_3 HR297_4 hx297_0 hx297_1 hx297_2 hx297_3 hx297_4 hHeld ⊢; refine pU 0 (some 23) (bZ 12 1) rfl (ye HT_.out (by kernel_rfl)) ?_; refine pU 2 (some 25) (bZ 12 5) rfl (ye HT_.out (by kernel_rfl)) ?_; refine pU 4 (some 27) (bZ 12 21) rfl (ye HT_.out (by kernel_rfl)) ?_; refine tU 1 (some 24) (bZ 12 23) rfl (yg HT_.out HW_.out (by kernel_rfl)) (Or.inl ⟨by rfl, by rintro w' ⟨s0, s1, s2, s3, s4, s5, s6, s7, s8, s9, s10, s11, s12, s13, s14⟩; go_simp; with_reducible rfl⟩) hHeld ?_; refine tU 3 (some 26) (bZ 12 31) rfl (yg HT_.out HW_.out (by kernel_rfl)) (Or.inl ⟨by rfl, by rintro w' ⟨s0, s1, s2, s3, s4, s5, s6, s7, s8, s9, s10, s11, s12, s13, s14⟩; go_simp; with_reducible rfl⟩) hHeld ?_; refine pU 5 (some 28) (bZ 12 63) rfl (ye HT_.out (by kernel_rfl)) ?_; refine tU 6 (some 29) (bZ 12 127) rfl (yg HT_.out HW_.out (by kernel_rfl)) (Or.inl ⟨by rfl, by rintro w' ⟨s0, s1, s2, s3, s4, s5, s6, s7, s8, s9, s10, s11, s12, s13, s14⟩; go_simp; with_reducible rfl⟩) hHeld ?_; refine one_ (i := 7) (N := some 30) (bZ 12 255) rfl rfl (yu HT_.out (by kernel_rfl)) (by decide) (fun K hK => ?_); refine goes_ Tryd.func9 (by kernel_rfl) rfl #[.agg #[.int .i64 ((rd_T33 l0_4 x4_1).f0), .int .i64 ((rd_T33 l0_4 x4_1).f1), .string ((rd_T33 l0_4 x4_1).f2), .slice A297_3 ((rd_T33 l0_4 x4_1).f3).length c297_3, .slice A297_4 ((rd_T33 l0_4 x4_1).f4).length c297_4]] (by rfl) rfl rfl (by (try simp only [List.map_toArray, List.map_cons, List.map_nil]); first | done | rfl | (simp only [List.length_drop, List.length_take]; rfl)) ?_
       with_reducible refine (ih k1 (by have := HK1.out; omega) ((rd_T33 l0_4 x4_1).f0) ((rd_T33 l0_4 x4_1).f1) ((rd_T33 l0_4 x4_1).f2) _ _ ((rd_T33 l0_4 x4_1).f3) _ _ ((rd_T33 l0_4 x4_1).f4) t298 t299 t300 t301 t304 _ ?side1 ?side2 ?side3 ?side4 A20.out).mono ?_
       (case side1 => repeat (first | exact (Kd.C_below HR297_3.out HB.out) | (with_reducible refine Kd.C_alloc ?_ _) | (with_reducible refine Kd.C_drewN ?_ _) | (with_reducible refine Kd.C_drew ?_)))
       (case side2 => exact HC297_3.out)
       (case side3 => repeat (first | exact (Kd.C_below HR297_4.out HB.out) | (with_reducible refine Kd.C_alloc ?_ _) | (with_reducible refine Kd.C_drewN ?_ _) | (with_reducible refine Kd.C_drew ?_)))
       (case side4 => exact HC297_4.out)
       rintro e w26 ⟨v302, v305, rfl, ho0, ho1, hb⟩; refine ⟨_, rfl, ?_⟩; have n0_ := aM (Kd.R_elder' (by (with_reducible repeat (first | apply Kd.R_alloc | apply Kd.R_drewN | apply Kd.R_drew)); exact HO_297003.out) (Kd.R_base ho0) hb); have n1_ := aM (Kd.R_mono (Kd.R_told (Kd.R_told (Kd.R_old (by (with_reducible repeat (first | apply Kd.R_alloc | apply Kd.R_drewN | apply Kd.R_drew)); exact HO_297004.out) hb) (Kd.R_base ho0)) (Kd.R_base ho1)) (fun _ h_ => h_.1)); have n2_ := aM (Kd.R_lower (Kd.R_new' ho0 (Kd.R_lt (by (with_reducible repeat (first | apply Kd.R_alloc | apply Kd.R_drewN | apply Kd.R_drew)); exact HO_297003.out))) (zl (by repeat (first | (with_reducible first | exact HB.out | apply zb | apply ze | apply zj | refine zg ?_ GE288.out | refine zg ?_ GE289.out | refine zg ?_ GE296.out) | exact HB.out)))); have n3_ := aM (Kd.R_lower (Kd.R_newB (Kd.R_newB (Kd.R_new' (Kd.R_new' ho1 (Kd.R_lt (by (with_reducible repeat (first | apply Kd.R_alloc | apply Kd.R_drewN | apply Kd.R_drew)); exact HO_297003.out))) (Kd.R_lt (by (with_reducible repeat (first | apply Kd.R_alloc | apply Kd.R_drewN | apply Kd.R_drew)); exact HO_297004.out))) (g := gb289) (o := .cells #[.int .i64 0, .int .i64 0, .string (⟨#[]⟩ : ByteArray), .slice none 0 0, .slice none 0 0] 25 (0, 0)) (by (with_reducible repeat (first | refine zf ?_ _ | refine zh ?_ | refine zc ?_ _)); exact BK289.out)) (g := gb296) (o := .cells #[.int .i64 a0_0, .int .i64 a0_1, .string a0_2, .slice Ao12 y293.length co12, u297004] 25 (0, 0)) (by (with_reducible repeat (first | refine zf ?_ _ | refine zh ?_ | refine zc ?_ _)); exact BK296.out)) (zl (by repeat (first | (with_reducible first | exact HB.out | apply zb | apply ze | apply zj | refine zg ?_ GE288.out | refine zg ?_ GE289.out | refine zg ?_ GE296.out) | exact HB.out)))); have n4_ := aM (zo (g := gb288) (o := .cells #[.int .i64 a0_0, .int .i64 a0_1, .string a0_2, .slice A0_3 l0_3.length c0_3, .slice (some ad297) l0_4.length c0_4] 33 (0, 0)) (by (with_reducible repeat (first | refine zf ?_ _ | refine zh ?_ | refine zc ?_ _)); exact BK288.out) hb); have n5_ := aM (zo (g := gb289) (o := .cells #[.int .i64 0, .int .i64 0, .string (⟨#[]⟩ : ByteArray), .slice none 0 0, .slice none 0 0] 25 (0, 0)) (by (with_reducible repeat (first | refine zf ?_ _ | refine zh ?_ | refine zc ?_ _)); exact BK289.out) hb); have n6_ := aM (zo (g := gb296) (o := .cells #[.int .i64 a0_0, .int .i64 a0_1, .string a0_2, .slice Ao12 y293.length co12, u297004] 25 (0, 0)) (by (with_reducible repeat (first | refine zf ?_ _ | refine zh ?_ | refine zc ?_ _)); exact BK296.out) hb); have n7_ := aM (zq (by repeat (first | (with_reducible first | exact HB.out | apply zb | apply ze | apply zj | refine zg ?_ GE288.out | refine zg ?_ GE289.out | refine zg ?_ GE296.out) | exact HB.out)) hb); clear HO_297003 HO_297004 BK288 BK289 BK296 HB; have HO_297003 := n0_; have HO_297004 := n1_; have HO303 := n2_; have HO306 := n3_; have BK288 := n4_; have BK289 := n5_; have BK296 := n6_; have HB := n7_; clear n0_ n1_ n2_ n3_ n4_ n5_ n6_ n7_
       (try clear hb)
       (try clear hb2)
       (try clear hk)
       (try clear hi)
       (try clear ho0)
       (try clear ho1)
       obtain ⟨Ao28, co28, eo28⟩ := Kd.R_slice HO303.out
       (first | subst eo28 | (injection eo28 with f1_ f2_ f3_; have f4_ := f1_.symm; have f5_ := f3_.symm; clear f1_ f2_ f3_; subst f4_; subst f5_))
       obtain ⟨Ao29, co29, eo29⟩ := Kd.R_slice HO306.out
       (first | subst eo29 | (injection eo29 with f1_ f2_ f3_; have f4_ := f1_.symm; have f5_ := f3_.symm; clear f1_ f2_ f3_; subst f4_; subst f5_))
       refine hK.out _ _ ⟨(za BK296.out 0).trans rfl, (za BK296.out 1).trans rfl, (za BK296.out 2).trans rfl, (za BK296.out 3).trans rfl, (za BK296.out 4).trans rfl, (za BK288.out 0).trans rfl, (za BK288.out 1).trans rfl, (za BK288.out 2).trans rfl, (za BK288.out 3).trans rfl, (za BK288.out 4).trans rfl, ((HB.out.cell (World.block_lt_of_cell? w _ hw297_0)).trans hw297_0), ((HB.out.cell (World.block_lt_of_cell? w _ hw297_1)).trans hw297_1), ((HB.out.cell (World.block_lt_of_cell? w _ hw297_2)).trans hw297_2), ((HB.out.cell (World.block_lt_of_cell? w _ hw297_3)).trans hw297_3), ((HB.out.cell (World.block_lt_of_cell? w _ hw297_4)).trans hw297_4)⟩ (fun hHeld => ?_); clear hK K; refine zt (a' := ?_) ?_ ?_; rotate_left
       ·show Act.put _ (some 30) _ = _
        simp only [Act.put, sA, sB, sC, zw, zx]; rfl
       refine one_ (i := 8) (N := some 31) (bZ 12 511) rfl rfl (yu HT_.out (by kernel_rfl)) (by decide) (fun K hK => ?_); refine yo (w1 := ?_) (v := ?_) (by rfl) rfl ?_ ?_; rotate_left 2
       ·go_simp; constructor
        ·rfl
        ·rfl
       refine hK.out _ _ ⟨(za (zc BK296.out _) 0).trans rfl, (za (zc BK296.out _) 1).trans rfl, (za (zc BK296.out _) 2).trans rfl, (za (zc BK296.out _) 3).trans rfl, (za (zc BK296.out _) 4).trans rfl, (za (zc BK288.out _) 0).trans rfl, (za (zc BK288.out _) 1).trans rfl, (za (zc BK288.out _) 2).trans rfl, (za (zc BK288.out _) 3).trans rfl, (za (zc BK288.out _) 4).trans rfl, (World.cell?_alloc_lt _ _ _ (World.block_lt_of_cell? _ _ (((HB.out.cell (World.block_lt_of_cell? w _ hw297_0)).trans hw297_0)))).trans (((HB.out.cell (World.block_lt_of_cell? w _ hw297_0)).trans hw297_0)), (World.cell?_alloc_lt _ _ _ (World.block_lt_of_cell? _ _ (((HB.out.cell (World.block_lt_of_cell? w _ hw297_1)).trans hw297_1)))).trans (((HB.out.cell (World.block_lt_of_cell? w _ hw297_1)).trans hw297_1)), (World.cell?_alloc_lt _ _ _ (World.block_lt_of_cell? _ _ (((HB.out.cell (World.block_lt_of_cell? w _ hw297_2)).trans hw297_2)))).trans (((HB.out.cell (World.block_lt_of_cell? w _ hw297_2)).trans hw297_2)), (World.cell?_alloc_lt _ _ _ (World.block_lt_of_cell? _ _ (((HB.out.cell (World.block_lt_of_cell? w _ hw297_3)).trans hw297_3)))).trans (((HB.out.cell (World.block_lt_of_cell? w _ hw297_3)).trans hw297_3)), (World.cell?_alloc_lt _ _ _ (World.block_lt_of_cell? _ _ (((HB.out.cell (World.block_lt_of_cell? w _ hw297_4)).trans hw297_4)))).trans (((HB.out.cell (World.block_lt_of_cell? w _ hw297_4)).trans hw297_4))⟩ (fun hHeld => ?_); clear hK K; refine zt (a' := ?_) ?_ ?_; rotate_left
       ·show Act.put _ (some 31) _ = _
        simp only [Act.put, sA, sB, sC, zw, zx]; rfl
       refine one_ (i := 9) (N := some 32) (bZ 12 1023) rfl rfl (yu HT_.out (by kernel_rfl)) (by decide) (fun K hK => ?_); refine Kd.R_append_step k25 (w0 := w) w.heap.size (by rfl) (.tmp 24) (.tmp 31) 23 25 (.agg #[(.int .i64 0), (.int .i64 0), (.string ⟨#[]⟩), (.slice none 0 0), (.slice none 0 0)]) 80 rfl Tryd.underlying23 yw rfl (by decide) (by omega) u297004 x297004_1 (⟨t298, t299, t300, t301, t304⟩ : S25) [.int .i64 t298, .int .i64 t299, .string t300, .slice Ao28 t301.length co28, .slice Ao29 t304.length co29] (fun k_ => some k_ ≠ (.slice Ao12 y293.length co12 : Value).ownBlock ∧ k_ ≠ gb289 ∧ k_ ≠ gb296) (fun k_ => ((fun k_ => some k_ ≠ (.slice Ao12 y293.length co12 : Value).ownBlock ∧ k_ ≠ gb289 ∧ k_ ≠ gb296)) k_ ∧ some k_ ≠ (u297004 : Value).ownBlock) rfl rfl ?aP (fun _ hk => hk) ?aF ?aO ?aB ?aS ?aL ?_
       (case aP => exact k25_mkM _ _ _ (⟨t298, t299, t300, t301, t304⟩ : S25) (Kd.R_mono (Kd.R_types (Kd.R_types (Kd.R_apart' (HO303.out) (Kd.R_typed HO_297004.out) (by decide)) BK289.out (by decide)) BK296.out (by decide)) (fun k_ hk => ⟨⟨hk.1.1.1.2, ⟨hk.1.2, hk.2⟩⟩, hk.1.1.2⟩)) (Kd.R_mono (HO306.out) (fun k_ hk => ⟨⟨hk.1.1.1.2, ⟨hk.1.2, hk.2⟩⟩, hk.1.1.2⟩)))
       (case aB => exact (by repeat (first | (with_reducible first | exact HB.out | apply zb | apply ze | apply zj | refine zg ?_ GE288.out | refine zg ?_ GE289.out | refine zg ?_ GE296.out) | exact HB.out)))
       (case aF => exact (fun k_ hk => ⟨Kd.fresh' (Kd.R_lt (by (with_reducible repeat (first | apply Kd.R_alloc | apply Kd.R_drewN | apply Kd.R_drew)); exact HO_297003.out)) k_ hk, Kd.freshB (g := gb289) (o := .cells #[.int .i64 0, .int .i64 0, .string (⟨#[]⟩ : ByteArray), .slice none 0 0, .slice none 0 0] 25 (0, 0)) (by (with_reducible repeat (first | refine zf ?_ _ | refine zh ?_ | refine zc ?_ _)); exact BK289.out) k_ hk, Kd.freshB (g := gb296) (o := .cells #[.int .i64 a0_0, .int .i64 a0_1, .string a0_2, .slice Ao12 y293.length co12, u297004] 25 (0, 0)) (by (with_reducible repeat (first | refine zf ?_ _ | refine zh ?_ | refine zc ?_ _)); exact BK296.out) k_ hk⟩))
       (case aO => exact (by (with_reducible repeat (first | apply Kd.R_alloc | apply Kd.R_drewN | apply Kd.R_drew)); exact Kd.R_mono HO_297004.out (fun _ hk => ⟨hk.1.1.1, ⟨hk.1.1.2.1, hk.1.1.2.2⟩⟩)))
       (case aS => exact (zl (by repeat (first | (with_reducible first | exact HB.out | apply zb | apply ze | apply zj | refine zg ?_ GE288.out | refine zg ?_ GE289.out | refine zg ?_ GE296.out) | exact HB.out))))
       (case aL => have := LMc21.out; omega)
       intro v308 w27 ho hb hg hat; rw [← Ny307.out] at ho; have n0_ := aM (Kd.R_over' (by (with_reducible repeat (first | apply Kd.R_alloc | apply Kd.R_drewN | apply Kd.R_drew)); exact HO_297003.out) (Kd.R_typed (by (with_reducible repeat (first | apply Kd.R_alloc | apply Kd.R_drewN | apply Kd.R_drew)); exact HO_297004.out)) (by decide) hg); have n1_ := aM (ym (g := gb288) (o := .cells #[.int .i64 a0_0, .int .i64 a0_1, .string a0_2, .slice A0_3 l0_3.length c0_3, .slice (some ad297) l0_4.length c0_4] 33 (0, 0)) (by (with_reducible repeat (first | refine zf ?_ _ | refine zh ?_ | refine zc ?_ _)); exact BK288.out) hg (Kd.R_ne HO_297004.out BK288.out (by decide))); have n2_ := aM (ym (g := gb289) (o := .cells #[.int .i64 0, .int .i64 0, .string (⟨#[]⟩ : ByteArray), .slice none 0 0, .slice none 0 0] 25 (0, 0)) (by (with_reducible repeat (first | refine zf ?_ _ | refine zh ?_ | refine zc ?_ _)); exact BK289.out) hg (Kd.R_away HO_297004.out (fun _ hk => hk.1.1.2.1))); have n3_ := aM (ym (g := gb296) (o := .cells #[.int .i64 a0_0, .int .i64 a0_1, .string a0_2, .slice Ao12 y293.length co12, u297004] 25 (0, 0)) (by (with_reducible repeat (first | refine zf ?_ _ | refine zh ?_ | refine zc ?_ _)); exact BK296.out) hg (Kd.R_away HO_297004.out (fun _ hk => hk.1.1.2.2))); have n4_ := aM (hb); have n5_ := aM (ho); clear HO_297003 BK288 BK289 BK296 HB HO_297004 HO303 HO306; have HO_297003 := n0_; have BK288 := n1_; have BK289 := n2_; have BK296 := n3_; have HB := n4_; have HO309 := n5_; clear n0_ n1_ n2_ n3_ n4_ n5_ ho hb hg hat; obtain ⟨Ao30, co30, eo30⟩ := Kd.R_slice HO309.out
       (first | subst eo30 | (injection eo30 with f1_ f2_ f3_; have f4_ := f1_.symm; have f5_ := f3_.symm; clear f1_ f2_ f3_; subst f4_; subst f5_))
       refine hK.out _ _ ⟨(za BK296.out 0).trans rfl, (za BK296.out 1).trans rfl, (za BK296.out 2).trans rfl, (za BK296.out 3).trans rfl, (za BK296.out 4).trans rfl, (za BK288.out 0).trans rfl, (za BK288.out 1).trans rfl, (za BK288.out 2).trans rfl, (za BK288.out 3).trans rfl, (za BK288.out 4).trans rfl, ((HB.out.cell (World.block_lt_of_cell? w _ hw297_0)).trans hw297_0), ((HB.out.cell (World.block_lt_of_cell? w _ hw297_1)).trans hw297_1), ((HB.out.cell (World.block_lt_of_cell? w _ hw297_2)).trans hw297_2), ((HB.out.cell (World.block_lt_of_cell? w _ hw297_3)).trans hw297_3), ((HB.out.cell (World.block_lt_of_cell? w _ hw297_4)).trans hw297_4)⟩ (fun hHeld => ?_); clear hK K; refine zt (a' := ?_) ?_ ?_; rotate_left
       ·show Act.put _ (some 32) _ = _
        simp only [Act.put, sA, sB, sC, zw, zx]; rfl
       refine pU 10 (some 33) (bZ 12 2047) rfl (ye HT_.out (by kernel_rfl)) ?_; refine xl (i := 11) (N := none) (bZ 12 4095) rfl rfl (yu HT_.out (by kernel_rfl)) (by decide) (fun K hK => ?_); have hs31 : w27.cell? ⟨gb296, 4, none⟩ = some (u297004) := (za BK296.out 4).trans rfl; have hfs31 := zi BK296.out 4; have hns31_0 := NB288_296.out; have hns31_1 := NB289_296.out; have hms31_0 := NB296_288.out; have hms31_1 := NB296_289.out; refine skip_ (w1 := ?_) (by rfl) rfl ?_ ?_; rotate_left
       ·go_simp; rfl
       refine hK.out _ _ ?_; clear hK K; refine xp (done_of HT_.out (by kernel_rfl)) ?_
       try go_wp2
       go_roundg k1
       case measure => have := HK1.out; omega
       case rel => exact ⟨(wrap64 (x4_1 + 1)), (y307), (.slice Ao30 y307.length co30), (by first | rfl | (simp; done) | (simp [*]; done)), H', ⟨by have := HK1.out; omega⟩, ⟨by (with_reducible repeat (first | apply Kd.R_alloc | apply Kd.R_drewN | apply Kd.R_drew)); exact Kd.R_mono (Kd.R_far (p := ⟨gb296, 4, none⟩) (Kd.R_types HO_297003.out BK296.out (by decide)) (fun _ hk => hk.2) (.slice Ao30 y307.length co30)) (fun _ hk => trivial)⟩, ⟨by (with_reducible repeat (first | apply Kd.R_alloc | apply Kd.R_drewN | apply Kd.R_drew)); exact Kd.R_mono (Kd.R_far (p := ⟨gb296, 4, none⟩) (Kd.R_mono HO309.out (fun k_ hk => (⟨hk, hk.2.2⟩ : _ ∧ k_ ≠ gb296))) (fun _ hk => hk.2) (.slice Ao30 y307.length co30)) (fun _ hk => ⟨hk.1.1, ⟨hk.1.2.1, hk.1.2.2⟩⟩)⟩, ⟨by (with_reducible repeat (first | refine zf ?_ _ | refine zh ?_ | refine zc ?_ _)); refine yc ?_ NB288_296.out _; (with_reducible repeat (first | refine zf ?_ _ | refine zh ?_ | refine zc ?_ _)); exact BK288.out⟩, ⟨by (with_reducible repeat (first | refine zf ?_ _ | refine zh ?_ | refine zc ?_ _)); refine yc ?_ NB289_296.out _; (with_reducible repeat (first | refine zf ?_ _ | refine zh ?_ | refine zc ?_ _)); exact BK289.out⟩, ⟨by (with_reducible repeat (first | refine zf ?_ _ | refine zh ?_ | refine zc ?_ _)); refine zn (cs := #[.int .i64 a0_0, .int .i64 a0_1, .string a0_2, .slice Ao12 y293.length co12, u297004]) ?_ 4 _ rfl; (with_reducible repeat (first | refine zf ?_ _ | refine zh ?_ | refine zc ?_ _)); exact BK296.out⟩, ⟨by repeat (first | (with_reducible first | exact HB.out | apply zb | apply ze | apply zj | refine zg ?_ GE288.out | refine zg ?_ GE289.out | refine zg ?_ GE296.out) | exact HB.out)⟩⟩
      ·rw [if_neg c21] at H; exact absurd H (by simp)
     ·rw [if_neg c19] at H; exact absurd H (by simp)
    ·rw [if_neg c18] at H; have c18b0 : decide (x4_1 < (l0_4.length : Int)) = false := decide_eq_false c18; clear c18; simp only [Option.some.injEq, Prod.mk.injEq] at H; obtain ⟨rfl, rfl, rfl, rfl, rfl⟩ := H; have hnb32 := NB288_289.out; have hnc32 := NB289_288.out; have hnb33 := NB288_296.out; have hnc33 := NB296_288.out; have hcz34_0 : wr.cell? ⟨gb288, 0, none⟩ = some (.int .i64 a0_0) := (za BK288.out 0).trans rfl; have hcz34_1 : wr.cell? ⟨gb288, 1, none⟩ = some (.int .i64 a0_1) := (za BK288.out 1).trans rfl; have hcz34_2 : wr.cell? ⟨gb288, 2, none⟩ = some (.string a0_2) := (za BK288.out 2).trans rfl; have hcz34_3 : wr.cell? ⟨gb288, 3, none⟩ = some (.slice A0_3 l0_3.length c0_3) := (za BK288.out 3).trans rfl; have hcz34_4 : wr.cell? ⟨gb288, 4, none⟩ = some (.slice A0_4 l0_4.length c0_4) := (za BK288.out 4).trans rfl; have hfz34_0 := zi BK288.out 0; have hfz34_1 := zi BK288.out 1; have hfz34_2 := zi BK288.out 2; have hfz34_3 := zi BK288.out 3; have hfz34_4 := zi BK288.out 4; have hnb35 := NB296_289.out; have hnc35 := NB289_296.out; have hcz36_0 : wr.cell? ⟨gb296, 0, none⟩ = some (.int .i64 a0_0) := (za BK296.out 0).trans rfl; have hcz36_1 : wr.cell? ⟨gb296, 1, none⟩ = some (.int .i64 a0_1) := (za BK296.out 1).trans rfl; have hcz36_2 : wr.cell? ⟨gb296, 2, none⟩ = some (.string a0_2) := (za BK296.out 2).trans rfl; have hcz36_3 : wr.cell? ⟨gb296, 3, none⟩ = some (.slice Ao12 y293.length co12) := (za BK296.out 3).trans rfl; have hcz36_4 : wr.cell? ⟨gb296, 4, none⟩ = some (u297004) := (za BK296.out 4).trans rfl; have hfz36_0 := zi BK296.out 0; have hfz36_1 := zi BK296.out 1; have hfz36_2 := zi BK296.out 2; have hfz36_3 := zi BK296.out 3; have hfz36_4 := zi BK296.out 4; have hcz37_0 : wr.cell? ⟨gb289, 0, none⟩ = some (.int .i64 0) := (za BK289.out 0).trans rfl; have hcz37_1 : wr.cell? ⟨gb289, 1, none⟩ = some (.int .i64 0) := (za BK289.out 1).trans rfl; have hcz37_2 : wr.cell? ⟨gb289, 2, none⟩ = some (.string (⟨#[]⟩ : ByteArray)) := (za BK289.out 2).trans rfl; have hcz37_3 : wr.cell? ⟨gb289, 3, none⟩ = some (.slice none 0 0) := (za BK289.out 3).trans rfl; have hcz37_4 : wr.cell? ⟨gb289, 4, none⟩ = some (.slice none 0 0) := (za BK289.out 4).trans rfl; have hfz37_0 := zi BK289.out 0; have hfz37_1 := zi BK289.out 1; have hfz37_2 := zi BK289.out 2; have hfz37_3 := zi BK289.out 3; have hfz37_4 := zi BK289.out 4; obtain ⟨Ao38, co38, eo38⟩ := Kd.R_slice HO_297004.out; subst eo38
     go_wp2
     refine bodyPost_ret (results_cell_row rfl _ _ gb289 25 #[.int .i64 a0_0, .int .i64 a0_1, .string a0_2, .slice Ao12 y293.length co12, .slice Ao38 x297004_1.length co38] (0, 0) _ rfl (by (with_reducible repeat (first | refine zf ?_ _ | refine zh ?_ | refine zc ?_ _)); refine zn (cs := #[.int .i64 a0_0, .int .i64 a0_1, .string a0_2, .slice Ao12 y293.length co12, .slice none 0 0]) ?_ 4 _ rfl; (with_reducible repeat (first | refine zf ?_ _ | refine zh ?_ | refine zc ?_ _)); refine zn (cs := #[.int .i64 a0_0, .int .i64 a0_1, .string a0_2, .slice none 0 0, .slice none 0 0]) ?_ 3 _ rfl; (with_reducible repeat (first | refine zf ?_ _ | refine zh ?_ | refine zc ?_ _)); refine zn (cs := #[.int .i64 a0_0, .int .i64 a0_1, .string (⟨#[]⟩ : ByteArray), .slice none 0 0, .slice none 0 0]) ?_ 2 _ rfl; (with_reducible repeat (first | refine zf ?_ _ | refine zh ?_ | refine zc ?_ _)); refine zn (cs := #[.int .i64 a0_0, .int .i64 0, .string (⟨#[]⟩ : ByteArray), .slice none 0 0, .slice none 0 0]) ?_ 1 _ rfl; (with_reducible repeat (first | refine zf ?_ _ | refine zh ?_ | refine zc ?_ _)); refine zn (cs := #[.int .i64 0, .int .i64 0, .string (⟨#[]⟩ : ByteArray), .slice none 0 0, .slice none 0 0]) ?_ 0 _ rfl; (with_reducible repeat (first | refine zf ?_ _ | refine zh ?_ | refine zc ?_ _)); exact BK289.out) Tryd.underlying25 rfl (by kernel_rfl)) rfl ?_; exact ⟨_, _, by first | rfl | (simp [zv, zu] <;> rfl) | (simp [*, zv, zu] <;> rfl), by (with_reducible repeat (first | apply Kd.R_alloc | apply Kd.R_drewN | apply Kd.R_drew)); exact Kd.R_mono (Kd.R_far (p := ⟨gb289, 4, none⟩) (Kd.R_far (p := ⟨gb289, 3, none⟩) (Kd.R_far (p := ⟨gb289, 2, none⟩) (Kd.R_far (p := ⟨gb289, 1, none⟩) (Kd.R_far (p := ⟨gb289, 0, none⟩) (Kd.R_types HO_297003.out BK289.out (by decide)) (fun _ hk => hk.2) (.int .i64 a0_0)) (fun _ hk => hk.2) (.int .i64 a0_1)) (fun _ hk => hk.2) (.string a0_2)) (fun _ hk => hk.2) (.slice Ao12 y293.length co12)) (fun _ hk => hk.2) (.slice Ao38 x297004_1.length co38)) (fun _ hk => trivial), by (with_reducible repeat (first | apply Kd.R_alloc | apply Kd.R_drewN | apply Kd.R_drew)); exact Kd.R_mono (Kd.R_far (p := ⟨gb289, 4, none⟩) (Kd.R_far (p := ⟨gb289, 3, none⟩) (Kd.R_far (p := ⟨gb289, 2, none⟩) (Kd.R_far (p := ⟨gb289, 1, none⟩) (Kd.R_far (p := ⟨gb289, 0, none⟩) (Kd.R_mono HO_297004.out (fun k_ hk => (⟨hk, hk.2.1⟩ : _ ∧ k_ ≠ gb289))) (fun _ hk => hk.2) (.int .i64 a0_0)) (fun _ hk => hk.2) (.int .i64 a0_1)) (fun _ hk => hk.2) (.string a0_2)) (fun _ hk => hk.2) (.slice Ao12 y293.length co12)) (fun _ hk => hk.2) (.slice Ao38 x297004_1.length co38)) (fun _ hk => hk.1.1), by repeat (first | (with_reducible first | exact HB.out | apply zb | apply ze | apply zj | refine zg ?_ GE288.out | refine zg ?_ GE289.out | refine zg ?_ GE296.out) | exact HB.out)⟩
 ·rw [if_neg c2] at H; exact absurd H (by simp)
end Go.Proofs.YtmpmekliaicecaaDoor.PS
namespace Go.Proofs.YtmpmekliaicecaaDoor.Tr
open Go.RowKit Go.Proofs.YtmpmekliaicecaaDoorW.PrintWords Go.Proofs.YtmpmekliaicecaaDoorW.PrintLast Go.Proofs.YtmpmekliaicecaaDoor.Str Go.Proofs.YtmpmekliaicecaaDoor.Kit Go.Proofs.YtmpmekliaicecaaDoor.MapV Go.Proofs.YtmpmekliaicecaaDoor.Frame Go.Proofs.YtmpmekliaicecaaDoor.PS
mutual
def fromI : VI → VS
 | ⟨k, n, t, ks, vs⟩ => ⟨k, n, t, ks, fromL vs⟩
def fromL : List VI → List VS
 | [] => []
 | v :: r => fromI v :: fromL r
end
theorem fromL_map : ∀ vs, fromL vs = vs.map fromI
 | [] => by simp [fromL]
 | v :: r => by simp [fromL, fromL_map r]
theorem fromL_length (vs : List VI) : (fromL vs).length = vs.length := by rw [fromL_map, List.length_map]
theorem etaS' (x : VS) : (⟨x.f0, x.f1, x.f2, x.f3, x.f4⟩ : VS) = x := by cases x; rfl
theorem fromI_eq (x : VI) : fromI x = ⟨x.f0, x.f1, x.f2, x.f3, fromL x.f4⟩ := by cases x; simp [fromI]
theorem fromL_drop {vs : List VI} {i : Nat} (h : i < vs.length) : (fromL vs).drop i = fromI vs[i] :: (fromL vs).drop (i + 1) := by
 rw [List.drop_eq_getElem_cons (by rw [fromL_length]; exact h)]; simp only [fromL_map, List.getElem_map]
theorem rdI' {xs : List VI} {i : Nat} (h : i < xs.length) : rd_T33 xs (i : Int) = xs[i] := by
 unfold rd_T33
 simp [List.getD_eq_getElem?_getD, h]
theorem wrapF (i : Nat) (h : i < 4611686018427387904) : wrap64 ((i : Int) + 1) = ((i + 1 : Nat) : Int) := by unfold wrap64; omega
def tupS (x : VS) : Int × Int × BA × List BA × List VS := (x.f0, x.f1, x.f2, x.f3, x.f4)
def FromEv (x : VI) : Prop := Ev (fun k => laws_from.f k x.f0 x.f1 x.f2 x.f3 x.f4) (tupS (fromI x))
theorem ev_from_l0 (a b : Int) (c : BA) (ks : List BA) (vs : List VI) (p q : Int) (r : BA) (rk : List BA) (hvl : vs.length ≤ 1759218604400) (hch : ∀ v, v ∈ vs → FromEv v) : ∀ (d i : Nat) (acc : List VS), i + d = vs.length → acc.length = i →
  Ev (fun k => laws_from.l0 k (i : Int) a b c ks vs p q r rk acc) (p, q, r, rk, acc ++ (fromL vs).drop i) := by
 intro d
 induction d with
 | zero =>
  intro i acc hi ha; refine Ev.step (fun k => ?_) (Ev.now _); simp only [laws_from.l0]; rw [if_neg (by omega), List.drop_eq_nil_of_le (by rw [fromL_length]; omega), List.append_nil]
 | succ d ih =>
  intro i acc hi ha
  have hlt : i < vs.length := by omega
  refine Ev.step (f := fun k => (laws_from.f k vs[i].f0 vs[i].f1 vs[i].f2 vs[i].f3 vs[i].f4).bind fun bt => laws_from.l0 k ((i + 1 : Nat) : Int) a b c ks vs p q r rk (acc ++ [(⟨bt.1, bt.2.1, bt.2.2.1, bt.2.2.2.1, bt.2.2.2.2⟩ : VS)])) (fun k => ?_) ?_
  ·simp only [laws_from.l0]; rw [if_pos (by omega), if_pos (by omega), rdI' hlt]; refine congrArg _ (funext fun bt => ?_); rw [if_pos (by omega), wrapF i (by omega)]
  ·refine Ev.bind (hch vs[i] (List.getElem_mem hlt)) ?_; have := ih (i + 1) (acc ++ [fromI vs[i]]) (by omega) (by simp [ha]); rw [List.append_assoc, List.singleton_append, ← fromL_drop hlt] at this; simp only [tupS, etaS']; exact this
theorem ev_from : ∀ x : VI, Small x → FromEv x := by
 intro x hx
 induction hx with
 | mk x hk hkl hvl hv ih =>
  obtain ⟨k, n, t, ks, vs⟩ := x; have hkl' : ks.length ≤ 8796093022000 := hkl; have h := ev_from_l0 k n t ks vs k n t ks hvl ih vs.length 0 [] (by omega) rfl; rw [List.drop_zero, List.nil_append] at h
  unfold FromEv
  rw [fromI_eq]; refine Ev.step (fun j => ?_) h; simp only [laws_from.f, Option.bind_some, List.nil_append, List.length_nil, Nat.zero_add]; rw [if_pos (by omega)]; rfl
end Go.Proofs.YtmpmekliaicecaaDoor.Tr
namespace Go.Proofs.YtmpmekliaicecaaDoor.Tr
open Go.RowKit Go.Proofs.YtmpmekliaicecaaDoorW.PrintWords Go.Proofs.YtmpmekliaicecaaDoorW.PrintLast Go.Proofs.YtmpmekliaicecaaDoor.Str Go.Proofs.YtmpmekliaicecaaDoor.Kit Go.Proofs.YtmpmekliaicecaaDoor.MapV Go.Proofs.YtmpmekliaicecaaDoor.Frame Go.Proofs.YtmpmekliaicecaaDoor.PS
open Go.Proofs.YtmpmekliaicecaaDoor.Val (place placeI placeB placeI_hit placeI_end)
inductive Canon : VS → Prop
 | null : Canon (leaf 0 0 ⟨#[]⟩)
 | bool (b : Bool) : Canon (leaf 1 (if b then 1 else 0) ⟨#[]⟩)
 | int (n : Int) : Canon (leaf 2 n ⟨#[]⟩)
 | text (s : BA) : Canon (leaf 3 0 s)
 | list (l : List VS) (h : ∀ v, v ∈ l → Canon v) : Canon ⟨4, 0, ⟨#[]⟩, [], l⟩
 | map (ks : List BA) (vs : List VS) (hr : RiseK ks) (hl : ks.length = vs.length) (h : ∀ v, v ∈ vs → Canon v) : Canon ⟨5, 0, ⟨#[]⟩, ks, vs⟩
theorem canon_fit : ∀ x : VS, SmallS x → Canon (fitV x) := by
 intro x hx
 induction hx with
 | mk x ht hk hkl hvl hv ih =>
  obtain ⟨k, n, t, ks, vs⟩ := x
  have hch : ∀ v, v ∈ fitL vs → Canon v := fun v hv' => by
   rw [fitL_map] at hv'; obtain ⟨u, hu, rfl⟩ := List.mem_map.1 hv'; exact ih u hu
  by_cases h1 : k = 1
  ·subst h1
   by_cases hn : n = 0
   ·have := Canon.bool false
    simpa [fitV, hn] using this
   ·have := Canon.bool true
    simpa [fitV, hn] using this
  by_cases h2 : k = 2
  ·subst h2; have := Canon.int n; simpa [fitV] using this
  by_cases h3 : k = 3
  ·subst h3; have := Canon.text t; simpa [fitV] using this
  by_cases h4 : k = 4
  ·subst h4; have := Canon.list (fitL vs) hch
   simpa [fitV] using this
  by_cases h5 : k = 5
  ·subst h5; obtain ⟨a, b, c, d, e, f⟩ := fitW_facts ks (fitL vs) [] [] rfl List.Pairwise.nil
   have := Canon.map _ _ b a (fun v h => by
    rcases f v h with h | h
    ·cases h
    ·exact hch v h)
   simpa [fitV] using this
  ·have := Canon.null
   simpa [fitV, h1, h2, h3, h4, h5] using this
theorem zip_keys {α : Type} : ∀ (ks : List BA) (ys : List α), ks.length = ys.length → ((ks.map lb).zip ys).map (fun p => (⟨p.1.toArray⟩ : BA)) = ks
 | [], _, _ => rfl
 | k :: ks, y :: ys, h => by
  rw [List.map_cons, List.zip_cons_cons, List.map_cons, zip_keys ks ys (by simpa using h)]
 | _ :: _, [], h => by simp at h
theorem zip_vals {α β : Type} (g : α → β) : ∀ (ks : List BA) (ys : List α), ks.length = ys.length → ((ks.map lb).zip ys).map (fun p => g p.2) = ys.map g
 | [], [], _ => rfl
 | k :: ks, y :: ys, h => by
  rw [List.map_cons, List.zip_cons_cons, List.map_cons, zip_vals g ks ys (by simpa using h), List.map_cons]
 | _ :: _, [], h => by simp at h
 | [], _ :: _, h => by simp at h
theorem canon_anyOf_map {ks : List BA} {vs : List VS} (hr : RiseK ks) (n : Int) (t : BA) : anyOf (toI ⟨5, n, t, ks, vs⟩) = .map ((ks.map lb).zip (anyL (toL vs))) := by
 rw [toI_eq]; simp only [anyOf]; rw [if_neg (by decide), if_neg (by decide), if_neg (by decide), if_neg (by decide), if_pos trivial, fitM_id (pairs_rise hr)]
theorem canon_back {x : VS} (h : Canon x) : valOf (anyOf (toI x)) = toI x := by
 induction h with
 | null => simp [leaf, toI, toL, anyOf, valOf]
 | bool b => cases b <;> simp [leaf, toI, toL, anyOf, valOf]
 | int n => simp [leaf, toI, toL, anyOf, valOf]
 | text s => simp [leaf, toI, toL, anyOf, valOf]
 | list l h ih =>
  simp only [toI_eq, anyOf]; rw [if_neg (by decide), if_neg (by decide), if_neg (by decide), if_pos trivial]; simp only [valOf]; rw [valL_map, xj, toL_map, List.map_map, List.map_map]; have e : l.map ((valOf ∘ anyOf) ∘ toI) = l.map toI := List.map_congr_left (fun v hv => ih v hv); rw [e]
 | map ks vs hr hl h ih =>
  have hl2 : ks.length = (anyL (toL vs)).length := by rw [xu, toL_length]; exact hl
  rw [canon_anyOf_map hr, toI_eq]; simp only [valOf]; rw [valM_map, zip_keys ks _ hl2, zip_vals valOf ks _ hl2, xj, toL_map, List.map_map, List.map_map]; have e : vs.map ((valOf ∘ anyOf) ∘ toI) = vs.map toI := List.map_congr_left (fun v hv => ih v hv); rw [e]
mutual
theorem from_to : ∀ x : VS, fromI (toI x) = x
 | ⟨k, n, t, ks, vs⟩ => by rw [toI, fromI, from_toL vs]
theorem from_toL : ∀ l : List VS, fromL (toL l) = l
 | [] => by simp [toL, fromL]
 | v :: r => by rw [toL, fromL, from_to v, from_toL r]
end
theorem with_mput {α β : Type} (g : α → β) : ∀ (ks : List BA) (vs : List α) (key : BA) (x : α), RiseK ks → ks.length = vs.length → ((withK ks key).map lb).zip ((withV ks vs key x).map g) = mput ((ks.map lb).zip (vs.map g)) (lb key) (g x)
 | [], [], key, x, _, _ => rfl
 | k :: ks, v :: vs, key, x, hr, hl => by
  obtain ⟨h1, h2⟩ := List.pairwise_cons.1 hr
  have hl' : ks.length = vs.length := by simpa using hl
  rw [List.map_cons, List.map_cons, List.zip_cons_cons]
  by_cases hlt : lb k < lb key
  ·obtain ⟨e1, e2⟩ := place_cons_lt (r := ks) hlt
   have ek : withK (k :: ks) key = k :: withK ks key := by
    unfold withK
    rw [e1, e2]
    split <;> rfl
   have ev : withV (k :: ks) (v :: vs) key x = v :: withV ks vs key x := by
    unfold withV
    rw [e1, e2]
    split <;> rfl
   rw [ek, ev, List.map_cons, List.map_cons, List.zip_cons_cons, with_mput g ks vs key x h2 hl', mput_lt hlt]
  ·obtain ⟨e1, e2⟩ := place_cons_ge (r := ks) hlt
   by_cases he : lb k = lb key
   ·have hb : (k.toList == key.toList) = true := by rw [xa, xa, he]; exact beq_self_eq_true _
    have ek : withK (k :: ks) key = k :: ks := by
     unfold withK
     rw [e2, hb, if_pos rfl]
    have ev : withV (k :: ks) (v :: vs) key x = x :: vs := by
     unfold withV
     rw [e2, e1, hb, if_pos rfl]; rfl
    rw [ek, ev, List.map_cons, List.map_cons, List.zip_cons_cons, mput_eq he (fun p hp => ?_), he]; obtain ⟨a, b⟩ := p; obtain ⟨s, hs, rfl⟩ := List.mem_map.1 (List.of_mem_zip hp).1; rw [← he]; exact h1 s hs
   ·have hb : (k.toList == key.toList) = false := by rw [xa, xa]; simpa using he
    have hgt : lb key < lb k := by
     rcases lt_total (lb k) (lb key) with e | e | e
     ·exact absurd e hlt
     ·exact absurd e he
     ·exact e
    have ek : withK (k :: ks) key = key :: k :: ks := by
     unfold withK
     rw [e2, e1, hb, if_neg (by decide)]; rfl
    have ev : withV (k :: ks) (v :: vs) key x = x :: v :: vs := by
     unfold withV
     rw [e2, e1, hb, if_neg (by decide)]; rfl
    rw [ek, ev, List.map_cons, List.map_cons, List.map_cons, List.map_cons, List.zip_cons_cons, List.zip_cons_cons, mput_gt (fun p hp => ?_)]
    rcases List.mem_cons.1 hp with rfl | hp
    ·exact hgt
    ·obtain ⟨a, b⟩ := p; obtain ⟨s, hs, rfl⟩ := List.mem_map.1 (List.of_mem_zip hp).1; exact lt_trans hgt (h1 s hs)
 | _ :: _, [], _, _, _, h => by simp at h
 | [], _ :: _, _, _, _, h => by simp at h
end Go.Proofs.YtmpmekliaicecaaDoor.Tr
namespace Go.Proofs.YtmpmekliaicecaaDoor.Tr
open Go.RowKit Go.Proofs.YtmpmekliaicecaaDoorW.PrintWords Go.Proofs.YtmpmekliaicecaaDoorW.PrintLast Go.Proofs.YtmpmekliaicecaaDoor.Str Go.Proofs.YtmpmekliaicecaaDoor.Kit Go.Proofs.YtmpmekliaicecaaDoor.MapV Go.Proofs.YtmpmekliaicecaaDoor.Frame Go.Proofs.YtmpmekliaicecaaDoor.PS
mutual
def volY : Y → Nat
 | .text s => s.size + 1
 | .list l => volYl l + 1
 | .map m => volYm m + 1
 | _ => 1
def volYl : List Y → Nat
 | [] => 0
 | y :: r => volY y + volYl r
def volYm : List (Bs × Y) → Nat
 | [] => 0
 | p :: r => volYp p + volYm r
def volYp : Bs × Y → Nat
 | (k, y) => k.length + volY y
end
theorem volY_pos : ∀ y : Y, 1 ≤ volY y
 | .null => by simp [volY]
 | .bool _ => by simp [volY]
 | .int _ => by simp [volY]
 | .text _ => by simp [volY]
 | .list _ => by simp [volY]
 | .map _ => by simp [volY]
theorem volYl_mem {y : Y} : ∀ {l : List Y}, y ∈ l → volY y ≤ volYl l
 | [], h => by cases h
 | x :: r, h => by
  simp only [volYl]
  rcases List.mem_cons.1 h with rfl | h
  ·omega
  ·have := volYl_mem h; omega
theorem volYm_mem {p : Bs × Y} : ∀ {l : List (Bs × Y)}, p ∈ l → p.1.length + volY p.2 ≤ volYm l
 | [], h => by cases h
 | x :: r, h => by
  simp only [volYm]
  rcases List.mem_cons.1 h with rfl | h
  ·obtain ⟨k, y⟩ := p; simp only [volYp]; omega
  ·have := volYm_mem h; omega
theorem volYl_len : ∀ l : List Y, l.length ≤ volYl l
 | [] => Nat.zero_le _
 | x :: r => by
  have := volYl_len r; have := volY_pos x; simp only [volYl, List.length_cons]; omega
theorem volYm_len : ∀ l : List (Bs × Y), l.length ≤ volYm l
 | [] => Nat.zero_le _
 | (k, y) :: r => by
  have := volYm_len r; have := volY_pos y; simp only [volYm, volYp, List.length_cons]; omega
theorem any_list (n : Int) (t : BA) (ks : List BA) (l : List VS) : anyOf (toI ⟨4, n, t, ks, l⟩) = .list (l.map (fun v => anyOf (toI v))) := by
 have e : anyOf (toI ⟨4, n, t, ks, l⟩) = .list (anyL (toL l)) := by
  rw [toI_eq]; simp only [anyOf]; rw [if_neg (by decide), if_neg (by decide), if_neg (by decide), if_pos trivial]
 rw [e, xj, toL_map, List.map_map]; rfl
theorem any_map {ks : List BA} {vs : List VS} (hr : RiseK ks) (n : Int) (t : BA) : anyOf (toI ⟨5, n, t, ks, vs⟩) = .map ((ks.map lb).zip (vs.map (fun v => anyOf (toI v)))) := by
 rw [canon_anyOf_map hr, xj, toL_map, List.map_map]; rfl
theorem volYm_ins (x : Bs × Y) : ∀ f : List (Bs × Y), volYm (mins x f) = volYp x + volYm f
 | [] => by simp [mins, volYm]
 | y :: r => by
  rw [mins]
  split
  ·simp [volYm]
  ·simp only [volYm, volYm_ins x r]; omega
theorem volYm_del (k : Bs) : ∀ f : List (Bs × Y), volYm (mdel f k) ≤ volYm f
 | [] => by simp [mdel, volYm]
 | y :: r => by
  have := volYm_del k r
  unfold mdel at this ⊢
  rw [List.filter_cons]
  split
  ·simp only [volYm]; omega
  ·simp only [volYm]; omega
inductive FullY : Y → Prop
 | bool (b) : FullY (.bool b)
 | int (n) : FullY (.int n)
 | text (s : BA) (h : s.toList ≠ []) : FullY (.text s)
 | list (l : List Y) (h : ∀ y, y ∈ l → FullY y) : FullY (.list l)
 | map (m : List (Bs × Y)) (h : ∀ p, p ∈ m → FullY p.2) : FullY (.map m)
theorem far_symm {a b : En} (h : En.far a b) : En.far b a := fun k hk hk2 => h k hk2 hk
theorem far_of {zs : List (Bs × En)} (h : zs.Pairwise (fun a b => En.far a.2 b.2)) {p q : Bs × En} (hp : p ∈ zs) (hq : q ∈ zs) (hne : p.1 ≠ q.1) : En.far p.2 q.2 := by
 obtain ⟨i, hi, rfl⟩ := List.getElem_of_mem hp; obtain ⟨j, hj, rfl⟩ := List.getElem_of_mem hq; have h2 := List.pairwise_iff_getElem.1 h
 rcases Nat.lt_trichotomy i j with hij | hij | hij
 ·exact h2 i j hi hj hij
 ·subst hij; exact absurd rfl hne
 ·exact far_symm (h2 j i hj hi hij)
theorem mput_pair' {α : Type} {R : Bs × α → Bs × α → Prop} (hs : ∀ a b, R a b → R b a) {f : List (Bs × α)} {k : Bs} {v : α} (h : f.Pairwise R) (hx : ∀ p ∈ mdel f k, R (k, v) p) : (mput f k v).Pairwise R :=
 mins_pair hs (h.sublist List.filter_sublist) hx
theorem mput_mem' {α : Type} {f : List (Bs × α)} {k : Bs} {v : α} {p : Bs × α} (h : p ∈ mput f k v) : p = (k, v) ∨ p ∈ mdel f k := by
 unfold mput at h
 rcases mins_mem.1 h with h | h
 ·exact .inl h
 ·exact .inr h
theorem mdel_in {α : Type} {f : List (Bs × α)} {k : Bs} {p : Bs × α} (h : p ∈ mdel f k) : p ∈ f ∧ p.1 ≠ k := by
 unfold mdel at h
 have h2 := List.mem_filter.1 h; exact ⟨h2.1, by simpa using h2.2⟩
theorem mput_sameY {α : Type} {f : List (Bs × α)} (hf : Rises f) {k : Bs} {c : α} (h : (k, c) ∈ f) : mput f k c = f := rises_ext (mput_rises hf _ _) hf (fun q => by
 rw [mget_mput]
 split
 ·rename_i e
  subst e; exact (xt hf h).symm
 ·rfl)
theorem Ranges.move {P : Program} {k : TypeId} {α : Type} {enc : α → Value} {w w' : World} {b r : Nat} {f left : List (Bs × α)} (h : Ranges P k enc w b r f left) (hb : w'.heap[b]? = w.heap[b]?) (hr : w'.heap[r]? = w.heap[r]?) : Ranges P k enc w' b r f left := by
 obtain ⟨lf, cnt, ⟨es, clock, since, seen, c0, h1, F, hs, hD, h2, rest⟩, e⟩ := h; exact ⟨lf, cnt, ⟨es, clock, since, seen, c0, hb.trans h1, F, hs, hD, hr.trans h2, rest⟩, e⟩
theorem left_sameO {w w' : World} {b r : Nat} (hb : w'.heap[b]? = w.heap[b]?) (hr : w'.heap[r]? = w.heap[r]?) : w'.rangeLeft b r = w.rangeLeft b r := by
 unfold World.rangeLeft
 rw [hb, hr]
structure EntsAt (s : Nat) (F0 : Nat → Prop) (wr : World) (b : Nat) (m : List (Bs × Y)) (zs : List (Bs × En)) : Prop where
 hm : MapA wr b (zs.map (fun z => (z.1, z.2.1)))
 hz : ∀ z, z ∈ zs → AR wr z.2.1 z.2.2.1 z.2.2.2
 hd : zs.Pairwise (fun a b => En.far a.2 b.2)
 hF : ∀ z, z ∈ zs → ∀ k, z.2.2.2 k → k ≠ b ∧ k < wr.heap.size ∧ ((k < s ∧ F0 k) ∨ s < k)
 hy : zs.map (fun z => (z.1, z.2.2.1)) = m
theorem EntsAt.rises {s : Nat} {F0 : Nat → Prop} {wr : World} {b : Nat} {m : List (Bs × Y)} {zs : List (Bs × En)} (h : EntsAt s F0 wr b m zs) : Rises zs := by
 have h1 := MapE.rises (Go.Maps.string_keyed akey_u) h.hm
 unfold Rises at h1 ⊢
 rw [List.pairwise_map] at h1; exact h1
theorem EntsAt.iter {s : Nat} {F0 : Nat → Prop} {wr w2 : World} {b : Nat} {m : List (Bs × Y)} {zs : List (Bs × En)} (h : EntsAt s F0 wr b m zs) (hg : wr.grownBy w2 (some s)) (hbs : b ≠ s) : EntsAt s F0 w2 b m zs :=
 ⟨h.hm.move (hg.block b h.hm.lt (fun e => hbs (Option.some.inj e))), fun z hz => (h.hz z hz).move (fun k hk => hg.block k (h.hF z hz k hk).2.1 (fun e => by have e2 := Option.some.inj e; rcases (h.hF z hz k hk).2.2 with h3 | h3 <;> omega)), h.hd, fun z hz k hk => ⟨(h.hF z hz k hk).1, Nat.lt_of_lt_of_le (h.hF z hz k hk).2.1 hg.size, (h.hF z hz k hk).2.2⟩, h.hy⟩
theorem EntsAt.below {s : Nat} {F0 : Nat → Prop} {wr w2 : World} {b : Nat} {m : List (Bs × Y)} {zs : List (Bs × En)} (h : EntsAt s F0 wr b m zs) (hb : Below wr.heap.size wr w2) : EntsAt s F0 w2 b m zs :=
 ⟨h.hm.below hb, fun z hz => (h.hz z hz).move (fun k hk => hb.block k (h.hF z hz k hk).2.1), h.hd, fun z hz k hk => ⟨(h.hF z hz k hk).1, Nat.lt_of_lt_of_le (h.hF z hz k hk).2.1 hb.size, (h.hF z hz k hk).2.2⟩, h.hy⟩
theorem EntsAt.put {s : Nat} {F0 : Nat → Prop} {w3 w4 w5 : World} {b : Nat} {m : List (Bs × Y)} {zs : List (Bs × En)} (h : EntsAt s F0 w3 b m zs) (hs : s < w3.heap.size) {z : Bs × En} (hz : z ∈ zs) (ht : Turns z.2.2.2 w3 w4) {v : Value} (hA : AR w4 v z.2.2.1 (fun k => z.2.2.2 k ∨ (w3.heap.size ≤ k ∧ k < w4.heap.size)))
  (hm5 : MapA w5 b (mput (zs.map (fun z => (z.1, z.2.1))) z.1 v)) (hg : w4.grownBy w5 (some b)) : EntsAt s F0 w5 b m (mput zs z.1 (v, z.2.2.1, fun k => z.2.2.2 k ∨ (w3.heap.size ≤ k ∧ k < w4.heap.size))) := by
 have hbl := h.hm.lt; have h34 := ht.size; have h45 := hg.size; have hr := h.rises
 have old : ∀ {p : Bs × En}, p ∈ zs → p.1 ≠ z.1 → ∀ k, p.2.2.2 k → w5.heap[k]? = w3.heap[k]? := fun {p} hp hne k hk => by
  have h1 := h.hF p hp k hk; exact (hg.block k (by omega) (fun e => h1.1 (Option.some.inj e))).trans (ht.block k h1.2.1 (fun hk2 => far_of h.hd hp hz hne k hk hk2))
 refine ⟨?_, fun p hp => ?_, ?_, fun p hp k hk => ?_, ?_⟩
 ·rw [mput_map (fun e : En => e.1)]; exact hm5
 ·rcases mput_mem' hp with rfl | hp
  ·refine hA.move (fun k hk => hg.block k ?_ (fun e => ?_))
   ·rcases hk with hk | hk
    ·have := (h.hF z hz k hk).2.1; omega
    ·exact hk.2
   ·have e2 := Option.some.inj e
    rcases hk with hk | hk
    ·exact (h.hF z hz k hk).1 e2
    ·omega
  ·obtain ⟨h1, h2⟩ := mdel_in hp; exact (h.hz p h1).move (old h1 h2)
 ·refine mput_pair' (fun a b hab => far_symm hab) h.hd (fun p hp k hk hk2 => ?_); obtain ⟨h1, h2⟩ := mdel_in hp
  rcases hk with hk | hk
  ·exact far_of h.hd hz h1 (fun e => h2 e.symm) k hk hk2
  ·have := (h.hF p h1 k hk2).2.1
   omega
 ·rcases mput_mem' hp with rfl | hp
  ·rcases hk with hk | hk
   ·have h1 := h.hF z hz k hk; exact ⟨h1.1, by omega, h1.2.2⟩
   ·exact ⟨by omega, by omega, .inr (by omega)⟩
  ·obtain ⟨h1, h2⟩ := mdel_in hp; have h3 := h.hF p h1 k hk; exact ⟨h3.1, by omega, h3.2.2⟩
 ·rw [mput_map (fun e : En => e.2.1), ← h.hy]
  have hr2 : Rises (zs.map (fun z => (z.1, z.2.2.1))) := by
   unfold Rises at hr ⊢
   rw [List.pairwise_map]; exact hr
  exact mput_sameY hr2 (List.mem_map.2 ⟨z, hz, rfl⟩)
mutual
def fullV : VS → Bool
 | ⟨k, n, t, ks, vs⟩ => if k = 0 then false else if k = 3 then t.toList != [] else if k = 4 then (fullL vs && vs.length != 0) else if k = 5 then (fullL vs && vs.length != 0) else true
def fullL : List VS → Bool
 | [] => true
 | v :: r => fullV v && fullL r
end
theorem fullL_mem : ∀ {l : List VS}, fullL l = true → ∀ v, v ∈ l → fullV v = true
 | [], _, v, h => by cases h
 | x :: r, h, v, hv => by
  simp only [fullL, Bool.and_eq_true] at h
  rcases List.mem_cons.1 hv with rfl | hv
  ·exact h.1
  ·exact fullL_mem h.2 v hv
theorem full_of {x : VS} (h : Canon x) (hf : fullV x = true) : FullY (anyOf (toI x)) := by
 induction h with
 | null => simp [leaf, fullV] at hf
 | bool b =>
  have e : anyOf (toI (leaf 1 (if b then 1 else 0) ⟨#[]⟩)) = .bool b := by cases b <;> simp [leaf, toI, toL, anyOf]
  rw [e]; exact .bool _
 | int n =>
  have e : anyOf (toI (leaf 2 n ⟨#[]⟩)) = .int n := by simp [leaf, toI, toL, anyOf]
  rw [e]; exact .int _
 | text s =>
  have e1 : anyOf (toI (leaf 3 0 s)) = .text s := by simp [leaf, toI, toL, anyOf]
  rw [e1]; refine .text _ (fun e => ?_)
  simp [leaf, fullV, e] at hf
 | list l h ih =>
  rw [any_list]
  simp [fullV] at hf
  refine .list _ (fun y hy => ?_); obtain ⟨v, hv, rfl⟩ := List.mem_map.1 hy; exact ih v hv (fullL_mem hf.1 v hv)
 | map ks vs hr hl h ih =>
  rw [any_map hr]
  simp [fullV] at hf
  refine .map _ (fun p hp => ?_); obtain ⟨a, b⟩ := p; obtain ⟨v, hv, rfl⟩ := List.mem_map.1 (List.of_mem_zip hp).2; exact ih v hv (fullL_mem hf.1 v hv)
end Go.Proofs.YtmpmekliaicecaaDoor.Tr
