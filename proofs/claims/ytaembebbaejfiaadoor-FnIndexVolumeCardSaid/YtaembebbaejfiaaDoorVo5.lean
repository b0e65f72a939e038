/- Parts of the proof, laid together: QSpecFit. -/
import Derived.Test.YtaembebbaejfiaaDoorVo3
import Derived.Test.YtaembebbaejfiaaDoorVo4
namespace Go.Proofs.YtaembebbaejfiaaDoor.PS
open Go.RowKit Go.Proofs.YtaembebbaejfiaaDoorW.PrintWords Go.Proofs.YtaembebbaejfiaaDoorW.PrintLast Go.Proofs.YtaembebbaejfiaaDoorW.PrintMore
attribute [local go_sem] max2_int min2_int max_two min_two max_three min_three max_four min_four 
set_option linter.unusedVariables false
set_option linter.unusedSimpArgs false
mutual
def spec_Fit.l0 : Nat → Int → Int → Int → ByteArray → List ByteArray → List (S32) → Int → Int → ByteArray → List (S32) → Option (Int × Int × ByteArray × List ByteArray × (List (S32)))
 | 0, _, _, _, _, _, _, _, _, _, _ => none
 | k + 1, x4, x193000, x193001, x193002, x193003, x193004, x222000, x222001, x222002, x222004 => if x4 < (x193004.length : Int) then (if 0 ≤ x4 then ((spec_Fit.f k ((rd_T32 x193004 x4).f0) ((rd_T32 x193004 x4).f1) ((rd_T32 x193004 x4).f2) ((rd_T32 x193004 x4).f3) ((rd_T32 x193004 x4).f4)).bind fun bt223 => (if x222004.length < 1759218604441 then (spec_Fit.l0 k (wrap64 (x4 + 1)) x193000 x193001 x193002 x193003 x193004 x222000 x222001 x222002 (x222004 ++ [(⟨bt223.1, bt223.2.1, bt223.2.2.1, bt223.2.2.2.1, bt223.2.2.2.2⟩ : S32)])) else (none))) else (none)) else (some (x222000, x222001, x222002, ([] : List ByteArray), x222004))
def spec_Fit.l1 : Nat → Int → Int → Int → ByteArray → List ByteArray → List (S32) → Int → Int → ByteArray → List ByteArray → List (S32) → Option (Int × Int × ByteArray × List ByteArray × (List (S32)))
 | 0, _, _, _, _, _, _, _, _, _, _, _ => none
 | k + 1, x6, x193000, x193001, x193002, x193003, x193004, x245000, x245001, x245002, x245003, x245004 => if x6 < (x193003.length : Int) then (spec_Fit.j2 k x6 (decide (x6 < (x193004.length : Int))) x193000 x193001 x193002 x193003 x193004 x245000 x245001 x245002 x245003 x245004) else (spec_Fit.j2 k x6 false x193000 x193001 x193002 x193003 x193004 x245000 x245001 x245002 x245003 x245004)
def spec_Fit.j2 : Nat → Int → Bool → Int → Int → ByteArray → List ByteArray → List (S32) → Int → Int → ByteArray → List ByteArray → List (S32) → Option (Int × Int × ByteArray × List ByteArray × (List (S32)))
 | 0, _, _, _, _, _, _, _, _, _, _, _, _ => none
 | k + 1, x6, x61, x193000, x193001, x193002, x193003, x193004, x245000, x245001, x245002, x245003, x245004 => if x61 = true then (if 0 ≤ x6 then (if x6 < (x193003.length : Int) then (if x6 < (x193004.length : Int) then ((spec_Fit.f k ((rd_T32 x193004 x6).f0) ((rd_T32 x193004 x6).f1) ((rd_T32 x193004 x6).f2) ((rd_T32 x193004 x6).f3) ((rd_T32 x193004 x6).f4)).bind fun bt247 => ((spec_With.f k x245000 x245001 x245002 x245003 x245004 (rdOf ByteArray.empty x193003 x6) bt247.1 bt247.2.1 bt247.2.2.1 bt247.2.2.2.1 bt247.2.2.2.2).bind fun bt256 => (spec_Fit.l1 k (wrap64 (x6 + 1)) x193000 x193001 x193002 x193003 x193004 bt256.1 bt256.2.1 bt256.2.2.1 bt256.2.2.2.1 bt256.2.2.2.2))) else (none)) else (none)) else (none)) else (some (x245000, x245001, x245002, x245003, x245004))
def spec_Fit.f : Nat → Int → Int → ByteArray → List ByteArray → List (S32) → Option (Int × Int × ByteArray × List ByteArray × (List (S32)))
 | 0, _, _, _, _, _ => none
 | k + 1, a0_0, a0_1, a0_2, l0_3, l0_4 => if a0_0 = 1 then ((spec_B.f (a0_1 != 0)).bind fun bt194 => (some (bt194.1, bt194.2.1, bt194.2.2.1, bt194.2.2.2.1, bt194.2.2.2.2))) else (if a0_0 = 2 then ((spec_N.f a0_1).bind fun bt203 => (some (bt203.1, bt203.2.1, bt203.2.2.1, bt203.2.2.2.1, bt203.2.2.2.2))) else (if a0_0 = 3 then ((spec_T.f a0_2).bind fun bt212 => (some (bt212.1, bt212.2.1, bt212.2.2.1, bt212.2.2.2.1, bt212.2.2.2.2))) else (if a0_0 = 4 then (spec_Fit.l0 k 0 a0_0 a0_1 a0_2 l0_3 l0_4 4 0 (⟨#[]⟩ : ByteArray) ([] : List (S32))) else (if a0_0 = 5 then ((spec_Empty.f).bind fun bt235 => (spec_Fit.l1 k 0 a0_0 a0_1 a0_2 l0_3 l0_4 bt235.1 bt235.2.1 bt235.2.2.1 bt235.2.2.2.1 bt235.2.2.2.2)) else (some (0, 0, (⟨#[]⟩ : ByteArray), ([] : List ByteArray), ([] : List (S32))))))))
end
def spec_Fit.T13 : Bool × List (List Nat × List Nat) := (true, [([], []), ([0], [0]), ([], []), ([2], [2]), ([], []), ([3, 4], [3, 4]), ([5], [5]), ([6], [6]), ([7], [7]), ([1, 8, 7], [1, 8]), ([0, 1, 2, 3, 4, 5, 6, 7, 8, 9], []), ([10, 9, 9, 0, 1, 2, 3, 4, 5, 6, 7, 8, 9], [9, 10])])
def spec_Fit.B13 : List Nat := [0, 1, 0, 4, 0, 28, 60, 124, 252, 511, 1023, 2047]
theorem spec_Fit.tab13 : rtab .any (opsOf Tryd.f13 13) = spec_Fit.T13 := by kernel_rfl
theorem spec_Fit.bits13 : waitsOk spec_Fit.T13.2 spec_Fit.B13 = true := by kernel_rfl
def spec_Fit.T20 : Bool × List (List Nat × List Nat) := (true, [([], []), ([], []), ([1], [1]), ([], []), ([2, 3], [2, 3]), ([4], [4]), ([], []), ([6], [6]), ([], []), ([7, 8], [7, 8]), ([9], [9]), ([10], [10]), ([0, 5, 11, 11], [0, 5, 11]), ([12, 12, 0, 1, 2, 3, 4, 5, 6, 7, 8, 9, 10, 11, 12], [12])])
def spec_Fit.B20 : List Nat := [0, 0, 2, 0, 14, 30, 0, 64, 0, 448, 960, 1984, 4095, 8191]
theorem spec_Fit.tab20 : rtab .any (opsOf Tryd.f13 20) = spec_Fit.T20 := by kernel_rfl
theorem spec_Fit.bits20 : waitsOk spec_Fit.T20.2 spec_Fit.B20 = true := by kernel_rfl
set_option maxHeartbeats 8000000 in
set_option maxRecDepth 100000 in
theorem spec_Fit.calls (k : Nat) : ∀ (a0_0 : Int) (a0_1 : Int) (a0_2 : ByteArray) (A0_3 : Option Addr) (c0_3 : Nat) (l0_3 : List ByteArray) (A0_4 : Option Addr) (c0_4 : Nat) (l0_4 : List (S32)) (r1 : Int) (r2 : Int) (r3 : ByteArray) (r4 : List ByteArray) (r5 : List (S32)) (w : World) (hr0_3 : Kd.C Kd.string w A0_3 l0_3.length l0_3) (hc0_3 : l0_3.length ≤ c0_3) (hr0_4 : Kd.C k32 w A0_4 l0_4.length l0_4) (hc0_4 : l0_4.length ≤ c0_4) (h : spec_Fit.f k a0_0 a0_1 a0_2 l0_3 l0_4 = some (r1, r2, r3, r4, r5)),
  Calls Tryd.prog 13 #[.agg #[.int .i64 a0_0, .int .i64 a0_1, .string a0_2, .slice A0_3 l0_3.length c0_3, .slice A0_4 l0_4.length c0_4]] w fun e w' => ∃ v3_ v4_ : Value, e = .returned (.agg #[.int .i64 r1, .int .i64 r2, .string r3, v3_, v4_]) ∧ Kd.R Kd.string 9 w' w.heap.size (fun k_ => (w.heap.size ≤ k_)) v3_ r4 ∧ Kd.N k32 32 w' w.heap.size (fun k_ => (w.heap.size ≤ k_) ∧ some k_ ≠ (v3_ : Value).ownBlock) v4_ r5 ∧ Below w.heap.size w w' := by
 induction k using Nat.strongRecOn with
 | _ k ih =>
 intro a0_0 a0_1 a0_2 A0_3 c0_3 l0_3 A0_4 c0_4 l0_4 r1 r2 r3 r4 r5 w hr0_3 hc0_3 hr0_4 hc0_4 h
 cases k with
 | zero => exact absurd h (by simp [spec_Fit.f])
 | succ k =>
 simp only [spec_Fit.f] at h
 have hu32 := Tryd.underlying32
 have HR0_3 := Aside0.mk hr0_3
 have HC0_3 := Aside0.mk hc0_3
 clear hr0_3 hc0_3
 have HR0_4 := Aside0.mk hr0_4
 have HC0_4 := Aside0.mk hc0_4
 clear hr0_4 hc0_4
 have HB := Aside0.mk (Below.refl w.heap.size w)
 have H : (if a0_0 = 1 then ((spec_B.f (a0_1 != 0)).bind fun bt194 => (some (bt194.1, bt194.2.1, bt194.2.2.1, bt194.2.2.2.1, bt194.2.2.2.2))) else (if a0_0 = 2 then ((spec_N.f a0_1).bind fun bt203 => (some (bt203.1, bt203.2.1, bt203.2.2.1, bt203.2.2.2.1, bt203.2.2.2.2))) else (if a0_0 = 3 then ((spec_T.f a0_2).bind fun bt212 => (some (bt212.1, bt212.2.1, bt212.2.2.1, bt212.2.2.2.1, bt212.2.2.2.2))) else (if a0_0 = 4 then (spec_Fit.l0 k 0 a0_0 a0_1 a0_2 l0_3 l0_4 4 0 (⟨#[]⟩ : ByteArray) ([] : List (S32))) else (if a0_0 = 5 then ((spec_Empty.f).bind fun bt235 => (spec_Fit.l1 k 0 a0_0 a0_1 a0_2 l0_3 l0_4 bt235.1 bt235.2.1 bt235.2.2.1 bt235.2.2.2.1 bt235.2.2.2.2)) else (some (0, 0, (⟨#[]⟩ : ByteArray), ([] : List ByteArray), ([] : List (S32))))))))) = some (r1, r2, r3, r4, r5) := h
 clear h
 by_cases c2 : a0_0 = 1
 ·rw [if_pos c2] at H
  have c2b0 : (a0_0 == 1) = true := beq_iff_eq.mpr c2
  have c2b1 : (a0_0 != 1) = false := bne_eq_false_iff_eq.mpr c2
  clear c2
  replace H := Option.bind_eq_some_iff.mp H
  obtain ⟨⟨t194, t195, t196, t197, t200⟩, A30, H⟩ := H
  replace H : (some (t194, t195, t196, t197, t200)) = some (r1, r2, r3, r4, r5) := H
  have A3 := Aside0.mk A30
  clear A30
  simp only [Option.some.injEq, Prod.mk.injEq] at H
  obtain ⟨rfl, rfl, rfl, rfl, rfl⟩ := H
  go_enter Tryd.func13, Tryd.ntmps13
  go_wp2_with (first | ((with_reducible refine gate_dst (N := 1) rfl ?_); (try (refine gate_guard (by rfl) ?_; dsimp only)); refine box_event ?hg (N := 1) ?hd (cs := #[.int .i64 a0_0, .int .i64 a0_1, .string a0_2, .slice A0_3 l0_3.length c0_3, .slice A0_4 l0_4.length c0_4]) (t := 32) ?hr ?_; (case hd => rfl); (case hg => rfl); (case hr => first | (go_simp; done) | (go_simp; rfl)); intro gb192 hg w4 hbox hb; have n0_ := Aside0.mk (below_step (by repeat (first | (with_reducible first | exact HB.out | apply below_alloc | apply pw_below_drewN | apply below_drew1) | exact HB.out)) hb); have n1_ := Aside0.mk (hbox); have n2_ := Aside0.mk ((by rw [hg]; exact (below_size (by repeat (first | (with_reducible first | exact HB.out | apply below_alloc | apply pw_below_drewN | apply below_drew1) | exact HB.out))) : w.heap.size ≤ gb192)); have n3_ := Aside0.mk ((by rw [hg]; exact (below_size (by repeat (first | (with_reducible first | exact HB.out | apply below_alloc | apply pw_below_drewN | apply below_drew1) | exact HB.out))) : w.heap.size ≤ gb192)); clear HB; have HB := n0_; have BK192 := n1_; have GW192 := n2_; have GE192 := n3_; clear n0_ n1_ n2_ n3_; clear hb hbox hg) | ((with_reducible refine gate_dst (N := 2) rfl ?_); (try (refine gate_guard (by rfl) ?_; dsimp only)); refine box_event ?hg (N := 2) ?hd (cs := #[.int .i64 0, .int .i64 0, .string (⟨#[]⟩ : ByteArray), .slice none 0 0, .slice none 0 0]) (t := 32) ?hr ?_; (case hd => rfl); (case hg => rfl); (case hr => first | (go_simp; done) | (go_simp; rfl)); intro gb193 hg w5 hbox hb; have n0_ := Aside0.mk (blk_below (g := gb192) (o := .cells #[.int .i64 a0_0, .int .i64 a0_1, .string a0_2, .slice A0_3 l0_3.length c0_3, .slice A0_4 l0_4.length c0_4] 32 (0, 0)) (by (with_reducible repeat (first | refine blk_drewN ?_ _ | refine blk_drew ?_ | refine blk_alloc ?_ _)); exact BK192.out) hb); have n1_ := Aside0.mk (below_step (by repeat (first | (with_reducible first | exact HB.out | apply below_alloc | apply pw_below_drewN | apply below_drew1 | refine below_set ?_ GE192.out) | exact HB.out)) hb); have n2_ := Aside0.mk (hbox); have n3_ := Aside0.mk ((by rw [hg]; exact (below_size (by repeat (first | (with_reducible first | exact HB.out | apply below_alloc | apply pw_below_drewN | apply below_drew1 | refine below_set ?_ GE192.out) | exact HB.out))) : w.heap.size ≤ gb193)); have n4_ := Aside0.mk ((by rw [hg]; exact (below_size (by repeat (first | (with_reducible first | exact HB.out | apply below_alloc | apply pw_below_drewN | apply below_drew1 | refine below_set ?_ GE192.out) | exact HB.out))) : w.heap.size ≤ gb193)); have n5_ := Aside0.mk ((by rw [hg]; exact Nat.ne_of_lt (blk_lt (g := gb192) (o := .cells #[.int .i64 a0_0, .int .i64 a0_1, .string a0_2, .slice A0_3 l0_3.length c0_3, .slice A0_4 l0_4.length c0_4] 32 (0, 0)) (by (with_reducible repeat (first | refine blk_drewN ?_ _ | refine blk_drew ?_ | refine blk_alloc ?_ _)); exact BK192.out)) : gb192 ≠ gb193)); have n6_ := Aside0.mk ((by rw [hg]; exact Nat.ne_of_gt (blk_lt (g := gb192) (o := .cells #[.int .i64 a0_0, .int .i64 a0_1, .string a0_2, .slice A0_3 l0_3.length c0_3, .slice A0_4 l0_4.length c0_4] 32 (0, 0)) (by (with_reducible repeat (first | refine blk_drewN ?_ _ | refine blk_drew ?_ | refine blk_alloc ?_ _)); exact BK192.out)) : gb193 ≠ gb192)); clear BK192; clear HB; have BK192 := n0_; have HB := n1_; have BK193 := n2_; have GW193 := n3_; have GE193 := n4_; have NB192_193 := n5_; have NB193_192 := n6_; clear n0_ n1_ n2_ n3_ n4_ n5_ n6_; clear hb hbox hg; have hnb6 := NB192_193.out; have hnc6 := NB193_192.out; have hcz7_0 : w5.cell? ⟨gb192, 0, none⟩ = some (.int .i64 a0_0) := (blk_cell BK192.out 0).trans rfl; have hcz7_1 : w5.cell? ⟨gb192, 1, none⟩ = some (.int .i64 a0_1) := (blk_cell BK192.out 1).trans rfl; have hcz7_2 : w5.cell? ⟨gb192, 2, none⟩ = some (.string a0_2) := (blk_cell BK192.out 2).trans rfl; have hcz7_3 : w5.cell? ⟨gb192, 3, none⟩ = some (.slice A0_3 l0_3.length c0_3) := (blk_cell BK192.out 3).trans rfl; have hcz7_4 : w5.cell? ⟨gb192, 4, none⟩ = some (.slice A0_4 l0_4.length c0_4) := (blk_cell BK192.out 4).trans rfl; have hfz7_0 := blk_frozen BK192.out 0; have hfz7_1 := blk_frozen BK192.out 1; have hfz7_2 := blk_frozen BK192.out 2; have hfz7_3 := blk_frozen BK192.out 3; have hfz7_4 := blk_frozen BK192.out 4) | ((with_reducible refine gate_callee (f := 34) rfl ?_); refine goesL_ (some 14) rfl rfl Tryd.func34 (by kernel_rfl) rfl #[.bool (a0_1 != 0)] rfl (by (try simp only [List.map_toArray, List.map_cons, List.map_nil]); first | done | rfl | (simp only [List.length_drop, List.length_take]; rfl)) ?_; (with_reducible refine (spec_B.calls (a0_1 != 0) t194 t195 t196 t197 t200 _ A3.out).mono ?_); rintro e w8 ⟨v198, v201, rfl, ho0, ho1, hb⟩; refine ⟨_, rfl, ?_⟩; have n0_ := Aside0.mk (Kd.R_lower (Kd.R_newM (M := fun k_ => (w.heap.size ≤ k_)) ho0 (below_size (by repeat (first | (with_reducible first | exact HB.out | apply below_alloc | apply pw_below_drewN | apply below_drew1 | refine below_set ?_ GE192.out | refine below_set ?_ GE193.out) | exact HB.out))) (fun k_ h_ => h_)) (below_size (by repeat (first | (with_reducible first | exact HB.out | apply below_alloc | apply pw_below_drewN | apply below_drew1 | refine below_set ?_ GE192.out | refine below_set ?_ GE193.out) | exact HB.out)))); have n1_ := Aside0.mk (Kd.N_lower (Kd.N_mono (ok' := fun k_ => (w.heap.size ≤ k_) ∧ some k_ ≠ (v198 : Value).ownBlock ∧ k_ ≠ gb192 ∧ k_ ≠ gb193) (Kd.R_N (Kd.R_bound ho1)) (fun k_ hk_ => ⟨(Nat.le_trans (below_size (by repeat (first | (with_reducible first | exact HB.out | apply below_alloc | apply pw_below_drewN | apply below_drew1 | refine below_set ?_ GE192.out | refine below_set ?_ GE193.out) | exact HB.out))) hk_.2.1), hk_.1, (Kd.freshB (g := gb192) (o := .cells #[.int .i64 a0_0, .int .i64 a0_1, .string a0_2, .slice A0_3 l0_3.length c0_3, .slice A0_4 l0_4.length c0_4] 32 (0, 0)) (by (with_reducible repeat (first | refine blk_drewN ?_ _ | refine blk_drew ?_ | refine blk_alloc ?_ _)); exact BK192.out) k_ hk_.2.1), (Kd.freshB (g := gb193) (o := .cells #[.int .i64 0, .int .i64 0, .string (⟨#[]⟩ : ByteArray), .slice none 0 0, .slice none 0 0] 32 (0, 0)) (by (with_reducible repeat (first | refine blk_drewN ?_ _ | refine blk_drew ?_ | refine blk_alloc ?_ _)); exact BK193.out) k_ hk_.2.1)⟩)) (below_size (by repeat (first | (with_reducible first | exact HB.out | apply below_alloc | apply pw_below_drewN | apply below_drew1 | refine below_set ?_ GE192.out | refine below_set ?_ GE193.out) | exact HB.out)))); have n2_ := Aside0.mk (blk_below (g := gb192) (o := .cells #[.int .i64 a0_0, .int .i64 a0_1, .string a0_2, .slice A0_3 l0_3.length c0_3, .slice A0_4 l0_4.length c0_4] 32 (0, 0)) (by (with_reducible repeat (first | refine blk_drewN ?_ _ | refine blk_drew ?_ | refine blk_alloc ?_ _)); exact BK192.out) hb); have n3_ := Aside0.mk (blk_below (g := gb193) (o := .cells #[.int .i64 0, .int .i64 0, .string (⟨#[]⟩ : ByteArray), .slice none 0 0, .slice none 0 0] 32 (0, 0)) (by (with_reducible repeat (first | refine blk_drewN ?_ _ | refine blk_drew ?_ | refine blk_alloc ?_ _)); exact BK193.out) hb); have n4_ := Aside0.mk (below_step (by repeat (first | (with_reducible first | exact HB.out | apply below_alloc | apply pw_below_drewN | apply below_drew1 | refine below_set ?_ GE192.out | refine below_set ?_ GE193.out) | exact HB.out)) hb); clear BK192; clear BK193; clear HB; have HO199 := n0_; have HO202 := n1_; have BK192 := n2_; have BK193 := n3_; have HB := n4_; clear n0_ n1_ n2_ n3_ n4_; (try clear hb); (try clear hb2); (try clear hk); (try clear hi); (try clear ho0); (try clear ho1); have hcz9_0 : w8.cell? ⟨gb193, 0, none⟩ = some (.int .i64 0) := (blk_cell BK193.out 0).trans rfl; have hcz9_1 : w8.cell? ⟨gb193, 1, none⟩ = some (.int .i64 0) := (blk_cell BK193.out 1).trans rfl; have hcz9_2 : w8.cell? ⟨gb193, 2, none⟩ = some (.string (⟨#[]⟩ : ByteArray)) := (blk_cell BK193.out 2).trans rfl; have hcz9_3 : w8.cell? ⟨gb193, 3, none⟩ = some (.slice none 0 0) := (blk_cell BK193.out 3).trans rfl; have hcz9_4 : w8.cell? ⟨gb193, 4, none⟩ = some (.slice none 0 0) := (blk_cell BK193.out 4).trans rfl; have hfz9_0 := blk_frozen BK193.out 0; have hfz9_1 := blk_frozen BK193.out 1; have hfz9_2 := blk_frozen BK193.out 2; have hfz9_3 := blk_frozen BK193.out 3; have hfz9_4 := blk_frozen BK193.out 4; obtain ⟨Ao10, co10, eo10⟩ := Kd.R_slice HO199.out; subst eo10; obtain ⟨Ao11, co11, eo11⟩ := Kd.N_slice HO202.out; subst eo11))
  refine bodyPost_ret (results_cell_row rfl _ _ gb193 32 #[.int .i64 t194, .int .i64 t195, .string t196, .slice Ao10 t197.length co10, .slice Ao11 t200.length co11] (0, 0) _ rfl (by (with_reducible repeat (first | refine blk_drewN ?_ _ | refine blk_drew ?_ | refine blk_alloc ?_ _)); refine blk_put (cs := #[.int .i64 t194, .int .i64 t195, .string t196, .slice Ao10 t197.length co10, .slice none 0 0]) ?_ 4 _ rfl; (with_reducible repeat (first | refine blk_drewN ?_ _ | refine blk_drew ?_ | refine blk_alloc ?_ _)); refine blk_put (cs := #[.int .i64 t194, .int .i64 t195, .string t196, .slice none 0 0, .slice none 0 0]) ?_ 3 _ rfl; (with_reducible repeat (first | refine blk_drewN ?_ _ | refine blk_drew ?_ | refine blk_alloc ?_ _)); refine blk_put (cs := #[.int .i64 t194, .int .i64 t195, .string (⟨#[]⟩ : ByteArray), .slice none 0 0, .slice none 0 0]) ?_ 2 _ rfl; (with_reducible repeat (first | refine blk_drewN ?_ _ | refine blk_drew ?_ | refine blk_alloc ?_ _)); refine blk_put (cs := #[.int .i64 t194, .int .i64 0, .string (⟨#[]⟩ : ByteArray), .slice none 0 0, .slice none 0 0]) ?_ 1 _ rfl; (with_reducible repeat (first | refine blk_drewN ?_ _ | refine blk_drew ?_ | refine blk_alloc ?_ _)); refine blk_put (cs := #[.int .i64 0, .int .i64 0, .string (⟨#[]⟩ : ByteArray), .slice none 0 0, .slice none 0 0]) ?_ 0 _ rfl; (with_reducible repeat (first | refine blk_drewN ?_ _ | refine blk_drew ?_ | refine blk_alloc ?_ _)); exact BK193.out) Tryd.underlying32 rfl (by kernel_rfl)) rfl ?_
  exact ⟨_, _, by first | rfl | (simp [errW_none, errW_some] <;> rfl) | (simp [*, errW_none, errW_some] <;> rfl), by (with_reducible repeat (first | apply Kd.R_alloc | apply Kd.R_drewN | apply Kd.R_drew)); exact Kd.R_mono (Kd.R_far (p := ⟨gb193, 4, none⟩) (Kd.R_far (p := ⟨gb193, 3, none⟩) (Kd.R_far (p := ⟨gb193, 2, none⟩) (Kd.R_far (p := ⟨gb193, 1, none⟩) (Kd.R_far (p := ⟨gb193, 0, none⟩) (Kd.R_types HO199.out BK193.out (by decide)) (fun _ hk => hk.2) (.int .i64 t194)) (fun _ hk => hk.2) (.int .i64 t195)) (fun _ hk => hk.2) (.string t196)) (fun _ hk => hk.2) (.slice Ao10 t197.length co10)) (fun _ hk => hk.2) (.slice Ao11 t200.length co11)) (fun _ hk => hk.1.1), by (with_reducible repeat (first | apply Kd.N_alloc | apply Kd.N_drewN | apply Kd.N_drew)); exact Kd.N_mono (Kd.N_far (p := ⟨gb193, 4, none⟩) (Kd.N_far (p := ⟨gb193, 3, none⟩) (Kd.N_far (p := ⟨gb193, 2, none⟩) (Kd.N_far (p := ⟨gb193, 1, none⟩) (Kd.N_far (p := ⟨gb193, 0, none⟩) (Kd.N_mono HO202.out (fun k_ hk => (⟨hk, hk.2.2.2⟩ : _ ∧ k_ ≠ gb193))) (fun _ hk => hk.2) (.int .i64 t194)) (fun _ hk => hk.2) (.int .i64 t195)) (fun _ hk => hk.2) (.string t196)) (fun _ hk => hk.2) (.slice Ao10 t197.length co10)) (fun _ hk => hk.2) (.slice Ao11 t200.length co11)) (fun _ hk => ⟨hk.1.1, hk.1.2.1⟩), by repeat (first | (with_reducible first | exact HB.out | apply below_alloc | apply pw_below_drewN | apply below_drew1 | refine below_set ?_ GE192.out | refine below_set ?_ GE193.out) | exact HB.out)⟩
 ·rw [if_neg c2] at H
  have c2b0 : (a0_0 == 1) = false := beq_eq_false_iff_ne.mpr c2
  have c2b1 : (a0_0 != 1) = true := bne_iff_ne.mpr c2
  by_cases c12 : a0_0 = 2
  ·rw [if_pos c12] at H
   have c12b0 : (a0_0 == 2) = true := beq_iff_eq.mpr c12
   have c12b1 : (a0_0 != 2) = false := bne_eq_false_iff_eq.mpr c12
   clear c12
   replace H := Option.bind_eq_some_iff.mp H
   obtain ⟨⟨t203, t204, t205, t206, t209⟩, A130, H⟩ := H
   replace H : (some (t203, t204, t205, t206, t209)) = some (r1, r2, r3, r4, r5) := H
   have A13 := Aside0.mk A130
   clear A130
   simp only [Option.some.injEq, Prod.mk.injEq] at H
   obtain ⟨rfl, rfl, rfl, rfl, rfl⟩ := H
   go_enter Tryd.func13, Tryd.ntmps13
   go_wp2_with (first | ((with_reducible refine gate_dst (N := 1) rfl ?_); (try (refine gate_guard (by rfl) ?_; dsimp only)); refine box_event ?hg (N := 1) ?hd (cs := #[.int .i64 a0_0, .int .i64 a0_1, .string a0_2, .slice A0_3 l0_3.length c0_3, .slice A0_4 l0_4.length c0_4]) (t := 32) ?hr ?_; (case hd => rfl); (case hg => rfl); (case hr => first | (go_simp; done) | (go_simp; rfl)); intro gb192 hg w14 hbox hb; have n0_ := Aside0.mk (below_step (by repeat (first | (with_reducible first | exact HB.out | apply below_alloc | apply pw_below_drewN | apply below_drew1) | exact HB.out)) hb); have n1_ := Aside0.mk (hbox); have n2_ := Aside0.mk ((by rw [hg]; exact (below_size (by repeat (first | (with_reducible first | exact HB.out | apply below_alloc | apply pw_below_drewN | apply below_drew1) | exact HB.out))) : w.heap.size ≤ gb192)); have n3_ := Aside0.mk ((by rw [hg]; exact (below_size (by repeat (first | (with_reducible first | exact HB.out | apply below_alloc | apply pw_below_drewN | apply below_drew1) | exact HB.out))) : w.heap.size ≤ gb192)); clear HB; have HB := n0_; have BK192 := n1_; have GW192 := n2_; have GE192 := n3_; clear n0_ n1_ n2_ n3_; clear hb hbox hg) | ((with_reducible refine gate_dst (N := 2) rfl ?_); (try (refine gate_guard (by rfl) ?_; dsimp only)); refine box_event ?hg (N := 2) ?hd (cs := #[.int .i64 0, .int .i64 0, .string (⟨#[]⟩ : ByteArray), .slice none 0 0, .slice none 0 0]) (t := 32) ?hr ?_; (case hd => rfl); (case hg => rfl); (case hr => first | (go_simp; done) | (go_simp; rfl)); intro gb193 hg w15 hbox hb; have n0_ := Aside0.mk (blk_below (g := gb192) (o := .cells #[.int .i64 a0_0, .int .i64 a0_1, .string a0_2, .slice A0_3 l0_3.length c0_3, .slice A0_4 l0_4.length c0_4] 32 (0, 0)) (by (with_reducible repeat (first | refine blk_drewN ?_ _ | refine blk_drew ?_ | refine blk_alloc ?_ _)); exact BK192.out) hb); have n1_ := Aside0.mk (below_step (by repeat (first | (with_reducible first | exact HB.out | apply below_alloc | apply pw_below_drewN | apply below_drew1 | refine below_set ?_ GE192.out) | exact HB.out)) hb); have n2_ := Aside0.mk (hbox); have n3_ := Aside0.mk ((by rw [hg]; exact (below_size (by repeat (first | (with_reducible first | exact HB.out | apply below_alloc | apply pw_below_drewN | apply below_drew1 | refine below_set ?_ GE192.out) | exact HB.out))) : w.heap.size ≤ gb193)); have n4_ := Aside0.mk ((by rw [hg]; exact (below_size (by repeat (first | (with_reducible first | exact HB.out | apply below_alloc | apply pw_below_drewN | apply below_drew1 | refine below_set ?_ GE192.out) | exact HB.out))) : w.heap.size ≤ gb193)); have n5_ := Aside0.mk ((by rw [hg]; exact Nat.ne_of_lt (blk_lt (g := gb192) (o := .cells #[.int .i64 a0_0, .int .i64 a0_1, .string a0_2, .slice A0_3 l0_3.length c0_3, .slice A0_4 l0_4.length c0_4] 32 (0, 0)) (by (with_reducible repeat (first | refine blk_drewN ?_ _ | refine blk_drew ?_ | refine blk_alloc ?_ _)); exact BK192.out)) : gb192 ≠ gb193)); have n6_ := Aside0.mk ((by rw [hg]; exact Nat.ne_of_gt (blk_lt (g := gb192) (o := .cells #[.int .i64 a0_0, .int .i64 a0_1, .string a0_2, .slice A0_3 l0_3.length c0_3, .slice A0_4 l0_4.length c0_4] 32 (0, 0)) (by (with_reducible repeat (first | refine blk_drewN ?_ _ | refine blk_drew ?_ | refine blk_alloc ?_ _)); exact BK192.out)) : gb193 ≠ gb192)); clear BK192; clear HB; have BK192 := n0_; have HB := n1_; have BK193 := n2_; have GW193 := n3_; have GE193 := n4_; have NB192_193 := n5_; have NB193_192 := n6_; clear n0_ n1_ n2_ n3_ n4_ n5_ n6_; clear hb hbox hg; have hnb16 := NB192_193.out; have hnc16 := NB193_192.out; have hcz17_0 : w15.cell? ⟨gb192, 0, none⟩ = some (.int .i64 a0_0) := (blk_cell BK192.out 0).trans rfl; have hcz17_1 : w15.cell? ⟨gb192, 1, none⟩ = some (.int .i64 a0_1) := (blk_cell BK192.out 1).trans rfl; have hcz17_2 : w15.cell? ⟨gb192, 2, none⟩ = some (.string a0_2) := (blk_cell BK192.out 2).trans rfl; have hcz17_3 : w15.cell? ⟨gb192, 3, none⟩ = some (.slice A0_3 l0_3.length c0_3) := (blk_cell BK192.out 3).trans rfl; have hcz17_4 : w15.cell? ⟨gb192, 4, none⟩ = some (.slice A0_4 l0_4.length c0_4) := (blk_cell BK192.out 4).trans rfl; have hfz17_0 := blk_frozen BK192.out 0; have hfz17_1 := blk_frozen BK192.out 1; have hfz17_2 := blk_frozen BK192.out 2; have hfz17_3 := blk_frozen BK192.out 3; have hfz17_4 := blk_frozen BK192.out 4) | ((with_reducible refine gate_callee (f := 35) rfl ?_); refine goesL_ (some 19) rfl rfl Tryd.func35 (by kernel_rfl) rfl #[.int .i64 a0_1] rfl (by (try simp only [List.map_toArray, List.map_cons, List.map_nil]); first | done | rfl | (simp only [List.length_drop, List.length_take]; rfl)) ?_; (with_reducible refine (spec_N.calls a0_1 t203 t204 t205 t206 t209 _ A13.out).mono ?_); rintro e w18 ⟨v207, v210, rfl, ho0, ho1, hb⟩; refine ⟨_, rfl, ?_⟩; have n0_ := Aside0.mk (Kd.R_lower (Kd.R_newM (M := fun k_ => (w.heap.size ≤ k_)) ho0 (below_size (by repeat (first | (with_reducible first | exact HB.out | apply below_alloc | apply pw_below_drewN | apply below_drew1 | refine below_set ?_ GE192.out | refine below_set ?_ GE193.out) | exact HB.out))) (fun k_ h_ => h_)) (below_size (by repeat (first | (with_reducible first | exact HB.out | apply below_alloc | apply pw_below_drewN | apply below_drew1 | refine below_set ?_ GE192.out | refine below_set ?_ GE193.out) | exact HB.out)))); have n1_ := Aside0.mk (Kd.N_lower (Kd.N_mono (ok' := fun k_ => (w.heap.size ≤ k_) ∧ some k_ ≠ (v207 : Value).ownBlock ∧ k_ ≠ gb192 ∧ k_ ≠ gb193) (Kd.R_N (Kd.R_bound ho1)) (fun k_ hk_ => ⟨(Nat.le_trans (below_size (by repeat (first | (with_reducible first | exact HB.out | apply below_alloc | apply pw_below_drewN | apply below_drew1 | refine below_set ?_ GE192.out | refine below_set ?_ GE193.out) | exact HB.out))) hk_.2.1), hk_.1, (Kd.freshB (g := gb192) (o := .cells #[.int .i64 a0_0, .int .i64 a0_1, .string a0_2, .slice A0_3 l0_3.length c0_3, .slice A0_4 l0_4.length c0_4] 32 (0, 0)) (by (with_reducible repeat (first | refine blk_drewN ?_ _ | refine blk_drew ?_ | refine blk_alloc ?_ _)); exact BK192.out) k_ hk_.2.1), (Kd.freshB (g := gb193) (o := .cells #[.int .i64 0, .int .i64 0, .string (⟨#[]⟩ : ByteArray), .slice none 0 0, .slice none 0 0] 32 (0, 0)) (by (with_reducible repeat (first | refine blk_drewN ?_ _ | refine blk_drew ?_ | refine blk_alloc ?_ _)); exact BK193.out) k_ hk_.2.1)⟩)) (below_size (by repeat (first | (with_reducible first | exact HB.out | apply below_alloc | apply pw_below_drewN | apply below_drew1 | refine below_set ?_ GE192.out | refine below_set ?_ GE193.out) | exact HB.out)))); have n2_ := Aside0.mk (blk_below (g := gb192) (o := .cells #[.int .i64 a0_0, .int .i64 a0_1, .string a0_2, .slice A0_3 l0_3.length c0_3, .slice A0_4 l0_4.length c0_4] 32 (0, 0)) (by (with_reducible repeat (first | refine blk_drewN ?_ _ | refine blk_drew ?_ | refine blk_alloc ?_ _)); exact BK192.out) hb); have n3_ := Aside0.mk (blk_below (g := gb193) (o := .cells #[.int .i64 0, .int .i64 0, .string (⟨#[]⟩ : ByteArray), .slice none 0 0, .slice none 0 0] 32 (0, 0)) (by (with_reducible repeat (first | refine blk_drewN ?_ _ | refine blk_drew ?_ | refine blk_alloc ?_ _)); exact BK193.out) hb); have n4_ := Aside0.mk (below_step (by repeat (first | (with_reducible first | exact HB.out | apply below_alloc | apply pw_below_drewN | apply below_drew1 | refine below_set ?_ GE192.out | refine below_set ?_ GE193.out) | exact HB.out)) hb); clear BK192; clear BK193; clear HB; have HO208 := n0_; have HO211 := n1_; have BK192 := n2_; have BK193 := n3_; have HB := n4_; clear n0_ n1_ n2_ n3_ n4_; (try clear hb); (try clear hb2); (try clear hk); (try clear hi); (try clear ho0); (try clear ho1); have hcz19_0 : w18.cell? ⟨gb193, 0, none⟩ = some (.int .i64 0) := (blk_cell BK193.out 0).trans rfl; have hcz19_1 : w18.cell? ⟨gb193, 1, none⟩ = some (.int .i64 0) := (blk_cell BK193.out 1).trans rfl; have hcz19_2 : w18.cell? ⟨gb193, 2, none⟩ = some (.string (⟨#[]⟩ : ByteArray)) := (blk_cell BK193.out 2).trans rfl; have hcz19_3 : w18.cell? ⟨gb193, 3, none⟩ = some (.slice none 0 0) := (blk_cell BK193.out 3).trans rfl; have hcz19_4 : w18.cell? ⟨gb193, 4, none⟩ = some (.slice none 0 0) := (blk_cell BK193.out 4).trans rfl; have hfz19_0 := blk_frozen BK193.out 0; have hfz19_1 := blk_frozen BK193.out 1; have hfz19_2 := blk_frozen BK193.out 2; have hfz19_3 := blk_frozen BK193.out 3; have hfz19_4 := blk_frozen BK193.out 4; obtain ⟨Ao20, co20, eo20⟩ := Kd.R_slice HO208.out; subst eo20; obtain ⟨Ao21, co21, eo21⟩ := Kd.N_slice HO211.out; subst eo21))
   refine bodyPost_ret (results_cell_row rfl _ _ gb193 32 #[.int .i64 t203, .int .i64 t204, .string t205, .slice Ao20 t206.length co20, .slice Ao21 t209.length co21] (0, 0) _ rfl (by (with_reducible repeat (first | refine blk_drewN ?_ _ | refine blk_drew ?_ | refine blk_alloc ?_ _)); refine blk_put (cs := #[.int .i64 t203, .int .i64 t204, .string t205, .slice Ao20 t206.length co20, .slice none 0 0]) ?_ 4 _ rfl; (with_reducible repeat (first | refine blk_drewN ?_ _ | refine blk_drew ?_ | refine blk_alloc ?_ _)); refine blk_put (cs := #[.int .i64 t203, .int .i64 t204, .string t205, .slice none 0 0, .slice none 0 0]) ?_ 3 _ rfl; (with_reducible repeat (first | refine blk_drewN ?_ _ | refine blk_drew ?_ | refine blk_alloc ?_ _)); refine blk_put (cs := #[.int .i64 t203, .int .i64 t204, .string (⟨#[]⟩ : ByteArray), .slice none 0 0, .slice none 0 0]) ?_ 2 _ rfl; (with_reducible repeat (first | refine blk_drewN ?_ _ | refine blk_drew ?_ | refine blk_alloc ?_ _)); refine blk_put (cs := #[.int .i64 t203, .int .i64 0, .string (⟨#[]⟩ : ByteArray), .slice none 0 0, .slice none 0 0]) ?_ 1 _ rfl; (with_reducible repeat (first | refine blk_drewN ?_ _ | refine blk_drew ?_ | refine blk_alloc ?_ _)); refine blk_put (cs := #[.int .i64 0, .int .i64 0, .string (⟨#[]⟩ : ByteArray), .slice none 0 0, .slice none 0 0]) ?_ 0 _ rfl; (with_reducible repeat (first | refine blk_drewN ?_ _ | refine blk_drew ?_ | refine blk_alloc ?_ _)); exact BK193.out) Tryd.underlying32 rfl (by kernel_rfl)) rfl ?_
   exact ⟨_, _, by first | rfl | (simp [errW_none, errW_some] <;> rfl) | (simp [*, errW_none, errW_some] <;> rfl), by (with_reducible repeat (first | apply Kd.R_alloc | apply Kd.R_drewN | apply Kd.R_drew)); exact Kd.R_mono (Kd.R_far (p := ⟨gb193, 4, none⟩) (Kd.R_far (p := ⟨gb193, 3, none⟩) (Kd.R_far (p := ⟨gb193, 2, none⟩) (Kd.R_far (p := ⟨gb193, 1, none⟩) (Kd.R_far (p := ⟨gb193, 0, none⟩) (Kd.R_types HO208.out BK193.out (by decide)) (fun _ hk => hk.2) (.int .i64 t203)) (fun _ hk => hk.2) (.int .i64 t204)) (fun _ hk => hk.2) (.string t205)) (fun _ hk => hk.2) (.slice Ao20 t206.length co20)) (fun _ hk => hk.2) (.slice Ao21 t209.length co21)) (fun _ hk => hk.1.1), by (with_reducible repeat (first | apply Kd.N_alloc | apply Kd.N_drewN | apply Kd.N_drew)); exact Kd.N_mono (Kd.N_far (p := ⟨gb193, 4, none⟩) (Kd.N_far (p := ⟨gb193, 3, none⟩) (Kd.N_far (p := ⟨gb193, 2, none⟩) (Kd.N_far (p := ⟨gb193, 1, none⟩) (Kd.N_far (p := ⟨gb193, 0, none⟩) (Kd.N_mono HO211.out (fun k_ hk => (⟨hk, hk.2.2.2⟩ : _ ∧ k_ ≠ gb193))) (fun _ hk => hk.2) (.int .i64 t203)) (fun _ hk => hk.2) (.int .i64 t204)) (fun _ hk => hk.2) (.string t205)) (fun _ hk => hk.2) (.slice Ao20 t206.length co20)) (fun _ hk => hk.2) (.slice Ao21 t209.length co21)) (fun _ hk => ⟨hk.1.1, hk.1.2.1⟩), by repeat (first | (with_reducible first | exact HB.out | apply below_alloc | apply pw_below_drewN | apply below_drew1 | refine below_set ?_ GE192.out | refine below_set ?_ GE193.out) | exact HB.out)⟩
  ·rw [if_neg c12] at H
   have c12b0 : (a0_0 == 2) = false := beq_eq_false_iff_ne.mpr c12
   have c12b1 : (a0_0 != 2) = true := bne_iff_ne.mpr c12
   by_cases c22 : a0_0 = 3
   ·rw [if_pos c22] at H
    have c22b0 : (a0_0 == 3) = true := beq_iff_eq.mpr c22
    have c22b1 : (a0_0 != 3) = false := bne_eq_false_iff_eq.mpr c22
    clear c22
    replace H := Option.bind_eq_some_iff.mp H
    obtain ⟨⟨t212, t213, t214, t215, t218⟩, A230, H⟩ := H
    replace H : (some (t212, t213, t214, t215, t218)) = some (r1, r2, r3, r4, r5) := H
    have A23 := Aside0.mk A230
    clear A230
    simp only [Option.some.injEq, Prod.mk.injEq] at H
    obtain ⟨rfl, rfl, rfl, rfl, rfl⟩ := H
    go_enter Tryd.func13, Tryd.ntmps13
    go_wp2_with (first | ((with_reducible refine gate_dst (N := 1) rfl ?_); (try (refine gate_guard (by rfl) ?_; dsimp only)); refine box_event ?hg (N := 1) ?hd (cs := #[.int .i64 a0_0, .int .i64 a0_1, .string a0_2, .slice A0_3 l0_3.length c0_3, .slice A0_4 l0_4.length c0_4]) (t := 32) ?hr ?_; (case hd => rfl); (case hg => rfl); (case hr => first | (go_simp; done) | (go_simp; rfl)); intro gb192 hg w24 hbox hb; have n0_ := Aside0.mk (below_step (by repeat (first | (with_reducible first | exact HB.out | apply below_alloc | apply pw_below_drewN | apply below_drew1) | exact HB.out)) hb); have n1_ := Aside0.mk (hbox); have n2_ := Aside0.mk ((by rw [hg]; exact (below_size (by repeat (first | (with_reducible first | exact HB.out | apply below_alloc | apply pw_below_drewN | apply below_drew1) | exact HB.out))) : w.heap.size ≤ gb192)); have n3_ := Aside0.mk ((by rw [hg]; exact (below_size (by repeat (first | (with_reducible first | exact HB.out | apply below_alloc | apply pw_below_drewN | apply below_drew1) | exact HB.out))) : w.heap.size ≤ gb192)); clear HB; have HB := n0_; have BK192 := n1_; have GW192 := n2_; have GE192 := n3_; clear n0_ n1_ n2_ n3_; clear hb hbox hg) | ((with_reducible refine gate_dst (N := 2) rfl ?_); (try (refine gate_guard (by rfl) ?_; dsimp only)); refine box_event ?hg (N := 2) ?hd (cs := #[.int .i64 0, .int .i64 0, .string (⟨#[]⟩ : ByteArray), .slice none 0 0, .slice none 0 0]) (t := 32) ?hr ?_; (case hd => rfl); (case hg => rfl); (case hr => first | (go_simp; done) | (go_simp; rfl)); intro gb193 hg w25 hbox hb; have n0_ := Aside0.mk (blk_below (g := gb192) (o := .cells #[.int .i64 a0_0, .int .i64 a0_1, .string a0_2, .slice A0_3 l0_3.length c0_3, .slice A0_4 l0_4.length c0_4] 32 (0, 0)) (by (with_reducible repeat (first | refine blk_drewN ?_ _ | refine blk_drew ?_ | refine blk_alloc ?_ _)); exact BK192.out) hb); have n1_ := Aside0.mk (below_step (by repeat (first | (with_reducible first | exact HB.out | apply below_alloc | apply pw_below_drewN | apply below_drew1 | refine below_set ?_ GE192.out) | exact HB.out)) hb); have n2_ := Aside0.mk (hbox); have n3_ := Aside0.mk ((by rw [hg]; exact (below_size (by repeat (first | (with_reducible first | exact HB.out | apply below_alloc | apply pw_below_drewN | apply below_drew1 | refine below_set ?_ GE192.out) | exact HB.out))) : w.heap.size ≤ gb193)); have n4_ := Aside0.mk ((by rw [hg]; exact (below_size (by repeat (first | (with_reducible first | exact HB.out | apply below_alloc | apply pw_below_drewN | apply below_drew1 | refine below_set ?_ GE192.out) | exact HB.out))) : w.heap.size ≤ gb193)); have n5_ := Aside0.mk ((by rw [hg]; exact Nat.ne_of_lt (blk_lt (g := gb192) (o := .cells #[.int .i64 a0_0, .int .i64 a0_1, .string a0_2, .slice A0_3 l0_3.length c0_3, .slice A0_4 l0_4.length c0_4] 32 (0, 0)) (by (with_reducible repeat (first | refine blk_drewN ?_ _ | refine blk_drew ?_ | refine blk_alloc ?_ _)); exact BK192.out)) : gb192 ≠ gb193)); have n6_ := Aside0.mk ((by rw [hg]; exact Nat.ne_of_gt (blk_lt (g := gb192) (o := .cells #[.int .i64 a0_0, .int .i64 a0_1, .string a0_2, .slice A0_3 l0_3.length c0_3, .slice A0_4 l0_4.length c0_4] 32 (0, 0)) (by (with_reducible repeat (first | refine blk_drewN ?_ _ | refine blk_drew ?_ | refine blk_alloc ?_ _)); exact BK192.out)) : gb193 ≠ gb192)); clear BK192; clear HB; have BK192 := n0_; have HB := n1_; have BK193 := n2_; have GW193 := n3_; have GE193 := n4_; have NB192_193 := n5_; have NB193_192 := n6_; clear n0_ n1_ n2_ n3_ n4_ n5_ n6_; clear hb hbox hg; have hnb26 := NB192_193.out; have hnc26 := NB193_192.out; have hcz27_0 : w25.cell? ⟨gb192, 0, none⟩ = some (.int .i64 a0_0) := (blk_cell BK192.out 0).trans rfl; have hcz27_1 : w25.cell? ⟨gb192, 1, none⟩ = some (.int .i64 a0_1) := (blk_cell BK192.out 1).trans rfl; have hcz27_2 : w25.cell? ⟨gb192, 2, none⟩ = some (.string a0_2) := (blk_cell BK192.out 2).trans rfl; have hcz27_3 : w25.cell? ⟨gb192, 3, none⟩ = some (.slice A0_3 l0_3.length c0_3) := (blk_cell BK192.out 3).trans rfl; have hcz27_4 : w25.cell? ⟨gb192, 4, none⟩ = some (.slice A0_4 l0_4.length c0_4) := (blk_cell BK192.out 4).trans rfl; have hfz27_0 := blk_frozen BK192.out 0; have hfz27_1 := blk_frozen BK192.out 1; have hfz27_2 := blk_frozen BK192.out 2; have hfz27_3 := blk_frozen BK192.out 3; have hfz27_4 := blk_frozen BK192.out 4) | ((with_reducible refine gate_callee (f := 10) rfl ?_); refine goesL_ (some 24) rfl rfl Tryd.func10 (by kernel_rfl) rfl #[.string a0_2] rfl (by (try simp only [List.map_toArray, List.map_cons, List.map_nil]); first | done | rfl | (simp only [List.length_drop, List.length_take]; rfl)) ?_; (with_reducible refine (spec_T.calls a0_2 t212 t213 t214 t215 t218 _ A23.out).mono ?_); rintro e w28 ⟨v216, v219, rfl, ho0, ho1, hb⟩; refine ⟨_, rfl, ?_⟩; have n0_ := Aside0.mk (Kd.R_lower (Kd.R_newM (M := fun k_ => (w.heap.size ≤ k_)) ho0 (below_size (by repeat (first | (with_reducible first | exact HB.out | apply below_alloc | apply pw_below_drewN | apply below_drew1 | refine below_set ?_ GE192.out | refine below_set ?_ GE193.out) | exact HB.out))) (fun k_ h_ => h_)) (below_size (by repeat (first | (with_reducible first | exact HB.out | apply below_alloc | apply pw_below_drewN | apply below_drew1 | refine below_set ?_ GE192.out | refine below_set ?_ GE193.out) | exact HB.out)))); have n1_ := Aside0.mk (Kd.N_lower (Kd.N_mono (ok' := fun k_ => (w.heap.size ≤ k_) ∧ some k_ ≠ (v216 : Value).ownBlock ∧ k_ ≠ gb192 ∧ k_ ≠ gb193) (Kd.R_N (Kd.R_bound ho1)) (fun k_ hk_ => ⟨(Nat.le_trans (below_size (by repeat (first | (with_reducible first | exact HB.out | apply below_alloc | apply pw_below_drewN | apply below_drew1 | refine below_set ?_ GE192.out | refine below_set ?_ GE193.out) | exact HB.out))) hk_.2.1), hk_.1, (Kd.freshB (g := gb192) (o := .cells #[.int .i64 a0_0, .int .i64 a0_1, .string a0_2, .slice A0_3 l0_3.length c0_3, .slice A0_4 l0_4.length c0_4] 32 (0, 0)) (by (with_reducible repeat (first | refine blk_drewN ?_ _ | refine blk_drew ?_ | refine blk_alloc ?_ _)); exact BK192.out) k_ hk_.2.1), (Kd.freshB (g := gb193) (o := .cells #[.int .i64 0, .int .i64 0, .string (⟨#[]⟩ : ByteArray), .slice none 0 0, .slice none 0 0] 32 (0, 0)) (by (with_reducible repeat (first | refine blk_drewN ?_ _ | refine blk_drew ?_ | refine blk_alloc ?_ _)); exact BK193.out) k_ hk_.2.1)⟩)) (below_size (by repeat (first | (with_reducible first | exact HB.out | apply below_alloc | apply pw_below_drewN | apply below_drew1 | refine below_set ?_ GE192.out | refine below_set ?_ GE193.out) | exact HB.out)))); have n2_ := Aside0.mk (blk_below (g := gb192) (o := .cells #[.int .i64 a0_0, .int .i64 a0_1, .string a0_2, .slice A0_3 l0_3.length c0_3, .slice A0_4 l0_4.length c0_4] 32 (0, 0)) (by (with_reducible repeat (first | refine blk_drewN ?_ _ | refine blk_drew ?_ | refine blk_alloc ?_ _)); exact BK192.out) hb); have n3_ := Aside0.mk (blk_below (g := gb193) (o := .cells #[.int .i64 0, .int .i64 0, .string (⟨#[]⟩ : ByteArray), .slice none 0 0, .slice none 0 0] 32 (0, 0)) (by (with_reducible repeat (first | refine blk_drewN ?_ _ | refine blk_drew ?_ | refine blk_alloc ?_ _)); exact BK193.out) hb); have n4_ := Aside0.mk (below_step (by repeat (first | (with_reducible first | exact HB.out | apply below_alloc | apply pw_below_drewN | apply below_drew1 | refine below_set ?_ GE192.out | refine below_set ?_ GE193.out) | exact HB.out)) hb); clear BK192; clear BK193; clear HB; have HO217 := n0_; have HO220 := n1_; have BK192 := n2_; have BK193 := n3_; have HB := n4_; clear n0_ n1_ n2_ n3_ n4_; (try clear hb); (try clear hb2); (try clear hk); (try clear hi); (try clear ho0); (try clear ho1); have hcz29_0 : w28.cell? ⟨gb193, 0, none⟩ = some (.int .i64 0) := (blk_cell BK193.out 0).trans rfl; have hcz29_1 : w28.cell? ⟨gb193, 1, none⟩ = some (.int .i64 0) := (blk_cell BK193.out 1).trans rfl; have hcz29_2 : w28.cell? ⟨gb193, 2, none⟩ = some (.string (⟨#[]⟩ : ByteArray)) := (blk_cell BK193.out 2).trans rfl; have hcz29_3 : w28.cell? ⟨gb193, 3, none⟩ = some (.slice none 0 0) := (blk_cell BK193.out 3).trans rfl; have hcz29_4 : w28.cell? ⟨gb193, 4, none⟩ = some (.slice none 0 0) := (blk_cell BK193.out 4).trans rfl; have hfz29_0 := blk_frozen BK193.out 0; have hfz29_1 := blk_frozen BK193.out 1; have hfz29_2 := blk_frozen BK193.out 2; have hfz29_3 := blk_frozen BK193.out 3; have hfz29_4 := blk_frozen BK193.out 4; obtain ⟨Ao30, co30, eo30⟩ := Kd.R_slice HO217.out; subst eo30; obtain ⟨Ao31, co31, eo31⟩ := Kd.N_slice HO220.out; subst eo31))
    refine bodyPost_ret (results_cell_row rfl _ _ gb193 32 #[.int .i64 t212, .int .i64 t213, .string t214, .slice Ao30 t215.length co30, .slice Ao31 t218.length co31] (0, 0) _ rfl (by (with_reducible repeat (first | refine blk_drewN ?_ _ | refine blk_drew ?_ | refine blk_alloc ?_ _)); refine blk_put (cs := #[.int .i64 t212, .int .i64 t213, .string t214, .slice Ao30 t215.length co30, .slice none 0 0]) ?_ 4 _ rfl; (with_reducible repeat (first | refine blk_drewN ?_ _ | refine blk_drew ?_ | refine blk_alloc ?_ _)); refine blk_put (cs := #[.int .i64 t212, .int .i64 t213, .string t214, .slice none 0 0, .slice none 0 0]) ?_ 3 _ rfl; (with_reducible repeat (first | refine blk_drewN ?_ _ | refine blk_drew ?_ | refine blk_alloc ?_ _)); refine blk_put (cs := #[.int .i64 t212, .int .i64 t213, .string (⟨#[]⟩ : ByteArray), .slice none 0 0, .slice none 0 0]) ?_ 2 _ rfl; (with_reducible repeat (first | refine blk_drewN ?_ _ | refine blk_drew ?_ | refine blk_alloc ?_ _)); refine blk_put (cs := #[.int .i64 t212, .int .i64 0, .string (⟨#[]⟩ : ByteArray), .slice none 0 0, .slice none 0 0]) ?_ 1 _ rfl; (with_reducible repeat (first | refine blk_drewN ?_ _ | refine blk_drew ?_ | refine blk_alloc ?_ _)); refine blk_put (cs := #[.int .i64 0, .int .i64 0, .string (⟨#[]⟩ : ByteArray), .slice none 0 0, .slice none 0 0]) ?_ 0 _ rfl; (with_reducible repeat (first | refine blk_drewN ?_ _ | refine blk_drew ?_ | refine blk_alloc ?_ _)); exact BK193.out) Tryd.underlying32 rfl (by kernel_rfl)) rfl ?_
    exact ⟨_, _, by first | rfl | (simp [errW_none, errW_some] <;> rfl) | (simp [*, errW_none, errW_some] <;> rfl), by (with_reducible repeat (first | apply Kd.R_alloc | apply Kd.R_drewN | apply Kd.R_drew)); exact Kd.R_mono (Kd.R_far (p := ⟨gb193, 4, none⟩) (Kd.R_far (p := ⟨gb193, 3, none⟩) (Kd.R_far (p := ⟨gb193, 2, none⟩) (Kd.R_far (p := ⟨gb193, 1, none⟩) (Kd.R_far (p := ⟨gb193, 0, none⟩) (Kd.R_types HO217.out BK193.out (by decide)) (fun _ hk => hk.2) (.int .i64 t212)) (fun _ hk => hk.2) (.int .i64 t213)) (fun _ hk => hk.2) (.string t214)) (fun _ hk => hk.2) (.slice Ao30 t215.length co30)) (fun _ hk => hk.2) (.slice Ao31 t218.length co31)) (fun _ hk => hk.1.1), by (with_reducible repeat (first | apply Kd.N_alloc | apply Kd.N_drewN | apply Kd.N_drew)); exact Kd.N_mono (Kd.N_far (p := ⟨gb193, 4, none⟩) (Kd.N_far (p := ⟨gb193, 3, none⟩) (Kd.N_far (p := ⟨gb193, 2, none⟩) (Kd.N_far (p := ⟨gb193, 1, none⟩) (Kd.N_far (p := ⟨gb193, 0, none⟩) (Kd.N_mono HO220.out (fun k_ hk => (⟨hk, hk.2.2.2⟩ : _ ∧ k_ ≠ gb193))) (fun _ hk => hk.2) (.int .i64 t212)) (fun _ hk => hk.2) (.int .i64 t213)) (fun _ hk => hk.2) (.string t214)) (fun _ hk => hk.2) (.slice Ao30 t215.length co30)) (fun _ hk => hk.2) (.slice Ao31 t218.length co31)) (fun _ hk => ⟨hk.1.1, hk.1.2.1⟩), by repeat (first | (with_reducible first | exact HB.out | apply below_alloc | apply pw_below_drewN | apply below_drew1 | refine below_set ?_ GE192.out | refine below_set ?_ GE193.out) | exact HB.out)⟩
   ·rw [if_neg c22] at H
    have c22b0 : (a0_0 == 3) = false := beq_eq_false_iff_ne.mpr c22
    have c22b1 : (a0_0 != 3) = true := bne_iff_ne.mpr c22
    by_cases c32 : a0_0 = 4
    ·rw [if_pos c32] at H
     have c32b0 : (a0_0 == 4) = true := beq_iff_eq.mpr c32
     have c32b1 : (a0_0 != 4) = false := bne_eq_false_iff_eq.mpr c32
     clear c32
     have H' := Aside0.mk H
     clear H
     go_enter Tryd.func13, Tryd.ntmps13
     go_wp2_with (first | ((with_reducible refine gate_dst (N := 1) rfl ?_); (try (refine gate_guard (by rfl) ?_; dsimp only)); refine box_event ?hg (N := 1) ?hd (cs := #[.int .i64 a0_0, .int .i64 a0_1, .string a0_2, .slice A0_3 l0_3.length c0_3, .slice A0_4 l0_4.length c0_4]) (t := 32) ?hr ?_; (case hd => rfl); (case hg => rfl); (case hr => first | (go_simp; done) | (go_simp; rfl)); intro gb192 hg w33 hbox hb; have n0_ := Aside0.mk (below_step (by repeat (first | (with_reducible first | exact HB.out | apply below_alloc | apply pw_below_drewN | apply below_drew1) | exact HB.out)) hb); have n1_ := Aside0.mk (hbox); have n2_ := Aside0.mk ((by rw [hg]; exact (below_size (by repeat (first | (with_reducible first | exact HB.out | apply below_alloc | apply pw_below_drewN | apply below_drew1) | exact HB.out))) : w.heap.size ≤ gb192)); have n3_ := Aside0.mk ((by rw [hg]; exact (below_size (by repeat (first | (with_reducible first | exact HB.out | apply below_alloc | apply pw_below_drewN | apply below_drew1) | exact HB.out))) : w.heap.size ≤ gb192)); clear HB; have HB := n0_; have BK192 := n1_; have GW192 := n2_; have GE192 := n3_; clear n0_ n1_ n2_ n3_; clear hb hbox hg) | ((with_reducible refine gate_dst (N := 2) rfl ?_); (try (refine gate_guard (by rfl) ?_; dsimp only)); refine box_event ?hg (N := 2) ?hd (cs := #[.int .i64 0, .int .i64 0, .string (⟨#[]⟩ : ByteArray), .slice none 0 0, .slice none 0 0]) (t := 32) ?hr ?_; (case hd => rfl); (case hg => rfl); (case hr => first | (go_simp; done) | (go_simp; rfl)); intro gb193 hg w34 hbox hb; have n0_ := Aside0.mk (blk_below (g := gb192) (o := .cells #[.int .i64 a0_0, .int .i64 a0_1, .string a0_2, .slice A0_3 l0_3.length c0_3, .slice A0_4 l0_4.length c0_4] 32 (0, 0)) (by (with_reducible repeat (first | refine blk_drewN ?_ _ | refine blk_drew ?_ | refine blk_alloc ?_ _)); exact BK192.out) hb); have n1_ := Aside0.mk (below_step (by repeat (first | (with_reducible first | exact HB.out | apply below_alloc | apply pw_below_drewN | apply below_drew1 | refine below_set ?_ GE192.out) | exact HB.out)) hb); have n2_ := Aside0.mk (hbox); have n3_ := Aside0.mk ((by rw [hg]; exact (below_size (by repeat (first | (with_reducible first | exact HB.out | apply below_alloc | apply pw_below_drewN | apply below_drew1 | refine below_set ?_ GE192.out) | exact HB.out))) : w.heap.size ≤ gb193)); have n4_ := Aside0.mk ((by rw [hg]; exact (below_size (by repeat (first | (with_reducible first | exact HB.out | apply below_alloc | apply pw_below_drewN | apply below_drew1 | refine below_set ?_ GE192.out) | exact HB.out))) : w.heap.size ≤ gb193)); have n5_ := Aside0.mk ((by rw [hg]; exact Nat.ne_of_lt (blk_lt (g := gb192) (o := .cells #[.int .i64 a0_0, .int .i64 a0_1, .string a0_2, .slice A0_3 l0_3.length c0_3, .slice A0_4 l0_4.length c0_4] 32 (0, 0)) (by (with_reducible repeat (first | refine blk_drewN ?_ _ | refine blk_drew ?_ | refine blk_alloc ?_ _)); exact BK192.out)) : gb192 ≠ gb193)); have n6_ := Aside0.mk ((by rw [hg]; exact Nat.ne_of_gt (blk_lt (g := gb192) (o := .cells #[.int .i64 a0_0, .int .i64 a0_1, .string a0_2, .slice A0_3 l0_3.length c0_3, .slice A0_4 l0_4.length c0_4] 32 (0, 0)) (by (with_reducible repeat (first | refine blk_drewN ?_ _ | refine blk_drew ?_ | refine blk_alloc ?_ _)); exact BK192.out)) : gb193 ≠ gb192)); clear BK192; clear HB; have BK192 := n0_; have HB := n1_; have BK193 := n2_; have GW193 := n3_; have GE193 := n4_; have NB192_193 := n5_; have NB193_192 := n6_; clear n0_ n1_ n2_ n3_ n4_ n5_ n6_; clear hb hbox hg; have hnb35 := NB192_193.out; have hnc35 := NB193_192.out; have hcz36_0 : w34.cell? ⟨gb192, 0, none⟩ = some (.int .i64 a0_0) := (blk_cell BK192.out 0).trans rfl; have hcz36_1 : w34.cell? ⟨gb192, 1, none⟩ = some (.int .i64 a0_1) := (blk_cell BK192.out 1).trans rfl; have hcz36_2 : w34.cell? ⟨gb192, 2, none⟩ = some (.string a0_2) := (blk_cell BK192.out 2).trans rfl; have hcz36_3 : w34.cell? ⟨gb192, 3, none⟩ = some (.slice A0_3 l0_3.length c0_3) := (blk_cell BK192.out 3).trans rfl; have hcz36_4 : w34.cell? ⟨gb192, 4, none⟩ = some (.slice A0_4 l0_4.length c0_4) := (blk_cell BK192.out 4).trans rfl; have hfz36_0 := blk_frozen BK192.out 0; have hfz36_1 := blk_frozen BK192.out 1; have hfz36_2 := blk_frozen BK192.out 2; have hfz36_3 := blk_frozen BK192.out 3; have hfz36_4 := blk_frozen BK192.out 4) | ((with_reducible refine gate_dst (N := 3) rfl ?_); (try (refine gate_guard (by rfl) ?_; dsimp only)); refine box_event ?hg (N := 3) ?hd (cs := #[.int .i64 0, .int .i64 0, .string (⟨#[]⟩ : ByteArray), .slice none 0 0, .slice none 0 0]) (t := 32) ?hr ?_; (case hd => rfl); (case hg => rfl); (case hr => first | (go_simp; done) | (go_simp; rfl)); intro gb221 hg w37 hbox hb; have n0_ := Aside0.mk (blk_below (g := gb192) (o := .cells #[.int .i64 a0_0, .int .i64 a0_1, .string a0_2, .slice A0_3 l0_3.length c0_3, .slice A0_4 l0_4.length c0_4] 32 (0, 0)) (by (with_reducible repeat (first | refine blk_drewN ?_ _ | refine blk_drew ?_ | refine blk_alloc ?_ _)); exact BK192.out) hb); have n1_ := Aside0.mk (blk_below (g := gb193) (o := .cells #[.int .i64 0, .int .i64 0, .string (⟨#[]⟩ : ByteArray), .slice none 0 0, .slice none 0 0] 32 (0, 0)) (by (with_reducible repeat (first | refine blk_drewN ?_ _ | refine blk_drew ?_ | refine blk_alloc ?_ _)); exact BK193.out) hb); have n2_ := Aside0.mk (below_step (by repeat (first | (with_reducible first | exact HB.out | apply below_alloc | apply pw_below_drewN | apply below_drew1 | refine below_set ?_ GE192.out | refine below_set ?_ GE193.out) | exact HB.out)) hb); have n3_ := Aside0.mk (hbox); have n4_ := Aside0.mk ((by rw [hg]; exact (below_size (by repeat (first | (with_reducible first | exact HB.out | apply below_alloc | apply pw_below_drewN | apply below_drew1 | refine below_set ?_ GE192.out | refine below_set ?_ GE193.out) | exact HB.out))) : w.heap.size ≤ gb221)); have n5_ := Aside0.mk ((by rw [hg]; exact (below_size (by repeat (first | (with_reducible first | exact HB.out | apply below_alloc | apply pw_below_drewN | apply below_drew1 | refine below_set ?_ GE192.out | refine below_set ?_ GE193.out) | exact HB.out))) : w.heap.size ≤ gb221)); have n6_ := Aside0.mk ((by rw [hg]; exact Nat.ne_of_lt (blk_lt (g := gb192) (o := .cells #[.int .i64 a0_0, .int .i64 a0_1, .string a0_2, .slice A0_3 l0_3.length c0_3, .slice A0_4 l0_4.length c0_4] 32 (0, 0)) (by (with_reducible repeat (first | refine blk_drewN ?_ _ | refine blk_drew ?_ | refine blk_alloc ?_ _)); exact BK192.out)) : gb192 ≠ gb221)); have n7_ := Aside0.mk ((by rw [hg]; exact Nat.ne_of_gt (blk_lt (g := gb192) (o := .cells #[.int .i64 a0_0, .int .i64 a0_1, .string a0_2, .slice A0_3 l0_3.length c0_3, .slice A0_4 l0_4.length c0_4] 32 (0, 0)) (by (with_reducible repeat (first | refine blk_drewN ?_ _ | refine blk_drew ?_ | refine blk_alloc ?_ _)); exact BK192.out)) : gb221 ≠ gb192)); have n8_ := Aside0.mk ((by rw [hg]; exact Nat.ne_of_lt (blk_lt (g := gb193) (o := .cells #[.int .i64 0, .int .i64 0, .string (⟨#[]⟩ : ByteArray), .slice none 0 0, .slice none 0 0] 32 (0, 0)) (by (with_reducible repeat (first | refine blk_drewN ?_ _ | refine blk_drew ?_ | refine blk_alloc ?_ _)); exact BK193.out)) : gb193 ≠ gb221)); have n9_ := Aside0.mk ((by rw [hg]; exact Nat.ne_of_gt (blk_lt (g := gb193) (o := .cells #[.int .i64 0, .int .i64 0, .string (⟨#[]⟩ : ByteArray), .slice none 0 0, .slice none 0 0] 32 (0, 0)) (by (with_reducible repeat (first | refine blk_drewN ?_ _ | refine blk_drew ?_ | refine blk_alloc ?_ _)); exact BK193.out)) : gb221 ≠ gb193)); clear BK192; clear BK193; clear HB; have BK192 := n0_; have BK193 := n1_; have HB := n2_; have BK221 := n3_; have GW221 := n4_; have GE221 := n5_; have NB192_221 := n6_; have NB221_192 := n7_; have NB193_221 := n8_; have NB221_193 := n9_; clear n0_ n1_ n2_ n3_ n4_ n5_ n6_ n7_ n8_ n9_; clear hb hbox hg; have hnb38 := NB221_192.out; have hnc38 := NB192_221.out; have hnb39 := NB221_193.out; have hnc39 := NB193_221.out; have hcz40_0 : w37.cell? ⟨gb221, 0, none⟩ = some (.int .i64 0) := (blk_cell BK221.out 0).trans rfl; have hcz40_1 : w37.cell? ⟨gb221, 1, none⟩ = some (.int .i64 0) := (blk_cell BK221.out 1).trans rfl; have hcz40_2 : w37.cell? ⟨gb221, 2, none⟩ = some (.string (⟨#[]⟩ : ByteArray)) := (blk_cell BK221.out 2).trans rfl; have hcz40_3 : w37.cell? ⟨gb221, 3, none⟩ = some (.slice none 0 0) := (blk_cell BK221.out 3).trans rfl; have hcz40_4 : w37.cell? ⟨gb221, 4, none⟩ = some (.slice none 0 0) := (blk_cell BK221.out 4).trans rfl; have hfz40_0 := blk_frozen BK221.out 0; have hfz40_1 := blk_frozen BK221.out 1; have hfz40_2 := blk_frozen BK221.out 2; have hfz40_3 := blk_frozen BK221.out 3; have hfz40_4 := blk_frozen BK221.out 4))
     go_loopg [4] k (fun kq v4 w' => ∃ (x4_1 : Int) (x222004_1 : List (S32)) (u222004 : Value), v4 = .int .i64 x4_1 ∧ Aside0 (spec_Fit.l0 kq x4_1 a0_0 a0_1 a0_2 l0_3 l0_4 4 0 (⟨#[]⟩ : ByteArray) x222004_1 = some (r1, r2, r3, r4, r5)) ∧ Aside0 (kq ≤ k) ∧ Aside0 (Kd.N k32 32 w' w.heap.size (fun k_ => (w.heap.size ≤ k_) ∧ k_ ≠ gb192 ∧ k_ ≠ gb193 ∧ k_ ≠ gb221) u222004 x222004_1) ∧ Aside0 (w'.heap[gb192]? = some (.cells #[.int .i64 a0_0, .int .i64 a0_1, .string a0_2, (.slice A0_3 l0_3.length c0_3), (.slice A0_4 l0_4.length c0_4)] 32 (0, 0))) ∧ Aside0 (w'.heap[gb193]? = some (.cells #[.int .i64 0, .int .i64 0, .string (⟨#[]⟩ : ByteArray), (.slice none 0 0), (.slice none 0 0)] 32 (0, 0))) ∧ Aside0 (w'.heap[gb221]? = some (.cells #[.int .i64 4, .int .i64 0, .string (⟨#[]⟩ : ByteArray), (.slice none 0 0), u222004] 32 (0, 0))) ∧ Aside0 (Below w.heap.size w w'))
     case atStart => exact ⟨(0), (([] : List (S32))), (.slice none 0 0), (by first | rfl | (simp; done) | (simp [*]; done)), H', ⟨Nat.le_refl _⟩, ⟨by first | exact Kd.R_nil _ _ _ _ _ | exact Kd.N_nil _ _ _ _ _ | exact Kd.V_nil _ _ _ _ _ | exact Kd.Q_nil _ _ _ _ _ | exact Kd.S_nil _ _ _ _ _⟩, ⟨by (with_reducible repeat (first | refine blk_drewN ?_ _ | refine blk_drew ?_ | refine blk_alloc ?_ _)); refine blk_far ?_ NB192_221.out _; (with_reducible repeat (first | refine blk_drewN ?_ _ | refine blk_drew ?_ | refine blk_alloc ?_ _)); refine blk_far ?_ NB192_221.out _; (with_reducible repeat (first | refine blk_drewN ?_ _ | refine blk_drew ?_ | refine blk_alloc ?_ _)); refine blk_far ?_ NB192_221.out _; (with_reducible repeat (first | refine blk_drewN ?_ _ | refine blk_drew ?_ | refine blk_alloc ?_ _)); refine blk_far ?_ NB192_221.out _; (with_reducible repeat (first | refine blk_drewN ?_ _ | refine blk_drew ?_ | refine blk_alloc ?_ _)); refine blk_far ?_ NB192_221.out _; (with_reducible repeat (first | refine blk_drewN ?_ _ | refine blk_drew ?_ | refine blk_alloc ?_ _)); exact BK192.out⟩, ⟨by (with_reducible repeat (first | refine blk_drewN ?_ _ | refine blk_drew ?_ | refine blk_alloc ?_ _)); refine blk_far ?_ NB193_221.out _; (with_reducible repeat (first | refine blk_drewN ?_ _ | refine blk_drew ?_ | refine blk_alloc ?_ _)); refine blk_far ?_ NB193_221.out _; (with_reducible repeat (first | refine blk_drewN ?_ _ | refine blk_drew ?_ | refine blk_alloc ?_ _)); refine blk_far ?_ NB193_221.out _; (with_reducible repeat (first | refine blk_drewN ?_ _ | refine blk_drew ?_ | refine blk_alloc ?_ _)); refine blk_far ?_ NB193_221.out _; (with_reducible repeat (first | refine blk_drewN ?_ _ | refine blk_drew ?_ | refine blk_alloc ?_ _)); refine blk_far ?_ NB193_221.out _; (with_reducible repeat (first | refine blk_drewN ?_ _ | refine blk_drew ?_ | refine blk_alloc ?_ _)); exact BK193.out⟩, ⟨by (with_reducible repeat (first | refine blk_drewN ?_ _ | refine blk_drew ?_ | refine blk_alloc ?_ _)); refine blk_put (cs := #[.int .i64 4, .int .i64 0, .string (⟨#[]⟩ : ByteArray), .slice none 0 0, .slice none 0 0]) ?_ 4 _ rfl; (with_reducible repeat (first | refine blk_drewN ?_ _ | refine blk_drew ?_ | refine blk_alloc ?_ _)); refine blk_put (cs := #[.int .i64 4, .int .i64 0, .string (⟨#[]⟩ : ByteArray), .slice none 0 0, .slice none 0 0]) ?_ 3 _ rfl; (with_reducible repeat (first | refine blk_drewN ?_ _ | refine blk_drew ?_ | refine blk_alloc ?_ _)); refine blk_put (cs := #[.int .i64 4, .int .i64 0, .string (⟨#[]⟩ : ByteArray), .slice none 0 0, .slice none 0 0]) ?_ 2 _ rfl; (with_reducible repeat (first | refine blk_drewN ?_ _ | refine blk_drew ?_ | refine blk_alloc ?_ _)); refine blk_put (cs := #[.int .i64 4, .int .i64 0, .string (⟨#[]⟩ : ByteArray), .slice none 0 0, .slice none 0 0]) ?_ 1 _ rfl; (with_reducible repeat (first | refine blk_drewN ?_ _ | refine blk_drew ?_ | refine blk_alloc ?_ _)); refine blk_put (cs := #[.int .i64 0, .int .i64 0, .string (⟨#[]⟩ : ByteArray), .slice none 0 0, .slice none 0 0]) ?_ 0 _ rfl; (with_reducible repeat (first | refine blk_drewN ?_ _ | refine blk_drew ?_ | refine blk_alloc ?_ _)); exact BK221.out⟩, ⟨by repeat (first | (with_reducible first | exact HB.out | apply below_alloc | apply pw_below_drewN | apply below_drew1 | refine below_set ?_ GE192.out | refine below_set ?_ GE193.out | refine below_set ?_ GE221.out) | exact HB.out)⟩⟩
     case round =>
      clear H'
      try clear c1
      try clear c2
      try clear c2b0
      try clear c2b1
      try clear p2
      try clear c3
      try clear c6
      try clear c10
      try clear c12
      try clear c12b0
      try clear c12b1
      try clear c13
      try clear c16
      try clear c22
      try clear c22b0
      try clear c22b1
      try clear c26
      try clear c32
      try clear c32b0
      try clear c32b1
      try clear c34
      try clear c35
      try clear c38
      try clear c39
      try clear hcz17_0
      try clear hcz17_1
      try clear hcz17_2
      try clear hcz17_3
      try clear hcz17_4
      try clear hcz19_0
      try clear hcz19_1
      try clear hcz19_2
      try clear hcz19_3
      try clear hcz19_4
      try clear hcz27_0
      try clear hcz27_1
      try clear hcz27_2
      try clear hcz27_3
      try clear hcz27_4
      try clear hcz29_0
      try clear hcz29_1
      try clear hcz29_2
      try clear hcz29_3
      try clear hcz29_4
      try clear hcz36_0
      try clear hcz36_1
      try clear hcz36_2
      try clear hcz36_3
      try clear hcz36_4
      try clear hcz40_0
      try clear hcz40_1
      try clear hcz40_2
      try clear hcz40_3
      try clear hcz40_4
      try clear hcz7_0
      try clear hcz7_1
      try clear hcz7_2
      try clear hcz7_3
      try clear hcz7_4
      try clear hcz9_0
      try clear hcz9_1
      try clear hcz9_2
      try clear hcz9_3
      try clear hcz9_4
      try clear hfz17_0
      try clear hfz17_1
      try clear hfz17_2
      try clear hfz17_3
      try clear hfz17_4
      try clear hfz19_0
      try clear hfz19_1
      try clear hfz19_2
      try clear hfz19_3
      try clear hfz19_4
      try clear hfz27_0
      try clear hfz27_1
      try clear hfz27_2
      try clear hfz27_3
      try clear hfz27_4
      try clear hfz29_0
      try clear hfz29_1
      try clear hfz29_2
      try clear hfz29_3
      try clear hfz29_4
      try clear hfz36_0
      try clear hfz36_1
      try clear hfz36_2
      try clear hfz36_3
      try clear hfz36_4
      try clear hfz40_0
      try clear hfz40_1
      try clear hfz40_2
      try clear hfz40_3
      try clear hfz40_4
      try clear hfz7_0
      try clear hfz7_1
      try clear hfz7_2
      try clear hfz7_3
      try clear hfz7_4
      try clear hfz9_0
      try clear hfz9_1
      try clear hfz9_2
      try clear hfz9_3
      try clear hfz9_4
      obtain ⟨x4_1, x222004_1, u222004, rfl, HA, HK1, HO_222004, BK192, BK193, BK221, HB⟩ := hrel
      cases gk with
      | zero => exact absurd HA.out (by simp [spec_Fit.l0])
      | succ k1 =>
       have H := HA.out
       clear HA
       simp only [spec_Fit.l0] at H
       by_cases c41 : x4_1 < (l0_4.length : Int)
       ·rw [if_pos c41] at H
        have c41b0 : decide (x4_1 < (l0_4.length : Int)) = true := decide_eq_true c41
        clear c41
        by_cases c42 : 0 ≤ x4_1
        ·rw [if_pos c42] at H
         have c42b0 : decide (0 ≤ x4_1) = true := decide_eq_true c42
         clear c42
         replace H := Option.bind_eq_some_iff.mp H
         obtain ⟨⟨t223, t224, t225, t226, t229⟩, A430, H⟩ := H
         replace H : (if x222004_1.length < 1759218604441 then (spec_Fit.l0 k1 (wrap64 (x4_1 + 1)) a0_0 a0_1 a0_2 l0_3 l0_4 4 0 (⟨#[]⟩ : ByteArray) (x222004_1 ++ [(⟨t223, t224, t225, t226, t229⟩ : S32)])) else (none)) = some (r1, r2, r3, r4, r5) := H
         have A43 := Aside0.mk A430
         clear A430
         by_cases c44 : x222004_1.length < 1759218604441
         ·rw [if_pos c44] at H
          have LMc44 := Aside0.mk c44
          clear c44
          obtain ⟨y232, hy232⟩ : ∃ y_ : List (S32), y_ = (x222004_1 ++ [(⟨t223, t224, t225, t226, t229⟩ : S32)]) := ⟨_, rfl⟩
          replace H : (spec_Fit.l0 k1 (wrap64 (x4_1 + 1)) a0_0 a0_1 a0_2 l0_3 l0_4 4 0 (⟨#[]⟩ : ByteArray) y232) = some (r1, r2, r3, r4, r5) := by first | (rw [hy232]; with_reducible exact H) | (have H2_ := (Option.bind_some _ _).symm.trans H; rw [hy232]; with_reducible exact H2_) | (have H2_ := (Option.bind_some _ _).symm.trans H; with_reducible exact H2_) | with_reducible exact H | (rw [hy232]; exact H) | exact H
          have Ny232 := Aside0.mk hy232
          clear hy232
          have H' := Aside0.mk H
          clear H
          have hnb45 := NB192_193.out
          have hnc45 := NB193_192.out
          have hnb46 := NB192_221.out
          have hnc46 := NB221_192.out
          have hcz47_0 : wr.cell? ⟨gb192, 0, none⟩ = some (.int .i64 a0_0) := (blk_cell BK192.out 0).trans rfl
          have hcz47_1 : wr.cell? ⟨gb192, 1, none⟩ = some (.int .i64 a0_1) := (blk_cell BK192.out 1).trans rfl
          have hcz47_2 : wr.cell? ⟨gb192, 2, none⟩ = some (.string a0_2) := (blk_cell BK192.out 2).trans rfl
          have hcz47_3 : wr.cell? ⟨gb192, 3, none⟩ = some (.slice A0_3 l0_3.length c0_3) := (blk_cell BK192.out 3).trans rfl
          have hcz47_4 : wr.cell? ⟨gb192, 4, none⟩ = some (.slice A0_4 l0_4.length c0_4) := (blk_cell BK192.out 4).trans rfl
          have hfz47_0 := blk_frozen BK192.out 0
          have hfz47_1 := blk_frozen BK192.out 1
          have hfz47_2 := blk_frozen BK192.out 2
          have hfz47_3 := blk_frozen BK192.out 3
          have hfz47_4 := blk_frozen BK192.out 4
          try go_wp2
          have n0_ := Aside0.mk (Kd.N_drew HO_222004.out)
          have n1_ := Aside0.mk (blk_drew BK192.out)
          have n2_ := Aside0.mk (blk_drew BK193.out)
          have n3_ := Aside0.mk (blk_drew BK221.out)
          have n4_ := Aside0.mk (below_drew1 HB.out)
          clear HO_222004
          clear BK192
          clear BK193
          clear BK221
          clear HB
          have HO_222004 := n0_
          have BK192 := n1_
          have BK193 := n2_
          have BK221 := n3_
          have HB := n4_
          clear n0_ n1_ n2_ n3_ n4_
          have p222 : 0 ≤ (x4_1 : Int) := of_decide_eq_true (by first | (with_reducible assumption) | assumption)
          have q222 : x4_1 < (l0_4.length : Int) := of_decide_eq_true (by first | (with_reducible assumption) | assumption)
          obtain ⟨ad222, A222_3, c222_3, A222_4, c222_4, e222, hx222_0, hx222_1, hx222_2, hx222_3, hx222_4, hl222_3, hi222_3, hl222_4, hi222_4⟩ := at_T32 HR0_4.out x4_1 p222 q222
          have hw222_4 := hx222_4
          have hw222_3 := hx222_3
          have hw222_2 := hx222_2
          have hw222_1 := hx222_1
          have hw222_0 := hx222_0
          cases e222
          replace hx222_0 := (HB.out.cell (World.block_lt_of_cell? w _ hx222_0)).trans hx222_0
          replace hx222_1 := (HB.out.cell (World.block_lt_of_cell? w _ hx222_1)).trans hx222_1
          replace hx222_2 := (HB.out.cell (World.block_lt_of_cell? w _ hx222_2)).trans hx222_2
          replace hx222_3 := (HB.out.cell (World.block_lt_of_cell? w _ hx222_3)).trans hx222_3
          replace hx222_4 := (HB.out.cell (World.block_lt_of_cell? w _ hx222_4)).trans hx222_4
          have HR222_3 := Aside0.mk hi222_3
          have HC222_3 := Aside0.mk hl222_3
          clear hi222_3 hl222_3
          have HR222_4 := Aside0.mk hi222_4
          have HC222_4 := Aside0.mk hl222_4
          clear hi222_4 hl222_4
          replace p222 := eq_true p222
          replace q222 := eq_true q222
          refine start_ (n := 12) (S := fun w' => w'.cell? ⟨gb221, 0, none⟩ = some (.int .i64 4) ∧ w'.cell? ⟨gb221, 1, none⟩ = some (.int .i64 0) ∧ w'.cell? ⟨gb221, 2, none⟩ = some (.string (⟨#[]⟩ : ByteArray)) ∧ w'.cell? ⟨gb221, 3, none⟩ = some (.slice none 0 0) ∧ w'.cell? ⟨gb221, 4, none⟩ = some (u222004) ∧ w'.cell? ⟨gb192, 0, none⟩ = some (.int .i64 a0_0) ∧ w'.cell? ⟨gb192, 1, none⟩ = some (.int .i64 a0_1) ∧ w'.cell? ⟨gb192, 2, none⟩ = some (.string a0_2) ∧ w'.cell? ⟨gb192, 3, none⟩ = some (.slice A0_3 l0_3.length c0_3) ∧ w'.cell? ⟨gb192, 4, none⟩ = some (.slice (some ad222) l0_4.length c0_4) ∧ w'.cell? (ad222.add ((x4_1).toNat * 5)) = some (.int .i64 ((rd_T32 l0_4 x4_1).f0)) ∧ w'.cell? ⟨(ad222.add ((x4_1).toNat * 5)).block, (ad222.add ((x4_1).toNat * 5)).off + 1, none⟩ = some (.int .i64 ((rd_T32 l0_4 x4_1).f1)) ∧ w'.cell? ⟨(ad222.add ((x4_1).toNat * 5)).block, (ad222.add ((x4_1).toNat * 5)).off + 2, none⟩ = some (.string ((rd_T32 l0_4 x4_1).f2)) ∧ w'.cell? ⟨(ad222.add ((x4_1).toNat * 5)).block, (ad222.add ((x4_1).toNat * 5)).off + 3, none⟩ = some (.slice A222_3 ((rd_T32 l0_4 x4_1).f3).length c222_3) ∧ w'.cell? ⟨(ad222.add ((x4_1).toNat * 5)).block, (ad222.add ((x4_1).toNat * 5)).off + 4, none⟩ = some (.slice A222_4 ((rd_T32 l0_4 x4_1).f4).length c222_4)) (ds := [11]) #[false, false, false, false, false, false, false, false, false, false, false, false] (by kernel_rfl) rfl rfl ⟨(blk_cell BK221.out 0).trans rfl, (blk_cell BK221.out 1).trans rfl, (blk_cell BK221.out 2).trans rfl, (blk_cell BK221.out 3).trans rfl, (blk_cell BK221.out 4).trans rfl, (blk_cell BK192.out 0).trans rfl, (blk_cell BK192.out 1).trans rfl, (blk_cell BK192.out 2).trans rfl, (blk_cell BK192.out 3).trans rfl, (blk_cell BK192.out 4).trans rfl, ((HB.out.cell (World.block_lt_of_cell? w _ hw222_0)).trans hw222_0), ((HB.out.cell (World.block_lt_of_cell? w _ hw222_1)).trans hw222_1), ((HB.out.cell (World.block_lt_of_cell? w _ hw222_2)).trans hw222_2), ((HB.out.cell (World.block_lt_of_cell? w _ hw222_3)).trans hw222_3), ((HB.out.cell (World.block_lt_of_cell? w _ hw222_4)).trans hw222_4)⟩ (fun hHeld => ?_); refine with_tabW spec_Fit.tab13 spec_Fit.bits13 (fun HT_ HW_ => ?_)
          generalize wr.drew = w48 at HO_222004 BK192 BK193 BK221 HB HR222_3 HR222_4 hx222_0 hx222_1 hx222_2 hx222_3 hx222_4 hHeld ⊢
          refine pure_ (i := 0) (N := some 35) (v := ?_) (a' := ?_) #[true, false, false, false, false, false, false, false, false, false, false, false] rfl rfl (any_of HT_.out (by kernel_rfl)) (fun _ _ _ h => h) (Or.inl ⟨by rfl, ?_⟩) ?_ ?_
          rotate_left
          ·intro w'
           go_simp
           with_reducible rfl
          rotate_left
          ·simp only [Act.put, List.setIfInBounds_toArray, List.set_cons_zero, List.set_cons_succ, i64_w, i32_w]
           rfl
          refine pure_ (i := 2) (N := some 37) (v := ?_) (a' := ?_) #[true, false, true, false, false, false, false, false, false, false, false, false] rfl rfl (any_of HT_.out (by kernel_rfl)) (fun _ _ _ h => h) (Or.inl ⟨by rfl, ?_⟩) ?_ ?_
          rotate_left
          ·intro w'
           go_simp
           with_reducible rfl
          rotate_left
          ·simp only [Act.put, List.setIfInBounds_toArray, List.set_cons_zero, List.set_cons_succ, i64_w, i32_w]
           rfl
          refine pure_ (i := 4) (N := some 39) (v := ?_) (a' := ?_) #[true, false, true, false, true, false, false, false, false, false, false, false] rfl rfl (any_of HT_.out (by kernel_rfl)) (fun _ _ _ h => h) (Or.inl ⟨by rfl, ?_⟩) ?_ ?_
          rotate_left
          ·intro w'
           go_simp
           with_reducible rfl
          rotate_left
          ·simp only [Act.put, List.setIfInBounds_toArray, List.set_cons_zero, List.set_cons_succ, i64_w, i32_w]
           rfl
          refine take_ (i := 1) (N := some 36) (v := ?_) (a' := ?_) #[true, true, true, false, true, false, false, false, false, false, false, false] rfl rfl (take_ofW HT_.out HW_.out (by kernel_rfl)) (fun _ _ _ h => h) (Or.inl ⟨by rfl, ?_⟩) hHeld ?_ ?_
          rotate_left
          ·rintro w' ⟨s0, s1, s2, s3, s4, s5, s6, s7, s8, s9, s10, s11, s12, s13, s14⟩
           go_simp
           with_reducible rfl
          rotate_left
          ·simp only [Act.put, List.setIfInBounds_toArray, List.set_cons_zero, List.set_cons_succ, i64_w, i32_w]
           rfl
          refine take_ (i := 3) (N := some 38) (v := ?_) (a' := ?_) #[true, true, true, true, true, false, false, false, false, false, false, false] rfl rfl (take_ofW HT_.out HW_.out (by kernel_rfl)) (fun _ _ _ h => h) (Or.inl ⟨by rfl, ?_⟩) hHeld ?_ ?_
          rotate_left
          ·rintro w' ⟨s0, s1, s2, s3, s4, s5, s6, s7, s8, s9, s10, s11, s12, s13, s14⟩
           go_simp
           with_reducible rfl
          rotate_left
          ·simp only [Act.put, List.setIfInBounds_toArray, List.set_cons_zero, List.set_cons_succ, i64_w, i32_w]
           rfl
          refine pure_ (i := 5) (N := some 40) (v := ?_) (a' := ?_) #[true, true, true, true, true, true, false, false, false, false, false, false] rfl rfl (any_of HT_.out (by kernel_rfl)) (fun _ _ _ h => h) (Or.inl ⟨by rfl, ?_⟩) ?_ ?_
          rotate_left
          ·intro w'
           go_simp
           with_reducible rfl
          rotate_left
          ·simp only [Act.put, List.setIfInBounds_toArray, List.set_cons_zero, List.set_cons_succ, i64_w, i32_w]
           rfl
          refine take_ (i := 6) (N := some 41) (v := ?_) (a' := ?_) #[true, true, true, true, true, true, true, false, false, false, false, false] rfl rfl (take_ofW HT_.out HW_.out (by kernel_rfl)) (fun _ _ _ h => h) (Or.inl ⟨by rfl, ?_⟩) hHeld ?_ ?_
          rotate_left
          ·rintro w' ⟨s0, s1, s2, s3, s4, s5, s6, s7, s8, s9, s10, s11, s12, s13, s14⟩
           go_simp
           with_reducible rfl
          rotate_left
          ·simp only [Act.put, List.setIfInBounds_toArray, List.set_cons_zero, List.set_cons_succ, i64_w, i32_w]
           rfl
          refine one_ (i := 7) (N := some 42) #[true, true, true, true, true, true, true, true, false, false, false, false] rfl rfl (one_of HT_.out (by kernel_rfl)) (by decide) (fun K hK => ?_)
          refine goes_ Tryd.func13 (by kernel_rfl) rfl #[.agg #[.int .i64 ((rd_T32 l0_4 x4_1).f0), .int .i64 ((rd_T32 l0_4 x4_1).f1), .string ((rd_T32 l0_4 x4_1).f2), .slice A222_3 ((rd_T32 l0_4 x4_1).f3).length c222_3, .slice A222_4 ((rd_T32 l0_4 x4_1).f4).length c222_4]] (by rfl) rfl rfl (by (try simp only [List.map_toArray, List.map_cons, List.map_nil]); first | done | rfl | (simp only [List.length_drop, List.length_take]; rfl)) ?_
          with_reducible refine (ih k1 (by have := HK1.out; omega) ((rd_T32 l0_4 x4_1).f0) ((rd_T32 l0_4 x4_1).f1) ((rd_T32 l0_4 x4_1).f2) _ _ ((rd_T32 l0_4 x4_1).f3) _ _ ((rd_T32 l0_4 x4_1).f4) t223 t224 t225 t226 t229 _ ?side1 ?side2 ?side3 ?side4 A43.out).mono ?_
          (case side1 => repeat (first | exact (Kd.C_below HR222_3.out HB.out) | (with_reducible refine Kd.C_alloc ?_ _) | (with_reducible refine Kd.C_drewN ?_ _) | (with_reducible refine Kd.C_drew ?_)))
          (case side2 => exact HC222_3.out)
          (case side3 => repeat (first | exact (Kd.C_below HR222_4.out HB.out) | (with_reducible refine Kd.C_alloc ?_ _) | (with_reducible refine Kd.C_drewN ?_ _) | (with_reducible refine Kd.C_drew ?_)))
          (case side4 => exact HC222_4.out)
          rintro e w49 ⟨v227, v230, rfl, ho0, ho1, hb⟩
          refine ⟨_, rfl, ?_⟩
          have n0_ := Aside0.mk (Kd.N_mono (Kd.N_told (Kd.N_told (Kd.N_old (by (with_reducible repeat (first | apply Kd.N_alloc | apply Kd.N_drewN | apply Kd.N_drew)); exact HO_222004.out) hb) (Kd.R_base ho0)) (Kd.N_base ho1)) (fun _ h_ => h_.1))
          have n1_ := Aside0.mk (Kd.R_lower (Kd.R_newM (M := fun k_ => (w.heap.size ≤ k_)) (Kd.R_mono (ok' := fun k_ => True) ho0 (fun _ hk_ => trivial)) (below_size (by repeat (first | (with_reducible first | exact HB.out | apply below_alloc | apply pw_below_drewN | apply below_drew1 | refine below_set ?_ GE192.out | refine below_set ?_ GE193.out | refine below_set ?_ GE221.out) | exact HB.out))) (fun k_ h_ => h_)) (below_size (by repeat (first | (with_reducible first | exact HB.out | apply below_alloc | apply pw_below_drewN | apply below_drew1 | refine below_set ?_ GE192.out | refine below_set ?_ GE193.out | refine below_set ?_ GE221.out) | exact HB.out))))
          have n2_ := Aside0.mk (Kd.N_lower (Kd.N_mono (ok' := fun k_ => (w.heap.size ≤ k_) ∧ some k_ ≠ (v227 : Value).ownBlock ∧ some k_ ≠ (u222004 : Value).ownBlock ∧ k_ ≠ gb192 ∧ k_ ≠ gb193 ∧ k_ ≠ gb221) ho1 (fun k_ hk_ => ⟨(Nat.le_trans (below_size (by repeat (first | (with_reducible first | exact HB.out | apply below_alloc | apply pw_below_drewN | apply below_drew1 | refine below_set ?_ GE192.out | refine below_set ?_ GE193.out | refine below_set ?_ GE221.out) | exact HB.out))) hk_.1), hk_.2, (Kd.fresh' (Kd.N_lt (by (with_reducible repeat (first | apply Kd.N_alloc | apply Kd.N_drewN | apply Kd.N_drew)); exact HO_222004.out)) k_ hk_.1), (Kd.freshB (g := gb192) (o := .cells #[.int .i64 a0_0, .int .i64 a0_1, .string a0_2, .slice A0_3 l0_3.length c0_3, .slice (some ad222) l0_4.length c0_4] 32 (0, 0)) (by (with_reducible repeat (first | refine blk_drewN ?_ _ | refine blk_drew ?_ | refine blk_alloc ?_ _)); exact BK192.out) k_ hk_.1), (Kd.freshB (g := gb193) (o := .cells #[.int .i64 0, .int .i64 0, .string (⟨#[]⟩ : ByteArray), .slice none 0 0, .slice none 0 0] 32 (0, 0)) (by (with_reducible repeat (first | refine blk_drewN ?_ _ | refine blk_drew ?_ | refine blk_alloc ?_ _)); exact BK193.out) k_ hk_.1), (Kd.freshB (g := gb221) (o := .cells #[.int .i64 4, .int .i64 0, .string (⟨#[]⟩ : ByteArray), .slice none 0 0, u222004] 32 (0, 0)) (by (with_reducible repeat (first | refine blk_drewN ?_ _ | refine blk_drew ?_ | refine blk_alloc ?_ _)); exact BK221.out) k_ hk_.1)⟩)) (below_size (by repeat (first | (with_reducible first | exact HB.out | apply below_alloc | apply pw_below_drewN | apply below_drew1 | refine below_set ?_ GE192.out | refine below_set ?_ GE193.out | refine below_set ?_ GE221.out) | exact HB.out))))
          have n3_ := Aside0.mk (blk_below (g := gb192) (o := .cells #[.int .i64 a0_0, .int .i64 a0_1, .string a0_2, .slice A0_3 l0_3.length c0_3, .slice (some ad222) l0_4.length c0_4] 32 (0, 0)) (by (with_reducible repeat (first | refine blk_drewN ?_ _ | refine blk_drew ?_ | refine blk_alloc ?_ _)); exact BK192.out) hb)
          have n4_ := Aside0.mk (blk_below (g := gb193) (o := .cells #[.int .i64 0, .int .i64 0, .string (⟨#[]⟩ : ByteArray), .slice none 0 0, .slice none 0 0] 32 (0, 0)) (by (with_reducible repeat (first | refine blk_drewN ?_ _ | refine blk_drew ?_ | refine blk_alloc ?_ _)); exact BK193.out) hb)
          have n5_ := Aside0.mk (blk_below (g := gb221) (o := .cells #[.int .i64 4, .int .i64 0, .string (⟨#[]⟩ : ByteArray), .slice none 0 0, u222004] 32 (0, 0)) (by (with_reducible repeat (first | refine blk_drewN ?_ _ | refine blk_drew ?_ | refine blk_alloc ?_ _)); exact BK221.out) hb)
          have n6_ := Aside0.mk (below_step (by repeat (first | (with_reducible first | exact HB.out | apply below_alloc | apply pw_below_drewN | apply below_drew1 | refine below_set ?_ GE192.out | refine below_set ?_ GE193.out | refine below_set ?_ GE221.out) | exact HB.out)) hb)
          clear HO_222004
          clear BK192
          clear BK193
          clear BK221
          clear HB
          have HO_222004 := n0_
          have HO228 := n1_
          have HO231 := n2_
          have BK192 := n3_
          have BK193 := n4_
          have BK221 := n5_
          have HB := n6_
          clear n0_ n1_ n2_ n3_ n4_ n5_ n6_
          (try clear hb)
          (try clear hb2)
          (try clear hk)
          (try clear hi)
          (try clear ho0)
          (try clear ho1)
          obtain ⟨Ao51, co51, eo51⟩ := Kd.R_slice HO228.out
          (first | subst eo51 | (injection eo51 with f1_ f2_ f3_; have f4_ := f1_.symm; have f5_ := f3_.symm; clear f1_ f2_ f3_; subst f4_; subst f5_))
          obtain ⟨Ao52, co52, eo52⟩ := Kd.N_slice HO231.out
          (first | subst eo52 | (injection eo52 with f1_ f2_ f3_; have f4_ := f1_.symm; have f5_ := f3_.symm; clear f1_ f2_ f3_; subst f4_; subst f5_))
          refine hK.out _ _ ⟨(blk_cell BK221.out 0).trans rfl, (blk_cell BK221.out 1).trans rfl, (blk_cell BK221.out 2).trans rfl, (blk_cell BK221.out 3).trans rfl, (blk_cell BK221.out 4).trans rfl, (blk_cell BK192.out 0).trans rfl, (blk_cell BK192.out 1).trans rfl, (blk_cell BK192.out 2).trans rfl, (blk_cell BK192.out 3).trans rfl, (blk_cell BK192.out 4).trans rfl, ((HB.out.cell (World.block_lt_of_cell? w _ hw222_0)).trans hw222_0), ((HB.out.cell (World.block_lt_of_cell? w _ hw222_1)).trans hw222_1), ((HB.out.cell (World.block_lt_of_cell? w _ hw222_2)).trans hw222_2), ((HB.out.cell (World.block_lt_of_cell? w _ hw222_3)).trans hw222_3), ((HB.out.cell (World.block_lt_of_cell? w _ hw222_4)).trans hw222_4)⟩ (fun hHeld => ?_)
          clear hK K
          refine norm_ (a' := ?_) ?_ ?_
          rotate_left
          ·show Act.put _ (some 42) _ = _
           simp only [Act.put, List.setIfInBounds_toArray, List.set_cons_zero, List.set_cons_succ, i64_w, i32_w]
           rfl
          refine one_ (i := 8) (N := some 43) #[true, true, true, true, true, true, true, true, true, false, false, false] rfl rfl (one_of HT_.out (by kernel_rfl)) (by decide) (fun K hK => ?_)
          refine value_ (w1 := ?_) (v := ?_) (by rfl) rfl ?_ ?_
          rotate_left 2
          ·go_simp
           constructor
           ·rfl
           ·rfl
          refine hK.out _ _ ⟨(blk_cell (blk_alloc BK221.out _) 0).trans rfl, (blk_cell (blk_alloc BK221.out _) 1).trans rfl, (blk_cell (blk_alloc BK221.out _) 2).trans rfl, (blk_cell (blk_alloc BK221.out _) 3).trans rfl, (blk_cell (blk_alloc BK221.out _) 4).trans rfl, (blk_cell (blk_alloc BK192.out _) 0).trans rfl, (blk_cell (blk_alloc BK192.out _) 1).trans rfl, (blk_cell (blk_alloc BK192.out _) 2).trans rfl, (blk_cell (blk_alloc BK192.out _) 3).trans rfl, (blk_cell (blk_alloc BK192.out _) 4).trans rfl, (World.cell?_alloc_lt _ _ _ (World.block_lt_of_cell? _ _ (((HB.out.cell (World.block_lt_of_cell? w _ hw222_0)).trans hw222_0)))).trans (((HB.out.cell (World.block_lt_of_cell? w _ hw222_0)).trans hw222_0)), (World.cell?_alloc_lt _ _ _ (World.block_lt_of_cell? _ _ (((HB.out.cell (World.block_lt_of_cell? w _ hw222_1)).trans hw222_1)))).trans (((HB.out.cell (World.block_lt_of_cell? w _ hw222_1)).trans hw222_1)), (World.cell?_alloc_lt _ _ _ (World.block_lt_of_cell? _ _ (((HB.out.cell (World.block_lt_of_cell? w _ hw222_2)).trans hw222_2)))).trans (((HB.out.cell (World.block_lt_of_cell? w _ hw222_2)).trans hw222_2)), (World.cell?_alloc_lt _ _ _ (World.block_lt_of_cell? _ _ (((HB.out.cell (World.block_lt_of_cell? w _ hw222_3)).trans hw222_3)))).trans (((HB.out.cell (World.block_lt_of_cell? w _ hw222_3)).trans hw222_3)), (World.cell?_alloc_lt _ _ _ (World.block_lt_of_cell? _ _ (((HB.out.cell (World.block_lt_of_cell? w _ hw222_4)).trans hw222_4)))).trans (((HB.out.cell (World.block_lt_of_cell? w _ hw222_4)).trans hw222_4))⟩ (fun hHeld => ?_)
          clear hK K
          refine norm_ (a' := ?_) ?_ ?_
          rotate_left
          ·show Act.put _ (some 43) _ = _
           simp only [Act.put, List.setIfInBounds_toArray, List.set_cons_zero, List.set_cons_succ, i64_w, i32_w]
           rfl
          refine one_ (i := 9) (N := some 44) #[true, true, true, true, true, true, true, true, true, true, false, false] rfl rfl (one_of HT_.out (by kernel_rfl)) (by decide) (fun K hK => ?_)
          refine Kd.N_append_step k32 (w0 := w) w.heap.size (by rfl) (.tmp 36) (.tmp 43) 30 32 (.agg #[(.int .i64 0), (.int .i64 0), (.string ⟨#[]⟩), (.slice none 0 0), (.slice none 0 0)]) 80 rfl Tryd.underlying30 info32 rfl (by decide) (by omega) u222004 x222004_1 (⟨t223, t224, t225, t226, t229⟩ : S32) [.int .i64 t223, .int .i64 t224, .string t225, .slice Ao51 t226.length co51, .slice Ao52 t229.length co52] (fun k_ => (w.heap.size ≤ k_) ∧ k_ ≠ gb192 ∧ k_ ≠ gb193 ∧ k_ ≠ gb221) (fun k_ => ((fun k_ => (w.heap.size ≤ k_) ∧ k_ ≠ gb192 ∧ k_ ≠ gb193 ∧ k_ ≠ gb221)) k_ ∧ some k_ ≠ (u222004 : Value).ownBlock) rfl rfl ?aP (fun _ hk => hk) ?aF ?aO ?aB ?aS ?aL ?_
          (case aP => exact (k32_mkF _ _ (⟨t223, t224, t225, t226, t229⟩ : S32) (Kd.R_reads' (Kd.R_mono (ok' := (fun k_ => ((fun k_ => (w.heap.size ≤ k_) ∧ k_ ≠ gb192 ∧ k_ ≠ gb193 ∧ k_ ≠ gb221)) k_ ∧ some k_ ≠ (u222004 : Value).ownBlock)) (Kd.R_types (Kd.R_types (Kd.R_types (Kd.R_apart' (HO228.out) (Kd.N_typed HO_222004.out) (by decide)) BK192.out (by decide)) BK193.out (by decide)) BK221.out (by decide)) (fun k_ hk => ⟨⟨hk.1.1.1.1.1, ⟨hk.1.1.2, ⟨hk.1.2, hk.2⟩⟩⟩, hk.1.1.1.2⟩))).2.1 (Kd.R_F (Kd.R_mono (ok' := (fun k_ => ((fun k_ => (w.heap.size ≤ k_) ∧ k_ ≠ gb192 ∧ k_ ≠ gb193 ∧ k_ ≠ gb221)) k_ ∧ some k_ ≠ (u222004 : Value).ownBlock)) (Kd.R_types (Kd.R_types (Kd.R_types (Kd.R_apart' (HO228.out) (Kd.N_typed HO_222004.out) (by decide)) BK192.out (by decide)) BK193.out (by decide)) BK221.out (by decide)) (fun k_ hk => ⟨⟨hk.1.1.1.1.1, ⟨hk.1.1.2, ⟨hk.1.2, hk.2⟩⟩⟩, hk.1.1.1.2⟩))) (Kd.N_reads' (Kd.N_mono (ok' := (fun k_ => ((fun k_ => (w.heap.size ≤ k_) ∧ k_ ≠ gb192 ∧ k_ ≠ gb193 ∧ k_ ≠ gb221)) k_ ∧ some k_ ≠ (u222004 : Value).ownBlock)) (HO231.out) (fun k_ hk => ⟨⟨hk.1, ⟨hk.2.2.2.1, ⟨hk.2.2.2.2.1, hk.2.2.2.2.2⟩⟩⟩, hk.2.2.1⟩))).2.1 (Kd.N_F (Kd.N_mono (ok' := (fun k_ => ((fun k_ => (w.heap.size ≤ k_) ∧ k_ ≠ gb192 ∧ k_ ≠ gb193 ∧ k_ ≠ gb221)) k_ ∧ some k_ ≠ (u222004 : Value).ownBlock)) (HO231.out) (fun k_ hk => ⟨⟨hk.1, ⟨hk.2.2.2.1, ⟨hk.2.2.2.2.1, hk.2.2.2.2.2⟩⟩⟩, hk.2.2.1⟩)))))
          (case aB => exact (by repeat (first | (with_reducible first | exact HB.out | apply below_alloc | apply pw_below_drewN | apply below_drew1 | refine below_set ?_ GE192.out | refine below_set ?_ GE193.out | refine below_set ?_ GE221.out) | exact HB.out)))
          (case aF => exact (fun k_ hk => ⟨(Nat.le_trans (below_size (by repeat (first | (with_reducible first | exact HB.out | apply below_alloc | apply pw_below_drewN | apply below_drew1 | refine below_set ?_ GE192.out | refine below_set ?_ GE193.out | refine below_set ?_ GE221.out) | exact HB.out))) hk), Kd.freshB (g := gb192) (o := .cells #[.int .i64 a0_0, .int .i64 a0_1, .string a0_2, .slice A0_3 l0_3.length c0_3, .slice (some ad222) l0_4.length c0_4] 32 (0, 0)) (by (with_reducible repeat (first | refine blk_drewN ?_ _ | refine blk_drew ?_ | refine blk_alloc ?_ _)); exact BK192.out) k_ hk, Kd.freshB (g := gb193) (o := .cells #[.int .i64 0, .int .i64 0, .string (⟨#[]⟩ : ByteArray), .slice none 0 0, .slice none 0 0] 32 (0, 0)) (by (with_reducible repeat (first | refine blk_drewN ?_ _ | refine blk_drew ?_ | refine blk_alloc ?_ _)); exact BK193.out) k_ hk, Kd.freshB (g := gb221) (o := .cells #[.int .i64 4, .int .i64 0, .string (⟨#[]⟩ : ByteArray), .slice none 0 0, u222004] 32 (0, 0)) (by (with_reducible repeat (first | refine blk_drewN ?_ _ | refine blk_drew ?_ | refine blk_alloc ?_ _)); exact BK221.out) k_ hk⟩))
          (case aO => exact (by (with_reducible repeat (first | apply Kd.N_alloc | apply Kd.N_drewN | apply Kd.N_drew)); exact Kd.N_mono HO_222004.out (fun _ hk => ⟨hk.1.1.1, ⟨hk.1.1.2.1, ⟨hk.1.1.2.2.1, hk.1.1.2.2.2⟩⟩⟩)))
          (case aS => exact (below_size (by repeat (first | (with_reducible first | exact HB.out | apply below_alloc | apply pw_below_drewN | apply below_drew1 | refine below_set ?_ GE192.out | refine below_set ?_ GE193.out | refine below_set ?_ GE221.out) | exact HB.out))))
          (case aL => have := LMc44.out; omega)
          intro v233 w50 ho hb hg hat
          rw [← Ny232.out] at ho
          have n0_ := Aside0.mk (blk_grown (g := gb192) (o := .cells #[.int .i64 a0_0, .int .i64 a0_1, .string a0_2, .slice A0_3 l0_3.length c0_3, .slice (some ad222) l0_4.length c0_4] 32 (0, 0)) (by (with_reducible repeat (first | refine blk_drewN ?_ _ | refine blk_drew ?_ | refine blk_alloc ?_ _)); exact BK192.out) hg (Kd.N_away HO_222004.out (fun _ hk => hk.1.1.2.1)))
          have n1_ := Aside0.mk (blk_grown (g := gb193) (o := .cells #[.int .i64 0, .int .i64 0, .string (⟨#[]⟩ : ByteArray), .slice none 0 0, .slice none 0 0] 32 (0, 0)) (by (with_reducible repeat (first | refine blk_drewN ?_ _ | refine blk_drew ?_ | refine blk_alloc ?_ _)); exact BK193.out) hg (Kd.N_away HO_222004.out (fun _ hk => hk.1.1.2.2.1)))
          have n2_ := Aside0.mk (blk_grown (g := gb221) (o := .cells #[.int .i64 4, .int .i64 0, .string (⟨#[]⟩ : ByteArray), .slice none 0 0, u222004] 32 (0, 0)) (by (with_reducible repeat (first | refine blk_drewN ?_ _ | refine blk_drew ?_ | refine blk_alloc ?_ _)); exact BK221.out) hg (Kd.N_away HO_222004.out (fun _ hk => hk.1.1.2.2.2)))
          have n3_ := Aside0.mk (hb)
          have n4_ := Aside0.mk (ho)
          clear BK192
          clear BK193
          clear BK221
          clear HB
          clear HO_222004
          clear HO228
          clear HO231
          have BK192 := n0_
          have BK193 := n1_
          have BK221 := n2_
          have HB := n3_
          have HO234 := n4_
          clear n0_ n1_ n2_ n3_ n4_
          clear ho hb hg hat
          obtain ⟨Ao53, co53, eo53⟩ := Kd.N_slice HO234.out
          (first | subst eo53 | (injection eo53 with f1_ f2_ f3_; have f4_ := f1_.symm; have f5_ := f3_.symm; clear f1_ f2_ f3_; subst f4_; subst f5_))
          refine hK.out _ _ ⟨(blk_cell BK221.out 0).trans rfl, (blk_cell BK221.out 1).trans rfl, (blk_cell BK221.out 2).trans rfl, (blk_cell BK221.out 3).trans rfl, (blk_cell BK221.out 4).trans rfl, (blk_cell BK192.out 0).trans rfl, (blk_cell BK192.out 1).trans rfl, (blk_cell BK192.out 2).trans rfl, (blk_cell BK192.out 3).trans rfl, (blk_cell BK192.out 4).trans rfl, ((HB.out.cell (World.block_lt_of_cell? w _ hw222_0)).trans hw222_0), ((HB.out.cell (World.block_lt_of_cell? w _ hw222_1)).trans hw222_1), ((HB.out.cell (World.block_lt_of_cell? w _ hw222_2)).trans hw222_2), ((HB.out.cell (World.block_lt_of_cell? w _ hw222_3)).trans hw222_3), ((HB.out.cell (World.block_lt_of_cell? w _ hw222_4)).trans hw222_4)⟩ (fun hHeld => ?_)
          clear hK K
          refine norm_ (a' := ?_) ?_ ?_
          rotate_left
          ·show Act.put _ (some 44) _ = _
           simp only [Act.put, List.setIfInBounds_toArray, List.set_cons_zero, List.set_cons_succ, i64_w, i32_w]
           rfl
          refine pure_ (i := 10) (N := some 45) (v := ?_) (a' := ?_) #[true, true, true, true, true, true, true, true, true, true, true, false] rfl rfl (any_of HT_.out (by kernel_rfl)) (fun _ _ _ h => h) (Or.inl ⟨by rfl, ?_⟩) ?_ ?_
          rotate_left
          ·intro w'
           go_simp
           with_reducible rfl
          rotate_left
          ·simp only [Act.put, List.setIfInBounds_toArray, List.set_cons_zero, List.set_cons_succ, i64_w, i32_w]
           rfl
          refine last_ (i := 11) (N := none) #[true, true, true, true, true, true, true, true, true, true, true, true] rfl rfl (one_of HT_.out (by kernel_rfl)) (by decide) (fun K hK => ?_)
          have hs54 : w50.cell? ⟨gb221, 4, none⟩ = some (u222004) := (blk_cell BK221.out 4).trans rfl
          have hfs54 := blk_frozen BK221.out 4
          have hns54_0 := NB192_221.out
          have hns54_1 := NB193_221.out
          have hms54_0 := NB221_192.out
          have hms54_1 := NB221_193.out
          refine skip_ (w1 := ?_) (by rfl) rfl ?_ ?_
          rotate_left
          ·go_simp
           rfl
          refine hK.out _ _ ?_
          clear hK K
          refine done_ (done_of HT_.out (by kernel_rfl)) ?_
          try go_wp2
          go_roundg k1
          case measure => have := HK1.out; omega
          case rel => exact ⟨(wrap64 (x4_1 + 1)), (y232), (.slice Ao53 y232.length co53), (by first | rfl | (simp; done) | (simp [*]; done)), H', ⟨by have := HK1.out; omega⟩, ⟨by (with_reducible repeat (first | apply Kd.N_alloc | apply Kd.N_drewN | apply Kd.N_drew)); exact Kd.N_mono (Kd.N_far (p := ⟨gb221, 4, none⟩) (Kd.N_mono HO234.out (fun k_ hk => (⟨hk, hk.2.2.2⟩ : _ ∧ k_ ≠ gb221))) (fun _ hk => hk.2) (.slice Ao53 y232.length co53)) (fun _ hk => ⟨hk.1.1, ⟨hk.1.2.1, ⟨hk.1.2.2.1, hk.1.2.2.2⟩⟩⟩)⟩, ⟨by (with_reducible repeat (first | refine blk_drewN ?_ _ | refine blk_drew ?_ | refine blk_alloc ?_ _)); refine blk_far ?_ NB192_221.out _; (with_reducible repeat (first | refine blk_drewN ?_ _ | refine blk_drew ?_ | refine blk_alloc ?_ _)); exact BK192.out⟩, ⟨by (with_reducible repeat (first | refine blk_drewN ?_ _ | refine blk_drew ?_ | refine blk_alloc ?_ _)); refine blk_far ?_ NB193_221.out _; (with_reducible repeat (first | refine blk_drewN ?_ _ | refine blk_drew ?_ | refine blk_alloc ?_ _)); exact BK193.out⟩, ⟨by (with_reducible repeat (first | refine blk_drewN ?_ _ | refine blk_drew ?_ | refine blk_alloc ?_ _)); refine blk_put (cs := #[.int .i64 4, .int .i64 0, .string (⟨#[]⟩ : ByteArray), .slice none 0 0, u222004]) ?_ 4 _ rfl; (with_reducible repeat (first | refine blk_drewN ?_ _ | refine blk_drew ?_ | refine blk_alloc ?_ _)); exact BK221.out⟩, ⟨by repeat (first | (with_reducible first | exact HB.out | apply below_alloc | apply pw_below_drewN | apply below_drew1 | refine below_set ?_ GE192.out | refine below_set ?_ GE193.out | refine below_set ?_ GE221.out) | exact HB.out)⟩⟩
         ·rw [if_neg c44] at H
          exact absurd H (by simp)
        ·rw [if_neg c42] at H
         exact absurd H (by simp)
       ·rw [if_neg c41] at H
        have c41b0 : decide (x4_1 < (l0_4.length : Int)) = false := decide_eq_false c41
        clear c41
        simp only [Option.some.injEq, Prod.mk.injEq] at H
        obtain ⟨rfl, rfl, rfl, rfl, rfl⟩ := H
        have hnb55 := NB192_193.out
        have hnc55 := NB193_192.out
        have hnb56 := NB192_221.out
        have hnc56 := NB221_192.out
        have hcz57_0 : wr.cell? ⟨gb192, 0, none⟩ = some (.int .i64 a0_0) := (blk_cell BK192.out 0).trans rfl
        have hcz57_1 : wr.cell? ⟨gb192, 1, none⟩ = some (.int .i64 a0_1) := (blk_cell BK192.out 1).trans rfl
        have hcz57_2 : wr.cell? ⟨gb192, 2, none⟩ = some (.string a0_2) := (blk_cell BK192.out 2).trans rfl
        have hcz57_3 : wr.cell? ⟨gb192, 3, none⟩ = some (.slice A0_3 l0_3.length c0_3) := (blk_cell BK192.out 3).trans rfl
        have hcz57_4 : wr.cell? ⟨gb192, 4, none⟩ = some (.slice A0_4 l0_4.length c0_4) := (blk_cell BK192.out 4).trans rfl
        have hfz57_0 := blk_frozen BK192.out 0
        have hfz57_1 := blk_frozen BK192.out 1
        have hfz57_2 := blk_frozen BK192.out 2
        have hfz57_3 := blk_frozen BK192.out 3
        have hfz57_4 := blk_frozen BK192.out 4
        have hnb58 := NB221_193.out
        have hnc58 := NB193_221.out
        have hcz59_0 : wr.cell? ⟨gb221, 0, none⟩ = some (.int .i64 4) := (blk_cell BK221.out 0).trans rfl
        have hcz59_1 : wr.cell? ⟨gb221, 1, none⟩ = some (.int .i64 0) := (blk_cell BK221.out 1).trans rfl
        have hcz59_2 : wr.cell? ⟨gb221, 2, none⟩ = some (.string (⟨#[]⟩ : ByteArray)) := (blk_cell BK221.out 2).trans rfl
        have hcz59_3 : wr.cell? ⟨gb221, 3, none⟩ = some (.slice none 0 0) := (blk_cell BK221.out 3).trans rfl
        have hcz59_4 : wr.cell? ⟨gb221, 4, none⟩ = some (u222004) := (blk_cell BK221.out 4).trans rfl
        have hfz59_0 := blk_frozen BK221.out 0
        have hfz59_1 := blk_frozen BK221.out 1
        have hfz59_2 := blk_frozen BK221.out 2
        have hfz59_3 := blk_frozen BK221.out 3
        have hfz59_4 := blk_frozen BK221.out 4
        have hcz60_0 : wr.cell? ⟨gb193, 0, none⟩ = some (.int .i64 0) := (blk_cell BK193.out 0).trans rfl
        have hcz60_1 : wr.cell? ⟨gb193, 1, none⟩ = some (.int .i64 0) := (blk_cell BK193.out 1).trans rfl
        have hcz60_2 : wr.cell? ⟨gb193, 2, none⟩ = some (.string (⟨#[]⟩ : ByteArray)) := (blk_cell BK193.out 2).trans rfl
        have hcz60_3 : wr.cell? ⟨gb193, 3, none⟩ = some (.slice none 0 0) := (blk_cell BK193.out 3).trans rfl
        have hcz60_4 : wr.cell? ⟨gb193, 4, none⟩ = some (.slice none 0 0) := (blk_cell BK193.out 4).trans rfl
        have hfz60_0 := blk_frozen BK193.out 0
        have hfz60_1 := blk_frozen BK193.out 1
        have hfz60_2 := blk_frozen BK193.out 2
        have hfz60_3 := blk_frozen BK193.out 3
        have hfz60_4 := blk_frozen BK193.out 4
        obtain ⟨Ao61, co61, eo61⟩ := Kd.N_slice HO_222004.out
        subst eo61
        go_wp2
        refine bodyPost_ret (results_cell_row rfl _ _ gb193 32 #[.int .i64 4, .int .i64 0, .string (⟨#[]⟩ : ByteArray), .slice none 0 0, .slice Ao61 x222004_1.length co61] (0, 0) _ rfl (by (with_reducible repeat (first | refine blk_drewN ?_ _ | refine blk_drew ?_ | refine blk_alloc ?_ _)); refine blk_put (cs := #[.int .i64 4, .int .i64 0, .string (⟨#[]⟩ : ByteArray), .slice none 0 0, .slice none 0 0]) ?_ 4 _ rfl; (with_reducible repeat (first | refine blk_drewN ?_ _ | refine blk_drew ?_ | refine blk_alloc ?_ _)); refine blk_put (cs := #[.int .i64 4, .int .i64 0, .string (⟨#[]⟩ : ByteArray), .slice none 0 0, .slice none 0 0]) ?_ 3 _ rfl; (with_reducible repeat (first | refine blk_drewN ?_ _ | refine blk_drew ?_ | refine blk_alloc ?_ _)); refine blk_put (cs := #[.int .i64 4, .int .i64 0, .string (⟨#[]⟩ : ByteArray), .slice none 0 0, .slice none 0 0]) ?_ 2 _ rfl; (with_reducible repeat (first | refine blk_drewN ?_ _ | refine blk_drew ?_ | refine blk_alloc ?_ _)); refine blk_put (cs := #[.int .i64 4, .int .i64 0, .string (⟨#[]⟩ : ByteArray), .slice none 0 0, .slice none 0 0]) ?_ 1 _ rfl; (with_reducible repeat (first | refine blk_drewN ?_ _ | refine blk_drew ?_ | refine blk_alloc ?_ _)); refine blk_put (cs := #[.int .i64 0, .int .i64 0, .string (⟨#[]⟩ : ByteArray), .slice none 0 0, .slice none 0 0]) ?_ 0 _ rfl; (with_reducible repeat (first | refine blk_drewN ?_ _ | refine blk_drew ?_ | refine blk_alloc ?_ _)); exact BK193.out) Tryd.underlying32 rfl (by kernel_rfl)) rfl ?_
        exact ⟨_, _, by first | rfl | (simp [errW_none, errW_some] <;> rfl) | (simp [*, errW_none, errW_some] <;> rfl), by first | exact Kd.R_nil _ _ _ _ _ | exact Kd.N_nil _ _ _ _ _ | exact Kd.V_nil _ _ _ _ _ | exact Kd.Q_nil _ _ _ _ _ | exact Kd.S_nil _ _ _ _ _, by (with_reducible repeat (first | apply Kd.N_alloc | apply Kd.N_drewN | apply Kd.N_drew)); exact Kd.N_mono (Kd.N_far (p := ⟨gb193, 4, none⟩) (Kd.N_far (p := ⟨gb193, 3, none⟩) (Kd.N_far (p := ⟨gb193, 2, none⟩) (Kd.N_far (p := ⟨gb193, 1, none⟩) (Kd.N_far (p := ⟨gb193, 0, none⟩) (Kd.N_mono HO_222004.out (fun k_ hk => (⟨hk, hk.2.2.1⟩ : _ ∧ k_ ≠ gb193))) (fun _ hk => hk.2) (.int .i64 4)) (fun _ hk => hk.2) (.int .i64 0)) (fun _ hk => hk.2) (.string (⟨#[]⟩ : ByteArray))) (fun _ hk => hk.2) (.slice none 0 0)) (fun _ hk => hk.2) (.slice Ao61 x222004_1.length co61)) (fun _ hk => ⟨hk.1.1, (by simp [Value.ownBlock])⟩), by repeat (first | (with_reducible first | exact HB.out | apply below_alloc | apply pw_below_drewN | apply below_drew1 | refine below_set ?_ GE192.out | refine below_set ?_ GE193.out | refine below_set ?_ GE221.out) | exact HB.out)⟩
    ·rw [if_neg c32] at H
     have c32b0 : (a0_0 == 4) = false := beq_eq_false_iff_ne.mpr c32
     have c32b1 : (a0_0 != 4) = true := bne_iff_ne.mpr c32
     by_cases c62 : a0_0 = 5
     ·rw [if_pos c62] at H
      have c62b0 : (a0_0 == 5) = true := beq_iff_eq.mpr c62
      have c62b1 : (a0_0 != 5) = false := bne_eq_false_iff_eq.mpr c62
      clear c62
      replace H := Option.bind_eq_some_iff.mp H
      obtain ⟨⟨t235, t236, t237, t238, t241⟩, A630, H⟩ := H
      replace H : (spec_Fit.l1 k 0 a0_0 a0_1 a0_2 l0_3 l0_4 t235 t236 t237 t238 t241) = some (r1, r2, r3, r4, r5) := H
      have A63 := Aside0.mk A630
      clear A630
      have H' := Aside0.mk H
      clear H
      go_enter Tryd.func13, Tryd.ntmps13
      go_wp2_with (first | ((with_reducible refine gate_dst (N := 1) rfl ?_); (try (refine gate_guard (by rfl) ?_; dsimp only)); refine box_event ?hg (N := 1) ?hd (cs := #[.int .i64 a0_0, .int .i64 a0_1, .string a0_2, .slice A0_3 l0_3.length c0_3, .slice A0_4 l0_4.length c0_4]) (t := 32) ?hr ?_; (case hd => rfl); (case hg => rfl); (case hr => first | (go_simp; done) | (go_simp; rfl)); intro gb192 hg w64 hbox hb; have n0_ := Aside0.mk (below_step (by repeat (first | (with_reducible first | exact HB.out | apply below_alloc | apply pw_below_drewN | apply below_drew1) | exact HB.out)) hb); have n1_ := Aside0.mk (hbox); have n2_ := Aside0.mk ((by rw [hg]; exact (below_size (by repeat (first | (with_reducible first | exact HB.out | apply below_alloc | apply pw_below_drewN | apply below_drew1) | exact HB.out))) : w.heap.size ≤ gb192)); have n3_ := Aside0.mk ((by rw [hg]; exact (below_size (by repeat (first | (with_reducible first | exact HB.out | apply below_alloc | apply pw_below_drewN | apply below_drew1) | exact HB.out))) : w.heap.size ≤ gb192)); clear HB; have HB := n0_; have BK192 := n1_; have GW192 := n2_; have GE192 := n3_; clear n0_ n1_ n2_ n3_; clear hb hbox hg) | ((with_reducible refine gate_dst (N := 2) rfl ?_); (try (refine gate_guard (by rfl) ?_; dsimp only)); refine box_event ?hg (N := 2) ?hd (cs := #[.int .i64 0, .int .i64 0, .string (⟨#[]⟩ : ByteArray), .slice none 0 0, .slice none 0 0]) (t := 32) ?hr ?_; (case hd => rfl); (case hg => rfl); (case hr => first | (go_simp; done) | (go_simp; rfl)); intro gb193 hg w65 hbox hb; have n0_ := Aside0.mk (blk_below (g := gb192) (o := .cells #[.int .i64 a0_0, .int .i64 a0_1, .string a0_2, .slice A0_3 l0_3.length c0_3, .slice A0_4 l0_4.length c0_4] 32 (0, 0)) (by (with_reducible repeat (first | refine blk_drewN ?_ _ | refine blk_drew ?_ | refine blk_alloc ?_ _)); exact BK192.out) hb); have n1_ := Aside0.mk (below_step (by repeat (first | (with_reducible first | exact HB.out | apply below_alloc | apply pw_below_drewN | apply below_drew1 | refine below_set ?_ GE192.out) | exact HB.out)) hb); have n2_ := Aside0.mk (hbox); have n3_ := Aside0.mk ((by rw [hg]; exact (below_size (by repeat (first | (with_reducible first | exact HB.out | apply below_alloc | apply pw_below_drewN | apply below_drew1 | refine below_set ?_ GE192.out) | exact HB.out))) : w.heap.size ≤ gb193)); have n4_ := Aside0.mk ((by rw [hg]; exact (below_size (by repeat (first | (with_reducible first | exact HB.out | apply below_alloc | apply pw_below_drewN | apply below_drew1 | refine below_set ?_ GE192.out) | exact HB.out))) : w.heap.size ≤ gb193)); have n5_ := Aside0.mk ((by rw [hg]; exact Nat.ne_of_lt (blk_lt (g := gb192) (o := .cells #[.int .i64 a0_0, .int .i64 a0_1, .string a0_2, .slice A0_3 l0_3.length c0_3, .slice A0_4 l0_4.length c0_4] 32 (0, 0)) (by (with_reducible repeat (first | refine blk_drewN ?_ _ | refine blk_drew ?_ | refine blk_alloc ?_ _)); exact BK192.out)) : gb192 ≠ gb193)); have n6_ := Aside0.mk ((by rw [hg]; exact Nat.ne_of_gt (blk_lt (g := gb192) (o := .cells #[.int .i64 a0_0, .int .i64 a0_1, .string a0_2, .slice A0_3 l0_3.length c0_3, .slice A0_4 l0_4.length c0_4] 32 (0, 0)) (by (with_reducible repeat (first | refine blk_drewN ?_ _ | refine blk_drew ?_ | refine blk_alloc ?_ _)); exact BK192.out)) : gb193 ≠ gb192)); clear BK192; clear HB; have BK192 := n0_; have HB := n1_; have BK193 := n2_; have GW193 := n3_; have GE193 := n4_; have NB192_193 := n5_; have NB193_192 := n6_; clear n0_ n1_ n2_ n3_ n4_ n5_ n6_; clear hb hbox hg; have hnb66 := NB192_193.out; have hnc66 := NB193_192.out; have hcz67_0 : w65.cell? ⟨gb192, 0, none⟩ = some (.int .i64 a0_0) := (blk_cell BK192.out 0).trans rfl; have hcz67_1 : w65.cell? ⟨gb192, 1, none⟩ = some (.int .i64 a0_1) := (blk_cell BK192.out 1).trans rfl; have hcz67_2 : w65.cell? ⟨gb192, 2, none⟩ = some (.string a0_2) := (blk_cell BK192.out 2).trans rfl; have hcz67_3 : w65.cell? ⟨gb192, 3, none⟩ = some (.slice A0_3 l0_3.length c0_3) := (blk_cell BK192.out 3).trans rfl; have hcz67_4 : w65.cell? ⟨gb192, 4, none⟩ = some (.slice A0_4 l0_4.length c0_4) := (blk_cell BK192.out 4).trans rfl; have hfz67_0 := blk_frozen BK192.out 0; have hfz67_1 := blk_frozen BK192.out 1; have hfz67_2 := blk_frozen BK192.out 2; have hfz67_3 := blk_frozen BK192.out 3; have hfz67_4 := blk_frozen BK192.out 4) | ((with_reducible refine gate_callee (f := 31) rfl ?_); refine goesL_ (some 49) rfl rfl Tryd.func31 (by kernel_rfl) rfl #[] rfl (by (try simp only [List.map_toArray, List.map_cons, List.map_nil]); first | done | rfl | (simp only [List.length_drop, List.length_take]; rfl)) ?_; (with_reducible refine (spec_Empty.calls  t235 t236 t237 t238 t241 _ A63.out).mono ?_); rintro e w68 ⟨v239, v242, rfl, ho0, ho1, hb⟩; refine ⟨_, rfl, ?_⟩; have n0_ := Aside0.mk (Kd.R_lower (Kd.R_newM (M := fun k_ => (w.heap.size ≤ k_)) ho0 (below_size (by repeat (first | (with_reducible first | exact HB.out | apply below_alloc | apply pw_below_drewN | apply below_drew1 | refine below_set ?_ GE192.out | refine below_set ?_ GE193.out) | exact HB.out))) (fun k_ h_ => h_)) (below_size (by repeat (first | (with_reducible first | exact HB.out | apply below_alloc | apply pw_below_drewN | apply below_drew1 | refine below_set ?_ GE192.out | refine below_set ?_ GE193.out) | exact HB.out)))); have n1_ := Aside0.mk (Kd.N_lower (Kd.N_mono (ok' := fun k_ => (w.heap.size ≤ k_) ∧ some k_ ≠ (v239 : Value).ownBlock ∧ k_ ≠ gb192 ∧ k_ ≠ gb193) (Kd.R_N (Kd.R_bound ho1)) (fun k_ hk_ => ⟨(Nat.le_trans (below_size (by repeat (first | (with_reducible first | exact HB.out | apply below_alloc | apply pw_below_drewN | apply below_drew1 | refine below_set ?_ GE192.out | refine below_set ?_ GE193.out) | exact HB.out))) hk_.2.1), hk_.1, (Kd.freshB (g := gb192) (o := .cells #[.int .i64 a0_0, .int .i64 a0_1, .string a0_2, .slice A0_3 l0_3.length c0_3, .slice A0_4 l0_4.length c0_4] 32 (0, 0)) (by (with_reducible repeat (first | refine blk_drewN ?_ _ | refine blk_drew ?_ | refine blk_alloc ?_ _)); exact BK192.out) k_ hk_.2.1), (Kd.freshB (g := gb193) (o := .cells #[.int .i64 0, .int .i64 0, .string (⟨#[]⟩ : ByteArray), .slice none 0 0, .slice none 0 0] 32 (0, 0)) (by (with_reducible repeat (first | refine blk_drewN ?_ _ | refine blk_drew ?_ | refine blk_alloc ?_ _)); exact BK193.out) k_ hk_.2.1)⟩)) (below_size (by repeat (first | (with_reducible first | exact HB.out | apply below_alloc | apply pw_below_drewN | apply below_drew1 | refine below_set ?_ GE192.out | refine below_set ?_ GE193.out) | exact HB.out)))); have n2_ := Aside0.mk (blk_below (g := gb192) (o := .cells #[.int .i64 a0_0, .int .i64 a0_1, .string a0_2, .slice A0_3 l0_3.length c0_3, .slice A0_4 l0_4.length c0_4] 32 (0, 0)) (by (with_reducible repeat (first | refine blk_drewN ?_ _ | refine blk_drew ?_ | refine blk_alloc ?_ _)); exact BK192.out) hb); have n3_ := Aside0.mk (blk_below (g := gb193) (o := .cells #[.int .i64 0, .int .i64 0, .string (⟨#[]⟩ : ByteArray), .slice none 0 0, .slice none 0 0] 32 (0, 0)) (by (with_reducible repeat (first | refine blk_drewN ?_ _ | refine blk_drew ?_ | refine blk_alloc ?_ _)); exact BK193.out) hb); have n4_ := Aside0.mk (below_step (by repeat (first | (with_reducible first | exact HB.out | apply below_alloc | apply pw_below_drewN | apply below_drew1 | refine below_set ?_ GE192.out | refine below_set ?_ GE193.out) | exact HB.out)) hb); clear BK192; clear BK193; clear HB; have HO240 := n0_; have HO243 := n1_; have BK192 := n2_; have BK193 := n3_; have HB := n4_; clear n0_ n1_ n2_ n3_ n4_; (try clear hb); (try clear hb2); (try clear hk); (try clear hi); (try clear ho0); (try clear ho1)) | ((with_reducible refine gate_dst (N := 5) rfl ?_); (try (refine gate_guard (by rfl) ?_; dsimp only)); refine box_event ?hg (N := 5) ?hd (cs := #[.int .i64 0, .int .i64 0, .string (⟨#[]⟩ : ByteArray), .slice none 0 0, .slice none 0 0]) (t := 32) ?hr ?_; (case hd => rfl); (case hg => rfl); (case hr => first | (go_simp; done) | (go_simp; rfl)); intro gb244 hg w69 hbox hb; have n0_ := Aside0.mk (Kd.R_below (by (with_reducible repeat (first | apply Kd.R_alloc | apply Kd.R_drewN | apply Kd.R_drew)); exact HO240.out) hb); have n1_ := Aside0.mk (Kd.N_below (Kd.N_elderB (by (with_reducible repeat (first | apply Kd.N_alloc | apply Kd.N_drewN | apply Kd.N_drew)); exact HO243.out) gb244 (Nat.le_of_eq hg.symm)) hb); have n2_ := Aside0.mk (blk_below (g := gb192) (o := .cells #[.int .i64 a0_0, .int .i64 a0_1, .string a0_2, .slice A0_3 l0_3.length c0_3, .slice A0_4 l0_4.length c0_4] 32 (0, 0)) (by (with_reducible repeat (first | refine blk_drewN ?_ _ | refine blk_drew ?_ | refine blk_alloc ?_ _)); exact BK192.out) hb); have n3_ := Aside0.mk (blk_below (g := gb193) (o := .cells #[.int .i64 0, .int .i64 0, .string (⟨#[]⟩ : ByteArray), .slice none 0 0, .slice none 0 0] 32 (0, 0)) (by (with_reducible repeat (first | refine blk_drewN ?_ _ | refine blk_drew ?_ | refine blk_alloc ?_ _)); exact BK193.out) hb); have n4_ := Aside0.mk (below_step (by repeat (first | (with_reducible first | exact HB.out | apply below_alloc | apply pw_below_drewN | apply below_drew1 | refine below_set ?_ GE192.out | refine below_set ?_ GE193.out) | exact HB.out)) hb); have n5_ := Aside0.mk (hbox); have n6_ := Aside0.mk ((by rw [hg]; exact (below_size (by repeat (first | (with_reducible first | exact HB.out | apply below_alloc | apply pw_below_drewN | apply below_drew1 | refine below_set ?_ GE192.out | refine below_set ?_ GE193.out) | exact HB.out))) : w.heap.size ≤ gb244)); have n7_ := Aside0.mk ((by rw [hg]; exact (below_size (by repeat (first | (with_reducible first | exact HB.out | apply below_alloc | apply pw_below_drewN | apply below_drew1 | refine below_set ?_ GE192.out | refine below_set ?_ GE193.out) | exact HB.out))) : w.heap.size ≤ gb244)); have n8_ := Aside0.mk ((by rw [hg]; exact Nat.ne_of_lt (blk_lt (g := gb192) (o := .cells #[.int .i64 a0_0, .int .i64 a0_1, .string a0_2, .slice A0_3 l0_3.length c0_3, .slice A0_4 l0_4.length c0_4] 32 (0, 0)) (by (with_reducible repeat (first | refine blk_drewN ?_ _ | refine blk_drew ?_ | refine blk_alloc ?_ _)); exact BK192.out)) : gb192 ≠ gb244)); have n9_ := Aside0.mk ((by rw [hg]; exact Nat.ne_of_gt (blk_lt (g := gb192) (o := .cells #[.int .i64 a0_0, .int .i64 a0_1, .string a0_2, .slice A0_3 l0_3.length c0_3, .slice A0_4 l0_4.length c0_4] 32 (0, 0)) (by (with_reducible repeat (first | refine blk_drewN ?_ _ | refine blk_drew ?_ | refine blk_alloc ?_ _)); exact BK192.out)) : gb244 ≠ gb192)); have n10_ := Aside0.mk ((by rw [hg]; exact Nat.ne_of_lt (blk_lt (g := gb193) (o := .cells #[.int .i64 0, .int .i64 0, .string (⟨#[]⟩ : ByteArray), .slice none 0 0, .slice none 0 0] 32 (0, 0)) (by (with_reducible repeat (first | refine blk_drewN ?_ _ | refine blk_drew ?_ | refine blk_alloc ?_ _)); exact BK193.out)) : gb193 ≠ gb244)); have n11_ := Aside0.mk ((by rw [hg]; exact Nat.ne_of_gt (blk_lt (g := gb193) (o := .cells #[.int .i64 0, .int .i64 0, .string (⟨#[]⟩ : ByteArray), .slice none 0 0, .slice none 0 0] 32 (0, 0)) (by (with_reducible repeat (first | refine blk_drewN ?_ _ | refine blk_drew ?_ | refine blk_alloc ?_ _)); exact BK193.out)) : gb244 ≠ gb193)); clear HO240; clear HO243; clear BK192; clear BK193; clear HB; have HO240 := n0_; have HO243 := n1_; have BK192 := n2_; have BK193 := n3_; have HB := n4_; have BK244 := n5_; have GW244 := n6_; have GE244 := n7_; have NB192_244 := n8_; have NB244_192 := n9_; have NB193_244 := n10_; have NB244_193 := n11_; clear n0_ n1_ n2_ n3_ n4_ n5_ n6_ n7_ n8_ n9_ n10_ n11_; clear hb hbox hg; have hnb70 := NB244_192.out; have hnc70 := NB192_244.out; have hnb71 := NB244_193.out; have hnc71 := NB193_244.out; have hcz72_0 : w69.cell? ⟨gb244, 0, none⟩ = some (.int .i64 0) := (blk_cell BK244.out 0).trans rfl; have hcz72_1 : w69.cell? ⟨gb244, 1, none⟩ = some (.int .i64 0) := (blk_cell BK244.out 1).trans rfl; have hcz72_2 : w69.cell? ⟨gb244, 2, none⟩ = some (.string (⟨#[]⟩ : ByteArray)) := (blk_cell BK244.out 2).trans rfl; have hcz72_3 : w69.cell? ⟨gb244, 3, none⟩ = some (.slice none 0 0) := (blk_cell BK244.out 3).trans rfl; have hcz72_4 : w69.cell? ⟨gb244, 4, none⟩ = some (.slice none 0 0) := (blk_cell BK244.out 4).trans rfl; have hfz72_0 := blk_frozen BK244.out 0; have hfz72_1 := blk_frozen BK244.out 1; have hfz72_2 := blk_frozen BK244.out 2; have hfz72_3 := blk_frozen BK244.out 3; have hfz72_4 := blk_frozen BK244.out 4; obtain ⟨Ao73, co73, eo73⟩ := Kd.R_slice HO240.out; subst eo73; obtain ⟨Ao74, co74, eo74⟩ := Kd.N_slice HO243.out; subst eo74))
      go_loopg [6] k (fun kq v6 w' => ∃ (x6_1 : Int) (x245000_1 : Int) (x245001_1 : Int) (x245002_1 : ByteArray) (x245003_1 : List ByteArray) (x245004_1 : List (S32)) (u245003 : Value) (u245004 : Value), v6 = .int .i64 x6_1 ∧ Aside0 (spec_Fit.l1 kq x6_1 a0_0 a0_1 a0_2 l0_3 l0_4 x245000_1 x245001_1 x245002_1 x245003_1 x245004_1 = some (r1, r2, r3, r4, r5)) ∧ Aside0 (kq ≤ k) ∧ Aside0 (Kd.R Kd.string 9 w' w.heap.size (fun k_ => (w.heap.size ≤ k_)) u245003 x245003_1) ∧ Aside0 (Kd.N k32 32 w' w.heap.size (fun k_ => (w.heap.size ≤ k_) ∧ some k_ ≠ (u245003 : Value).ownBlock ∧ k_ ≠ gb192 ∧ k_ ≠ gb193 ∧ k_ ≠ gb244) u245004 x245004_1) ∧ Aside0 (w'.heap[gb192]? = some (.cells #[.int .i64 a0_0, .int .i64 a0_1, .string a0_2, (.slice A0_3 l0_3.length c0_3), (.slice A0_4 l0_4.length c0_4)] 32 (0, 0))) ∧ Aside0 (w'.heap[gb193]? = some (.cells #[.int .i64 0, .int .i64 0, .string (⟨#[]⟩ : ByteArray), (.slice none 0 0), (.slice none 0 0)] 32 (0, 0))) ∧ Aside0 (w'.heap[gb244]? = some (.cells #[.int .i64 x245000_1, .int .i64 x245001_1, .string x245002_1, u245003, u245004] 32 (0, 0))) ∧ Aside0 (Below w.heap.size w w'))
      case atStart => exact ⟨(0), (t235), (t236), (t237), (t238), (t241), (.slice Ao73 t238.length co73), (.slice Ao74 t241.length co74), (by first | rfl | (simp; done) | (simp [*]; done)), H', ⟨Nat.le_refl _⟩, ⟨by (with_reducible repeat (first | apply Kd.R_alloc | apply Kd.R_drewN | apply Kd.R_drew)); exact Kd.R_mono (Kd.R_far (p := ⟨gb244, 4, none⟩) (Kd.R_far (p := ⟨gb244, 3, none⟩) (Kd.R_far (p := ⟨gb244, 2, none⟩) (Kd.R_far (p := ⟨gb244, 1, none⟩) (Kd.R_far (p := ⟨gb244, 0, none⟩) (Kd.R_types HO240.out BK244.out (by decide)) (fun _ hk => hk.2) (.int .i64 t235)) (fun _ hk => hk.2) (.int .i64 t236)) (fun _ hk => hk.2) (.string t237)) (fun _ hk => hk.2) (.slice Ao73 t238.length co73)) (fun _ hk => hk.2) (.slice Ao74 t241.length co74)) (fun _ hk => hk.1.1)⟩, ⟨by (with_reducible repeat (first | apply Kd.N_alloc | apply Kd.N_drewN | apply Kd.N_drew)); exact Kd.N_mono (Kd.N_far (p := ⟨gb244, 4, none⟩) (Kd.N_far (p := ⟨gb244, 3, none⟩) (Kd.N_far (p := ⟨gb244, 2, none⟩) (Kd.N_far (p := ⟨gb244, 1, none⟩) (Kd.N_far (p := ⟨gb244, 0, none⟩) (Kd.N_mono HO243.out (fun k_ hk => (⟨hk, hk.2⟩ : _ ∧ k_ ≠ gb244))) (fun _ hk => hk.2) (.int .i64 t235)) (fun _ hk => hk.2) (.int .i64 t236)) (fun _ hk => hk.2) (.string t237)) (fun _ hk => hk.2) (.slice Ao73 t238.length co73)) (fun _ hk => hk.2) (.slice Ao74 t241.length co74)) (fun _ hk => ⟨hk.1.1.1, ⟨hk.1.1.2.1, ⟨hk.1.1.2.2.1, ⟨hk.1.1.2.2.2, hk.1.2⟩⟩⟩⟩)⟩, ⟨by (with_reducible repeat (first | refine blk_drewN ?_ _ | refine blk_drew ?_ | refine blk_alloc ?_ _)); refine blk_far ?_ NB192_244.out _; (with_reducible repeat (first | refine blk_drewN ?_ _ | refine blk_drew ?_ | refine blk_alloc ?_ _)); refine blk_far ?_ NB192_244.out _; (with_reducible repeat (first | refine blk_drewN ?_ _ | refine blk_drew ?_ | refine blk_alloc ?_ _)); refine blk_far ?_ NB192_244.out _; (with_reducible repeat (first | refine blk_drewN ?_ _ | refine blk_drew ?_ | refine blk_alloc ?_ _)); refine blk_far ?_ NB192_244.out _; (with_reducible repeat (first | refine blk_drewN ?_ _ | refine blk_drew ?_ | refine blk_alloc ?_ _)); refine blk_far ?_ NB192_244.out _; (with_reducible repeat (first | refine blk_drewN ?_ _ | refine blk_drew ?_ | refine blk_alloc ?_ _)); exact BK192.out⟩, ⟨by (with_reducible repeat (first | refine blk_drewN ?_ _ | refine blk_drew ?_ | refine blk_alloc ?_ _)); refine blk_far ?_ NB193_244.out _; (with_reducible repeat (first | refine blk_drewN ?_ _ | refine blk_drew ?_ | refine blk_alloc ?_ _)); refine blk_far ?_ NB193_244.out _; (with_reducible repeat (first | refine blk_drewN ?_ _ | refine blk_drew ?_ | refine blk_alloc ?_ _)); refine blk_far ?_ NB193_244.out _; (with_reducible repeat (first | refine blk_drewN ?_ _ | refine blk_drew ?_ | refine blk_alloc ?_ _)); refine blk_far ?_ NB193_244.out _; (with_reducible repeat (first | refine blk_drewN ?_ _ | refine blk_drew ?_ | refine blk_alloc ?_ _)); refine blk_far ?_ NB193_244.out _; (with_reducible repeat (first | refine blk_drewN ?_ _ | refine blk_drew ?_ | refine blk_alloc ?_ _)); exact BK193.out⟩, ⟨by (with_reducible repeat (first | refine blk_drewN ?_ _ | refine blk_drew ?_ | refine blk_alloc ?_ _)); refine blk_put (cs := #[.int .i64 t235, .int .i64 t236, .string t237, .slice Ao73 t238.length co73, .slice none 0 0]) ?_ 4 _ rfl; (with_reducible repeat (first | refine blk_drewN ?_ _ | refine blk_drew ?_ | refine blk_alloc ?_ _)); refine blk_put (cs := #[.int .i64 t235, .int .i64 t236, .string t237, .slice none 0 0, .slice none 0 0]) ?_ 3 _ rfl; (with_reducible repeat (first | refine blk_drewN ?_ _ | refine blk_drew ?_ | refine blk_alloc ?_ _)); refine blk_put (cs := #[.int .i64 t235, .int .i64 t236, .string (⟨#[]⟩ : ByteArray), .slice none 0 0, .slice none 0 0]) ?_ 2 _ rfl; (with_reducible repeat (first | refine blk_drewN ?_ _ | refine blk_drew ?_ | refine blk_alloc ?_ _)); refine blk_put (cs := #[.int .i64 t235, .int .i64 0, .string (⟨#[]⟩ : ByteArray), .slice none 0 0, .slice none 0 0]) ?_ 1 _ rfl; (with_reducible repeat (first | refine blk_drewN ?_ _ | refine blk_drew ?_ | refine blk_alloc ?_ _)); refine blk_put (cs := #[.int .i64 0, .int .i64 0, .string (⟨#[]⟩ : ByteArray), .slice none 0 0, .slice none 0 0]) ?_ 0 _ rfl; (with_reducible repeat (first | refine blk_drewN ?_ _ | refine blk_drew ?_ | refine blk_alloc ?_ _)); exact BK244.out⟩, ⟨by repeat (first | (with_reducible first | exact HB.out | apply below_alloc | apply pw_below_drewN | apply below_drew1 | refine below_set ?_ GE192.out | refine below_set ?_ GE193.out | refine below_set ?_ GE244.out) | exact HB.out)⟩⟩
      case round =>
       clear H'
       try clear c1
       try clear c2
       try clear c2b0
       try clear c2b1
       try clear p2
       try clear q2
       try clear hx2
       try clear c3
       try clear c4
       try clear c5
       try clear c6
       try clear p6
       try clear c7
       try clear c10
       try clear c12
       try clear c12b0
       try clear c12b1
       try clear c13
       try clear c16
       try clear c22
       try clear c22b0
       try clear c22b1
       try clear p22
       try clear q22
       try clear hx22
       try clear c26
       try clear c31
       try clear c32
       try clear c32b0
       try clear c32b1
       try clear c34
       try clear c35
       try clear c38
       try clear c39
       try clear c41
       try clear c41b0
       try clear c42
       try clear c42b0
       try clear c44
       try clear c45
       try clear c46
       try clear c55
       try clear c56
       try clear c58
       try clear c62
       try clear c62b0
       try clear c62b1
       try clear p64
       try clear c66
       try clear c70
       try clear c71
       try clear hcz17_0
       try clear hcz17_1
       try clear hcz17_2
       try clear hcz17_3
       try clear hcz17_4
       try clear hcz19_0
       try clear hcz19_1
       try clear hcz19_2
       try clear hcz19_3
       try clear hcz19_4
       try clear hcz27_0
       try clear hcz27_1
       try clear hcz27_2
       try clear hcz27_3
       try clear hcz27_4
       try clear hcz29_0
       try clear hcz29_1
       try clear hcz29_2
       try clear hcz29_3
       try clear hcz29_4
       try clear hcz36_0
       try clear hcz36_1
       try clear hcz36_2
       try clear hcz36_3
       try clear hcz36_4
       try clear hcz40_0
       try clear hcz40_1
       try clear hcz40_2
       try clear hcz40_3
       try clear hcz40_4
       try clear hcz47_0
       try clear hcz47_1
       try clear hcz47_2
       try clear hcz47_3
       try clear hcz47_4
       try clear hcz57_0
       try clear hcz57_1
       try clear hcz57_2
       try clear hcz57_3
       try clear hcz57_4
       try clear hcz59_0
       try clear hcz59_1
       try clear hcz59_2
       try clear hcz59_3
       try clear hcz59_4
       try clear hcz60_0
       try clear hcz60_1
       try clear hcz60_2
       try clear hcz60_3
       try clear hcz60_4
       try clear hcz67_0
       try clear hcz67_1
       try clear hcz67_2
       try clear hcz67_3
       try clear hcz67_4
       try clear hcz72_0
       try clear hcz72_1
       try clear hcz72_2
       try clear hcz72_3
       try clear hcz72_4
       try clear hcz7_0
       try clear hcz7_1
       try clear hcz7_2
       try clear hcz7_3
       try clear hcz7_4
       try clear hcz9_0
       try clear hcz9_1
       try clear hcz9_2
       try clear hcz9_3
       try clear hcz9_4
       try clear hfz17_0
       try clear hfz17_1
       try clear hfz17_2
       try clear hfz17_3
       try clear hfz17_4
       try clear hfz19_0
       try clear hfz19_1
       try clear hfz19_2
       try clear hfz19_3
       try clear hfz19_4
       try clear hfz27_0
       try clear hfz27_1
       try clear hfz27_2
       try clear hfz27_3
       try clear hfz27_4
       try clear hfz29_0
       try clear hfz29_1
       try clear hfz29_2
       try clear hfz29_3
       try clear hfz29_4
       try clear hfz36_0
       try clear hfz36_1
       try clear hfz36_2
       try clear hfz36_3
       try clear hfz36_4
       try clear hfz40_0
       try clear hfz40_1
       try clear hfz40_2
       try clear hfz40_3
       try clear hfz40_4
       try clear hfz47_0
       try clear hfz47_1
       try clear hfz47_2
       try clear hfz47_3
       try clear hfz47_4
       try clear hfz57_0
       try clear hfz57_1
       try clear hfz57_2
       try clear hfz57_3
       try clear hfz57_4
       try clear hfz59_0
       try clear hfz59_1
       try clear hfz59_2
       try clear hfz59_3
       try clear hfz59_4
       try clear hfz60_0
       try clear hfz60_1
       try clear hfz60_2
       try clear hfz60_3
       try clear hfz60_4
       try clear hfz67_0
       try clear hfz67_1
       try clear hfz67_2
       try clear hfz67_3
       try clear hfz67_4
       try clear hfz72_0
       try clear hfz72_1
       try clear hfz72_2
       try clear hfz72_3
       try clear hfz72_4
       try clear hfz7_0
       try clear hfz7_1
       try clear hfz7_2
       try clear hfz7_3
       try clear hfz7_4
       try clear hfz9_0
       try clear hfz9_1
       try clear hfz9_2
       try clear hfz9_3
       try clear hfz9_4
       try clear hx222_0
       try clear hx222_1
       try clear hx222_2
       try clear hx222_3
       try clear hx222_4
       try clear p2
       try clear p222
       try clear q222
       obtain ⟨x6_1, x245000_1, x245001_1, x245002_1, x245003_1, x245004_1, u245003, u245004, rfl, HA, HK1, HO_245003, HO_245004, BK192, BK193, BK244, HB⟩ := hrel
       cases gk with
       | zero => exact absurd HA.out (by simp [spec_Fit.l1])
       | succ k1 =>
        have H := HA.out
        clear HA
        simp only [spec_Fit.l1] at H
        have HC75 := Aside0.mk H
        clear H
        go_upto_region 18 with (fail)
        go_cut [61] (fun v61 wc => ∃ (kq : Nat) (x61_74 : Bool), v61 = .bool x61_74 ∧ Aside0 (spec_Fit.j2 kq x6_1 x61_74 a0_0 a0_1 a0_2 l0_3 l0_4 x245000_1 x245001_1 x245002_1 x245003_1 x245004_1 = some (r1, r2, r3, r4, r5)) ∧ Aside0 (kq ≤ k1) ∧ Aside0 (Kd.R Kd.string 9 wc w.heap.size (fun k_ => (w.heap.size ≤ k_)) u245003 x245003_1) ∧ Aside0 (Kd.N k32 32 wc w.heap.size (fun k_ => (w.heap.size ≤ k_) ∧ some k_ ≠ (u245003 : Value).ownBlock ∧ k_ ≠ gb192 ∧ k_ ≠ gb193 ∧ k_ ≠ gb244) u245004 x245004_1) ∧ Aside0 (wc.heap[gb192]? = some (.cells #[.int .i64 a0_0, .int .i64 a0_1, .string a0_2, (.slice A0_3 l0_3.length c0_3), (.slice A0_4 l0_4.length c0_4)] 32 (0, 0))) ∧ Aside0 (wc.heap[gb193]? = some (.cells #[.int .i64 0, .int .i64 0, .string (⟨#[]⟩ : ByteArray), (.slice none 0 0), (.slice none 0 0)] 32 (0, 0))) ∧ Aside0 (wc.heap[gb244]? = some (.cells #[.int .i64 x245000_1, .int .i64 x245001_1, .string x245002_1, u245003, u245004] 32 (0, 0))) ∧ Aside0 (Below w.heap.size w wc))
        case first =>
         have H := HC75.out
         clear HC75
         by_cases c76 : x6_1 < (l0_3.length : Int)
         ·rw [if_pos c76] at H
          have c76b0 : decide (x6_1 < (l0_3.length : Int)) = true := decide_eq_true c76
          clear c76
          (first | rw [c76b0] | (simp only [i64_w, i32_w]; rw [c76b0]) | skip)
          have H' := Aside0.mk H
          clear H
          have hnb77 := NB192_193.out
          have hnc77 := NB193_192.out
          have hnb78 := NB192_244.out
          have hnc78 := NB244_192.out
          have hcz79_0 : wr.cell? ⟨gb192, 0, none⟩ = some (.int .i64 a0_0) := (blk_cell BK192.out 0).trans rfl
          have hcz79_1 : wr.cell? ⟨gb192, 1, none⟩ = some (.int .i64 a0_1) := (blk_cell BK192.out 1).trans rfl
          have hcz79_2 : wr.cell? ⟨gb192, 2, none⟩ = some (.string a0_2) := (blk_cell BK192.out 2).trans rfl
          have hcz79_3 : wr.cell? ⟨gb192, 3, none⟩ = some (.slice A0_3 l0_3.length c0_3) := (blk_cell BK192.out 3).trans rfl
          have hcz79_4 : wr.cell? ⟨gb192, 4, none⟩ = some (.slice A0_4 l0_4.length c0_4) := (blk_cell BK192.out 4).trans rfl
          have hfz79_0 := blk_frozen BK192.out 0
          have hfz79_1 := blk_frozen BK192.out 1
          have hfz79_2 := blk_frozen BK192.out 2
          have hfz79_3 := blk_frozen BK192.out 3
          have hfz79_4 := blk_frozen BK192.out 4
          go_wp2
          go_meet
          case rel => exact ⟨_, (decide (x6_1 < (l0_4.length : Int))), (by first | rfl | (simp; done) | (simp [*]; done)), H', ⟨by have := HK1.out; first | omega | exact Nat.le_refl _⟩, ⟨by (with_reducible repeat (first | apply Kd.R_alloc | apply Kd.R_drewN | apply Kd.R_drew)); exact HO_245003.out⟩, ⟨by (with_reducible repeat (first | apply Kd.N_alloc | apply Kd.N_drewN | apply Kd.N_drew)); exact HO_245004.out⟩, ⟨by (with_reducible repeat (first | refine blk_drewN ?_ _ | refine blk_drew ?_ | refine blk_alloc ?_ _)); exact BK192.out⟩, ⟨by (with_reducible repeat (first | refine blk_drewN ?_ _ | refine blk_drew ?_ | refine blk_alloc ?_ _)); exact BK193.out⟩, ⟨by (with_reducible repeat (first | refine blk_drewN ?_ _ | refine blk_drew ?_ | refine blk_alloc ?_ _)); exact BK244.out⟩, ⟨by repeat (first | (with_reducible first | exact HB.out | apply below_alloc | apply pw_below_drewN | apply below_drew1 | refine below_set ?_ GE192.out | refine below_set ?_ GE193.out | refine below_set ?_ GE244.out) | exact HB.out)⟩⟩
         ·rw [if_neg c76] at H
          have c76b0 : decide (x6_1 < (l0_3.length : Int)) = false := decide_eq_false c76
          clear c76
          (first | rw [c76b0] | (simp only [i64_w, i32_w]; rw [c76b0]) | skip)
          have H' := Aside0.mk H
          clear H
          have hnb80 := NB192_193.out
          have hnc80 := NB193_192.out
          have hnb81 := NB192_244.out
          have hnc81 := NB244_192.out
          have hcz82_0 : wr.cell? ⟨gb192, 0, none⟩ = some (.int .i64 a0_0) := (blk_cell BK192.out 0).trans rfl
          have hcz82_1 : wr.cell? ⟨gb192, 1, none⟩ = some (.int .i64 a0_1) := (blk_cell BK192.out 1).trans rfl
          have hcz82_2 : wr.cell? ⟨gb192, 2, none⟩ = some (.string a0_2) := (blk_cell BK192.out 2).trans rfl
          have hcz82_3 : wr.cell? ⟨gb192, 3, none⟩ = some (.slice A0_3 l0_3.length c0_3) := (blk_cell BK192.out 3).trans rfl
          have hcz82_4 : wr.cell? ⟨gb192, 4, none⟩ = some (.slice A0_4 l0_4.length c0_4) := (blk_cell BK192.out 4).trans rfl
          have hfz82_0 := blk_frozen BK192.out 0
          have hfz82_1 := blk_frozen BK192.out 1
          have hfz82_2 := blk_frozen BK192.out 2
          have hfz82_3 := blk_frozen BK192.out 3
          have hfz82_4 := blk_frozen BK192.out 4
          go_wp2
          go_meet
          case rel => exact ⟨_, (false), (by first | rfl | (simp; done) | (simp [*]; done)), H', ⟨by have := HK1.out; first | omega | exact Nat.le_refl _⟩, ⟨by (with_reducible repeat (first | apply Kd.R_alloc | apply Kd.R_drewN | apply Kd.R_drew)); exact HO_245003.out⟩, ⟨by (with_reducible repeat (first | apply Kd.N_alloc | apply Kd.N_drewN | apply Kd.N_drew)); exact HO_245004.out⟩, ⟨by (with_reducible repeat (first | refine blk_drewN ?_ _ | refine blk_drew ?_ | refine blk_alloc ?_ _)); exact BK192.out⟩, ⟨by (with_reducible repeat (first | refine blk_drewN ?_ _ | refine blk_drew ?_ | refine blk_alloc ?_ _)); exact BK193.out⟩, ⟨by (with_reducible repeat (first | refine blk_drewN ?_ _ | refine blk_drew ?_ | refine blk_alloc ?_ _)); exact BK244.out⟩, ⟨by repeat (first | (with_reducible first | exact HB.out | apply below_alloc | apply pw_below_drewN | apply below_drew1 | refine below_set ?_ GE192.out | refine below_set ?_ GE193.out | refine below_set ?_ GE244.out) | exact HB.out)⟩⟩
        case rest =>
         clear HC75
         try clear c1
         try clear c2
         try clear c2b0
         try clear c2b1
         try clear p2
         try clear q2
         try clear hx2
         try clear c3
         try clear c4
         try clear c5
         try clear c6
         try clear p6
         try clear c7
         try clear c8
         try clear c10
         try clear c12
         try clear c12b0
         try clear c12b1
         try clear c13
         try clear c16
         try clear c22
         try clear c22b0
         try clear c22b1
         try clear p22
         try clear q22
         try clear hx22
         try clear c26
         try clear c31
         try clear c32
         try clear c32b0
         try clear c32b1
         try clear c34
         try clear c35
         try clear c38
         try clear c39
         try clear c41
         try clear c41b0
         try clear c42
         try clear c42b0
         try clear c44
         try clear c45
         try clear c46
         try clear c55
         try clear c56
         try clear c58
         try clear c62
         try clear c62b0
         try clear c62b1
         try clear p64
         try clear c66
         try clear c70
         try clear c71
         try clear c76
         try clear c76b0
         try clear c77
         try clear c78
         try clear c80
         try clear c81
         try clear hcz17_0
         try clear hcz17_1
         try clear hcz17_2
         try clear hcz17_3
         try clear hcz17_4
         try clear hcz19_0
         try clear hcz19_1
         try clear hcz19_2
         try clear hcz19_3
         try clear hcz19_4
         try clear hcz27_0
         try clear hcz27_1
         try clear hcz27_2
         try clear hcz27_3
         try clear hcz27_4
         try clear hcz29_0
         try clear hcz29_1
         try clear hcz29_2
         try clear hcz29_3
         try clear hcz29_4
         try clear hcz36_0
         try clear hcz36_1
         try clear hcz36_2
         try clear hcz36_3
         try clear hcz36_4
         try clear hcz40_0
         try clear hcz40_1
         try clear hcz40_2
         try clear hcz40_3
         try clear hcz40_4
         try clear hcz47_0
         try clear hcz47_1
         try clear hcz47_2
         try clear hcz47_3
         try clear hcz47_4
         try clear hcz57_0
         try clear hcz57_1
         try clear hcz57_2
         try clear hcz57_3
         try clear hcz57_4
         try clear hcz59_0
         try clear hcz59_1
         try clear hcz59_2
         try clear hcz59_3
         try clear hcz59_4
         try clear hcz60_0
         try clear hcz60_1
         try clear hcz60_2
         try clear hcz60_3
         try clear hcz60_4
         try clear hcz67_0
         try clear hcz67_1
         try clear hcz67_2
         try clear hcz67_3
         try clear hcz67_4
         try clear hcz72_0
         try clear hcz72_1
         try clear hcz72_2
         try clear hcz72_3
         try clear hcz72_4
         try clear hcz79_0
         try clear hcz79_1
         try clear hcz79_2
         try clear hcz79_3
         try clear hcz79_4
         try clear hcz7_0
         try clear hcz7_1
         try clear hcz7_2
         try clear hcz7_3
         try clear hcz7_4
         try clear hcz82_0
         try clear hcz82_1
         try clear hcz82_2
         try clear hcz82_3
         try clear hcz82_4
         try clear hcz9_0
         try clear hcz9_1
         try clear hcz9_2
         try clear hcz9_3
         try clear hcz9_4
         try clear hfz17_0
         try clear hfz17_1
         try clear hfz17_2
         try clear hfz17_3
         try clear hfz17_4
         try clear hfz19_0
         try clear hfz19_1
         try clear hfz19_2
         try clear hfz19_3
         try clear hfz19_4
         try clear hfz27_0
         try clear hfz27_1
         try clear hfz27_2
         try clear hfz27_3
         try clear hfz27_4
         try clear hfz29_0
         try clear hfz29_1
         try clear hfz29_2
         try clear hfz29_3
         try clear hfz29_4
         try clear hfz36_0
         try clear hfz36_1
         try clear hfz36_2
         try clear hfz36_3
         try clear hfz36_4
         try clear hfz40_0
         try clear hfz40_1
         try clear hfz40_2
         try clear hfz40_3
         try clear hfz40_4
         try clear hfz47_0
         try clear hfz47_1
         try clear hfz47_2
         try clear hfz47_3
         try clear hfz47_4
         try clear hfz57_0
         try clear hfz57_1
         try clear hfz57_2
         try clear hfz57_3
         try clear hfz57_4
         try clear hfz59_0
         try clear hfz59_1
         try clear hfz59_2
         try clear hfz59_3
         try clear hfz59_4
         try clear hfz60_0
         try clear hfz60_1
         try clear hfz60_2
         try clear hfz60_3
         try clear hfz60_4
         try clear hfz67_0
         try clear hfz67_1
         try clear hfz67_2
         try clear hfz67_3
         try clear hfz67_4
         try clear hfz72_0
         try clear hfz72_1
         try clear hfz72_2
         try clear hfz72_3
         try clear hfz72_4
         try clear hfz79_0
         try clear hfz79_1
         try clear hfz79_2
         try clear hfz79_3
         try clear hfz79_4
         try clear hfz7_0
         try clear hfz7_1
         try clear hfz7_2
         try clear hfz7_3
         try clear hfz7_4
         try clear hfz82_0
         try clear hfz82_1
         try clear hfz82_2
         try clear hfz82_3
         try clear hfz82_4
         try clear hfz9_0
         try clear hfz9_1
         try clear hfz9_2
         try clear hfz9_3
         try clear hfz9_4
         try clear hx222_0
         try clear hx222_1
         try clear hx222_2
         try clear hx222_3
         try clear hx222_4
         try clear p2
         try clear p22
         try clear p222
         try clear p6
         try clear p64
         try clear q2
         try clear q22
         try clear q222
         obtain ⟨kq, x61_74, rfl, HA, HJ74, HO_245003, HO_245004, BK192, BK193, BK244, HB⟩ := hcut
         cases kq with
         | zero => exact absurd HA.out (by simp [spec_Fit.j2])
         | succ kj74 =>
          have H := HA.out
          clear HA
          simp only [spec_Fit.j2] at H
          by_cases c83 : x61_74 = true
          ·subst c83
           have H1 : (if 0 ≤ x6_1 then (if x6_1 < (l0_3.length : Int) then (if x6_1 < (l0_4.length : Int) then ((spec_Fit.f kj74 ((rd_T32 l0_4 x6_1).f0) ((rd_T32 l0_4 x6_1).f1) ((rd_T32 l0_4 x6_1).f2) ((rd_T32 l0_4 x6_1).f3) ((rd_T32 l0_4 x6_1).f4)).bind fun bt247 => ((spec_With.f kj74 x245000_1 x245001_1 x245002_1 x245003_1 x245004_1 (rdOf ByteArray.empty l0_3 x6_1) bt247.1 bt247.2.1 bt247.2.2.1 bt247.2.2.2.1 bt247.2.2.2.2).bind fun bt256 => (spec_Fit.l1 kj74 (wrap64 (x6_1 + 1)) a0_0 a0_1 a0_2 l0_3 l0_4 bt256.1 bt256.2.1 bt256.2.2.1 bt256.2.2.2.1 bt256.2.2.2.2))) else (none)) else (none)) else (none)) = some (r1, r2, r3, r4, r5) := by rw [if_pos rfl] at H; exact H
           clear H
           have H := H1
           clear H1
           by_cases c84 : 0 ≤ x6_1
           ·rw [if_pos c84] at H
            have c84b0 : decide (0 ≤ x6_1) = true := decide_eq_true c84
            clear c84
            by_cases c85 : x6_1 < (l0_3.length : Int)
            ·rw [if_pos c85] at H
             have c85b0 : decide (x6_1 < (l0_3.length : Int)) = true := decide_eq_true c85
             clear c85
             by_cases c86 : x6_1 < (l0_4.length : Int)
             ·rw [if_pos c86] at H
              have c86b0 : decide (x6_1 < (l0_4.length : Int)) = true := decide_eq_true c86
              clear c86
              replace H := Option.bind_eq_some_iff.mp H
              obtain ⟨⟨t247, t248, t249, t250, t253⟩, A870, H⟩ := H
              replace H : ((spec_With.f kj74 x245000_1 x245001_1 x245002_1 x245003_1 x245004_1 (rdOf ByteArray.empty l0_3 x6_1) t247 t248 t249 t250 t253).bind fun bt256 => (spec_Fit.l1 kj74 (wrap64 (x6_1 + 1)) a0_0 a0_1 a0_2 l0_3 l0_4 bt256.1 bt256.2.1 bt256.2.2.1 bt256.2.2.2.1 bt256.2.2.2.2)) = some (r1, r2, r3, r4, r5) := H
              have A87 := Aside0.mk A870
              clear A870
              replace H := Option.bind_eq_some_iff.mp H
              obtain ⟨⟨t256, t257, t258, t259, t262⟩, A880, H⟩ := H
              replace H : (spec_Fit.l1 kj74 (wrap64 (x6_1 + 1)) a0_0 a0_1 a0_2 l0_3 l0_4 t256 t257 t258 t259 t262) = some (r1, r2, r3, r4, r5) := H
              have A88 := Aside0.mk A880
              clear A880
              have H' := Aside0.mk H
              clear H
              try go_wp2
              have n0_ := Aside0.mk (Kd.R_drew HO_245003.out)
              have n1_ := Aside0.mk (Kd.N_drew HO_245004.out)
              have n2_ := Aside0.mk (blk_drew BK192.out)
              have n3_ := Aside0.mk (blk_drew BK193.out)
              have n4_ := Aside0.mk (blk_drew BK244.out)
              have n5_ := Aside0.mk (below_drew1 HB.out)
              clear HO_245003
              clear HO_245004
              clear BK192
              clear BK193
              clear BK244
              clear HB
              have HO_245003 := n0_
              have HO_245004 := n1_
              have BK192 := n2_
              have BK193 := n3_
              have BK244 := n4_
              have HB := n5_
              clear n0_ n1_ n2_ n3_ n4_ n5_
              have p245 : 0 ≤ (x6_1 : Int) := of_decide_eq_true (by first | (with_reducible assumption) | assumption)
              have q245 : x6_1 < (l0_3.length : Int) := of_decide_eq_true (by first | (with_reducible assumption) | assumption)
              obtain ⟨ad245, e245, hx245_0⟩ := Kd.at_string HR0_3.out x6_1 p245 q245
              have hw245_0 := hx245_0
              cases e245
              replace hx245_0 := (HB.out.cell (World.block_lt_of_cell? w _ hx245_0)).trans hx245_0
              replace p245 := eq_true p245
              replace q245 := eq_true q245
              have p246 : 0 ≤ (x6_1 : Int) := of_decide_eq_true (by first | (with_reducible assumption) | assumption)
              have q246 : x6_1 < (l0_4.length : Int) := of_decide_eq_true (by first | (with_reducible assumption) | assumption)
              obtain ⟨ad246, A246_3, c246_3, A246_4, c246_4, e246, hx246_0, hx246_1, hx246_2, hx246_3, hx246_4, hl246_3, hi246_3, hl246_4, hi246_4⟩ := at_T32 HR0_4.out x6_1 p246 q246
              have hw246_4 := hx246_4
              have hw246_3 := hx246_3
              have hw246_2 := hx246_2
              have hw246_1 := hx246_1
              have hw246_0 := hx246_0
              cases e246
              replace hx246_0 := (HB.out.cell (World.block_lt_of_cell? w _ hx246_0)).trans hx246_0
              replace hx246_1 := (HB.out.cell (World.block_lt_of_cell? w _ hx246_1)).trans hx246_1
              replace hx246_2 := (HB.out.cell (World.block_lt_of_cell? w _ hx246_2)).trans hx246_2
              replace hx246_3 := (HB.out.cell (World.block_lt_of_cell? w _ hx246_3)).trans hx246_3
              replace hx246_4 := (HB.out.cell (World.block_lt_of_cell? w _ hx246_4)).trans hx246_4
              have HR246_3 := Aside0.mk hi246_3
              have HC246_3 := Aside0.mk hl246_3
              clear hi246_3 hl246_3
              have HR246_4 := Aside0.mk hi246_4
              have HC246_4 := Aside0.mk hl246_4
              clear hi246_4 hl246_4
              replace p246 := eq_true p246
              replace q246 := eq_true q246
              refine start_ (n := 14) (S := fun w' => w'.cell? ⟨gb244, 0, none⟩ = some (.int .i64 x245000_1) ∧ w'.cell? ⟨gb244, 1, none⟩ = some (.int .i64 x245001_1) ∧ w'.cell? ⟨gb244, 2, none⟩ = some (.string x245002_1) ∧ w'.cell? ⟨gb244, 3, none⟩ = some (u245003) ∧ w'.cell? ⟨gb244, 4, none⟩ = some (u245004) ∧ w'.cell? ⟨gb192, 0, none⟩ = some (.int .i64 a0_0) ∧ w'.cell? ⟨gb192, 1, none⟩ = some (.int .i64 a0_1) ∧ w'.cell? ⟨gb192, 2, none⟩ = some (.string a0_2) ∧ w'.cell? ⟨gb192, 3, none⟩ = some (.slice (some ad245) l0_3.length c0_3) ∧ w'.cell? ⟨gb192, 4, none⟩ = some (.slice (some ad246) l0_4.length c0_4) ∧ w'.cell? (ad245.add (x6_1).toNat) = some (.string (rdOf ByteArray.empty l0_3 x6_1)) ∧ w'.cell? (ad246.add ((x6_1).toNat * 5)) = some (.int .i64 ((rd_T32 l0_4 x6_1).f0)) ∧ w'.cell? ⟨(ad246.add ((x6_1).toNat * 5)).block, (ad246.add ((x6_1).toNat * 5)).off + 1, none⟩ = some (.int .i64 ((rd_T32 l0_4 x6_1).f1)) ∧ w'.cell? ⟨(ad246.add ((x6_1).toNat * 5)).block, (ad246.add ((x6_1).toNat * 5)).off + 2, none⟩ = some (.string ((rd_T32 l0_4 x6_1).f2)) ∧ w'.cell? ⟨(ad246.add ((x6_1).toNat * 5)).block, (ad246.add ((x6_1).toNat * 5)).off + 3, none⟩ = some (.slice A246_3 ((rd_T32 l0_4 x6_1).f3).length c246_3) ∧ w'.cell? ⟨(ad246.add ((x6_1).toNat * 5)).block, (ad246.add ((x6_1).toNat * 5)).off + 4, none⟩ = some (.slice A246_4 ((rd_T32 l0_4 x6_1).f4).length c246_4)) (ds := [13]) #[false, false, false, false, false, false, false, false, false, false, false, false, false, false] (by kernel_rfl) rfl rfl ⟨(blk_cell BK244.out 0).trans rfl, (blk_cell BK244.out 1).trans rfl, (blk_cell BK244.out 2).trans rfl, (blk_cell BK244.out 3).trans rfl, (blk_cell BK244.out 4).trans rfl, (blk_cell BK192.out 0).trans rfl, (blk_cell BK192.out 1).trans rfl, (blk_cell BK192.out 2).trans rfl, (blk_cell BK192.out 3).trans rfl, (blk_cell BK192.out 4).trans rfl, ((HB.out.cell (World.block_lt_of_cell? w _ hw245_0)).trans hw245_0), ((HB.out.cell (World.block_lt_of_cell? w _ hw246_0)).trans hw246_0), ((HB.out.cell (World.block_lt_of_cell? w _ hw246_1)).trans hw246_1), ((HB.out.cell (World.block_lt_of_cell? w _ hw246_2)).trans hw246_2), ((HB.out.cell (World.block_lt_of_cell? w _ hw246_3)).trans hw246_3), ((HB.out.cell (World.block_lt_of_cell? w _ hw246_4)).trans hw246_4)⟩ (fun hHeld => ?_); refine with_tabW spec_Fit.tab20 spec_Fit.bits20 (fun HT_ HW_ => ?_)
              generalize wc.drew = w89 at HO_245003 HO_245004 BK192 BK193 BK244 HB HR246_3 HR246_4 hx245_0 hx246_0 hx246_1 hx246_2 hx246_3 hx246_4 hHeld ⊢
              refine pure_ (i := 1) (N := some 65) (v := ?_) (a' := ?_) #[false, true, false, false, false, false, false, false, false, false, false, false, false, false] rfl rfl (any_of HT_.out (by kernel_rfl)) (fun _ _ _ h => h) (Or.inl ⟨by rfl, ?_⟩) ?_ ?_
              rotate_left
              ·intro w'
               go_simp
               with_reducible rfl
              rotate_left
              ·simp only [Act.put, List.setIfInBounds_toArray, List.set_cons_zero, List.set_cons_succ, i64_w, i32_w]
               rfl
              refine pure_ (i := 3) (N := some 67) (v := ?_) (a' := ?_) #[false, true, false, true, false, false, false, false, false, false, false, false, false, false] rfl rfl (any_of HT_.out (by kernel_rfl)) (fun _ _ _ h => h) (Or.inl ⟨by rfl, ?_⟩) ?_ ?_
              rotate_left
              ·intro w'
               go_simp
               with_reducible rfl
              rotate_left
              ·simp only [Act.put, List.setIfInBounds_toArray, List.set_cons_zero, List.set_cons_succ, i64_w, i32_w]
               rfl
              refine pure_ (i := 6) (N := some 70) (v := ?_) (a' := ?_) #[false, true, false, true, false, false, true, false, false, false, false, false, false, false] rfl rfl (any_of HT_.out (by kernel_rfl)) (fun _ _ _ h => h) (Or.inl ⟨by rfl, ?_⟩) ?_ ?_
              rotate_left
              ·intro w'
               go_simp
               with_reducible rfl
              rotate_left
              ·simp only [Act.put, List.setIfInBounds_toArray, List.set_cons_zero, List.set_cons_succ, i64_w, i32_w]
               rfl
              refine pure_ (i := 8) (N := some 72) (v := ?_) (a' := ?_) #[false, true, false, true, false, false, true, false, true, false, false, false, false, false] rfl rfl (any_of HT_.out (by kernel_rfl)) (fun _ _ _ h => h) (Or.inl ⟨by rfl, ?_⟩) ?_ ?_
              rotate_left
              ·intro w'
               go_simp
               with_reducible rfl
              rotate_left
              ·simp only [Act.put, List.setIfInBounds_toArray, List.set_cons_zero, List.set_cons_succ, i64_w, i32_w]
               rfl
              refine take_ (i := 0) (N := some 64) (v := ?_) (a' := ?_) #[true, true, false, true, false, false, true, false, true, false, false, false, false, false] rfl rfl (take_ofW HT_.out HW_.out (by kernel_rfl)) (fun _ _ _ h => h) (Or.inl ⟨by rfl, ?_⟩) hHeld ?_ ?_
              rotate_left
              ·rintro w' ⟨s0, s1, s2, s3, s4, s5, s6, s7, s8, s9, s10, s11, s12, s13, s14, s15⟩
               go_simp
               with_reducible rfl
              rotate_left
              ·simp only [Act.put, List.setIfInBounds_toArray, List.set_cons_zero, List.set_cons_succ, i64_w, i32_w]
               rfl
              refine take_ (i := 2) (N := some 66) (v := ?_) (a' := ?_) #[true, true, true, true, false, false, true, false, true, false, false, false, false, false] rfl rfl (take_ofW HT_.out HW_.out (by kernel_rfl)) (fun _ _ _ h => h) (Or.inl ⟨by rfl, ?_⟩) hHeld ?_ ?_
              rotate_left
              ·rintro w' ⟨s0, s1, s2, s3, s4, s5, s6, s7, s8, s9, s10, s11, s12, s13, s14, s15⟩
               go_simp
               with_reducible rfl
              rotate_left
              ·simp only [Act.put, List.setIfInBounds_toArray, List.set_cons_zero, List.set_cons_succ, i64_w, i32_w]
               rfl
              refine pure_ (i := 4) (N := some 68) (v := ?_) (a' := ?_) #[true, true, true, true, true, false, true, false, true, false, false, false, false, false] rfl rfl (any_of HT_.out (by kernel_rfl)) (fun _ _ _ h => h) (Or.inl ⟨by rfl, ?_⟩) ?_ ?_
              rotate_left
              ·intro w'
               go_simp
               with_reducible rfl
              rotate_left
              ·simp only [Act.put, List.setIfInBounds_toArray, List.set_cons_zero, List.set_cons_succ, i64_w, i32_w]
               rfl
              refine take_ (i := 5) (N := some 69) (v := ?_) (a' := ?_) #[true, true, true, true, true, true, true, false, true, false, false, false, false, false] rfl rfl (take_ofW HT_.out HW_.out (by kernel_rfl)) (fun _ _ _ h => h) (Or.inl ⟨by rfl, ?_⟩) hHeld ?_ ?_
              rotate_left
              ·rintro w' ⟨s0, s1, s2, s3, s4, s5, s6, s7, s8, s9, s10, s11, s12, s13, s14, s15⟩
               go_simp
               with_reducible rfl
              rotate_left
              ·simp only [Act.put, List.setIfInBounds_toArray, List.set_cons_zero, List.set_cons_succ, i64_w, i32_w]
               rfl
              refine take_ (i := 7) (N := some 71) (v := ?_) (a' := ?_) #[true, true, true, true, true, true, true, true, true, false, false, false, false, false] rfl rfl (take_ofW HT_.out HW_.out (by kernel_rfl)) (fun _ _ _ h => h) (Or.inl ⟨by rfl, ?_⟩) hHeld ?_ ?_
              rotate_left
              ·rintro w' ⟨s0, s1, s2, s3, s4, s5, s6, s7, s8, s9, s10, s11, s12, s13, s14, s15⟩
               go_simp
               with_reducible rfl
              rotate_left
              ·simp only [Act.put, List.setIfInBounds_toArray, List.set_cons_zero, List.set_cons_succ, i64_w, i32_w]
               rfl
              refine pure_ (i := 9) (N := some 73) (v := ?_) (a' := ?_) #[true, true, true, true, true, true, true, true, true, true, false, false, false, false] rfl rfl (any_of HT_.out (by kernel_rfl)) (fun _ _ _ h => h) (Or.inl ⟨by rfl, ?_⟩) ?_ ?_
              rotate_left
              ·intro w'
               go_simp
               with_reducible rfl
              rotate_left
              ·simp only [Act.put, List.setIfInBounds_toArray, List.set_cons_zero, List.set_cons_succ, i64_w, i32_w]
               rfl
              refine take_ (i := 10) (N := some 74) (v := ?_) (a' := ?_) #[true, true, true, true, true, true, true, true, true, true, true, false, false, false] rfl rfl (take_ofW HT_.out HW_.out (by kernel_rfl)) (fun _ _ _ h => h) (Or.inl ⟨by rfl, ?_⟩) hHeld ?_ ?_
              rotate_left
              ·rintro w' ⟨s0, s1, s2, s3, s4, s5, s6, s7, s8, s9, s10, s11, s12, s13, s14, s15⟩
               go_simp
               with_reducible rfl
              rotate_left
              ·simp only [Act.put, List.setIfInBounds_toArray, List.set_cons_zero, List.set_cons_succ, i64_w, i32_w]
               rfl
              refine one_ (i := 11) (N := some 75) #[true, true, true, true, true, true, true, true, true, true, true, true, false, false] rfl rfl (one_of HT_.out (by kernel_rfl)) (by decide) (fun K hK => ?_)
              refine goes_ Tryd.func13 (by kernel_rfl) rfl #[.agg #[.int .i64 ((rd_T32 l0_4 x6_1).f0), .int .i64 ((rd_T32 l0_4 x6_1).f1), .string ((rd_T32 l0_4 x6_1).f2), .slice A246_3 ((rd_T32 l0_4 x6_1).f3).length c246_3, .slice A246_4 ((rd_T32 l0_4 x6_1).f4).length c246_4]] (by rfl) rfl rfl (by (try simp only [List.map_toArray, List.map_cons, List.map_nil]); first | done | rfl | (simp only [List.length_drop, List.length_take]; rfl)) ?_
              with_reducible refine (ih kj74 (by have := HK1.out; have := HJ74.out; omega) ((rd_T32 l0_4 x6_1).f0) ((rd_T32 l0_4 x6_1).f1) ((rd_T32 l0_4 x6_1).f2) _ _ ((rd_T32 l0_4 x6_1).f3) _ _ ((rd_T32 l0_4 x6_1).f4) t247 t248 t249 t250 t253 _ ?side1 ?side2 ?side3 ?side4 A87.out).mono ?_
              (case side1 => repeat (first | exact (Kd.C_below HR246_3.out HB.out) | (with_reducible refine Kd.C_alloc ?_ _) | (with_reducible refine Kd.C_drewN ?_ _) | (with_reducible refine Kd.C_drew ?_)))
              (case side2 => exact HC246_3.out)
              (case side3 => repeat (first | exact (Kd.C_below HR246_4.out HB.out) | (with_reducible refine Kd.C_alloc ?_ _) | (with_reducible refine Kd.C_drewN ?_ _) | (with_reducible refine Kd.C_drew ?_)))
              (case side4 => exact HC246_4.out)
              rintro e w90 ⟨v251, v254, rfl, ho0, ho1, hb⟩
              refine ⟨_, rfl, ?_⟩
              have n0_ := Aside0.mk (Kd.R_elder' (by (with_reducible repeat (first | apply Kd.R_alloc | apply Kd.R_drewN | apply Kd.R_drew)); exact HO_245003.out) (Kd.R_base ho0) hb)
              have n1_ := Aside0.mk (Kd.N_mono (Kd.N_told (Kd.N_told (Kd.N_old (by (with_reducible repeat (first | apply Kd.N_alloc | apply Kd.N_drewN | apply Kd.N_drew)); exact HO_245004.out) hb) (Kd.R_base ho0)) (Kd.N_base ho1)) (fun _ h_ => h_.1))
              have n2_ := Aside0.mk (Kd.R_lower (Kd.R_new' (Kd.R_newM (M := fun k_ => (w.heap.size ≤ k_)) (Kd.R_mono (ok' := fun k_ => True) ho0 (fun _ hk_ => trivial)) (below_size (by repeat (first | (with_reducible first | exact HB.out | apply below_alloc | apply pw_below_drewN | apply below_drew1 | refine below_set ?_ GE192.out | refine below_set ?_ GE193.out | refine below_set ?_ GE244.out) | exact HB.out))) (fun k_ h_ => h_)) (Kd.R_lt (by (with_reducible repeat (first | apply Kd.R_alloc | apply Kd.R_drewN | apply Kd.R_drew)); exact HO_245003.out))) (below_size (by repeat (first | (with_reducible first | exact HB.out | apply below_alloc | apply pw_below_drewN | apply below_drew1 | refine below_set ?_ GE192.out | refine below_set ?_ GE193.out | refine below_set ?_ GE244.out) | exact HB.out))))
              have n3_ := Aside0.mk (Kd.N_lower (Kd.N_mono (ok' := fun k_ => (w.heap.size ≤ k_) ∧ some k_ ≠ (v251 : Value).ownBlock ∧ some k_ ≠ (u245003 : Value).ownBlock ∧ some k_ ≠ (u245004 : Value).ownBlock ∧ k_ ≠ gb192 ∧ k_ ≠ gb193 ∧ k_ ≠ gb244) ho1 (fun k_ hk_ => ⟨(Nat.le_trans (below_size (by repeat (first | (with_reducible first | exact HB.out | apply below_alloc | apply pw_below_drewN | apply below_drew1 | refine below_set ?_ GE192.out | refine below_set ?_ GE193.out | refine below_set ?_ GE244.out) | exact HB.out))) hk_.1), hk_.2, (Kd.fresh' (Kd.R_lt (by (with_reducible repeat (first | apply Kd.R_alloc | apply Kd.R_drewN | apply Kd.R_drew)); exact HO_245003.out)) k_ hk_.1), (Kd.fresh' (Kd.N_lt (by (with_reducible repeat (first | apply Kd.N_alloc | apply Kd.N_drewN | apply Kd.N_drew)); exact HO_245004.out)) k_ hk_.1), (Kd.freshB (g := gb192) (o := .cells #[.int .i64 a0_0, .int .i64 a0_1, .string a0_2, .slice (some ad245) l0_3.length c0_3, .slice (some ad246) l0_4.length c0_4] 32 (0, 0)) (by (with_reducible repeat (first | refine blk_drewN ?_ _ | refine blk_drew ?_ | refine blk_alloc ?_ _)); exact BK192.out) k_ hk_.1), (Kd.freshB (g := gb193) (o := .cells #[.int .i64 0, .int .i64 0, .string (⟨#[]⟩ : ByteArray), .slice none 0 0, .slice none 0 0] 32 (0, 0)) (by (with_reducible repeat (first | refine blk_drewN ?_ _ | refine blk_drew ?_ | refine blk_alloc ?_ _)); exact BK193.out) k_ hk_.1), (Kd.freshB (g := gb244) (o := .cells #[.int .i64 x245000_1, .int .i64 x245001_1, .string x245002_1, u245003, u245004] 32 (0, 0)) (by (with_reducible repeat (first | refine blk_drewN ?_ _ | refine blk_drew ?_ | refine blk_alloc ?_ _)); exact BK244.out) k_ hk_.1)⟩)) (below_size (by repeat (first | (with_reducible first | exact HB.out | apply below_alloc | apply pw_below_drewN | apply below_drew1 | refine below_set ?_ GE192.out | refine below_set ?_ GE193.out | refine below_set ?_ GE244.out) | exact HB.out))))
              have n4_ := Aside0.mk (blk_below (g := gb192) (o := .cells #[.int .i64 a0_0, .int .i64 a0_1, .string a0_2, .slice (some ad245) l0_3.length c0_3, .slice (some ad246) l0_4.length c0_4] 32 (0, 0)) (by (with_reducible repeat (first | refine blk_drewN ?_ _ | refine blk_drew ?_ | refine blk_alloc ?_ _)); exact BK192.out) hb)
              have n5_ := Aside0.mk (blk_below (g := gb193) (o := .cells #[.int .i64 0, .int .i64 0, .string (⟨#[]⟩ : ByteArray), .slice none 0 0, .slice none 0 0] 32 (0, 0)) (by (with_reducible repeat (first | refine blk_drewN ?_ _ | refine blk_drew ?_ | refine blk_alloc ?_ _)); exact BK193.out) hb)
              have n6_ := Aside0.mk (blk_below (g := gb244) (o := .cells #[.int .i64 x245000_1, .int .i64 x245001_1, .string x245002_1, u245003, u245004] 32 (0, 0)) (by (with_reducible repeat (first | refine blk_drewN ?_ _ | refine blk_drew ?_ | refine blk_alloc ?_ _)); exact BK244.out) hb)
              have n7_ := Aside0.mk (below_step (by repeat (first | (with_reducible first | exact HB.out | apply below_alloc | apply pw_below_drewN | apply below_drew1 | refine below_set ?_ GE192.out | refine below_set ?_ GE193.out | refine below_set ?_ GE244.out) | exact HB.out)) hb)
              clear HO_245003
              clear HO_245004
              clear BK192
              clear BK193
              clear BK244
              clear HB
              have HO_245003 := n0_
              have HO_245004 := n1_
              have HO252 := n2_
              have HO255 := n3_
              have BK192 := n4_
              have BK193 := n5_
              have BK244 := n6_
              have HB := n7_
              clear n0_ n1_ n2_ n3_ n4_ n5_ n6_ n7_
              (try clear hb)
              (try clear hb2)
              (try clear hk)
              (try clear hi)
              (try clear ho0)
              (try clear ho1)
              obtain ⟨Ao91, co91, eo91⟩ := Kd.R_slice HO_245003.out
              (first | subst eo91 | (injection eo91 with f1_ f2_ f3_; have f4_ := f1_.symm; have f5_ := f3_.symm; clear f1_ f2_ f3_; subst f4_; subst f5_))
              obtain ⟨Ao92, co92, eo92⟩ := Kd.N_slice HO_245004.out
              (first | subst eo92 | (injection eo92 with f1_ f2_ f3_; have f4_ := f1_.symm; have f5_ := f3_.symm; clear f1_ f2_ f3_; subst f4_; subst f5_))
              obtain ⟨Ao93, co93, eo93⟩ := Kd.R_slice HO252.out
              (first | subst eo93 | (injection eo93 with f1_ f2_ f3_; have f4_ := f1_.symm; have f5_ := f3_.symm; clear f1_ f2_ f3_; subst f4_; subst f5_))
              obtain ⟨Ao94, co94, eo94⟩ := Kd.N_slice HO255.out
              (first | subst eo94 | (injection eo94 with f1_ f2_ f3_; have f4_ := f1_.symm; have f5_ := f3_.symm; clear f1_ f2_ f3_; subst f4_; subst f5_))
              refine hK.out _ _ ⟨(blk_cell BK244.out 0).trans rfl, (blk_cell BK244.out 1).trans rfl, (blk_cell BK244.out 2).trans rfl, (blk_cell BK244.out 3).trans rfl, (blk_cell BK244.out 4).trans rfl, (blk_cell BK192.out 0).trans rfl, (blk_cell BK192.out 1).trans rfl, (blk_cell BK192.out 2).trans rfl, (blk_cell BK192.out 3).trans rfl, (blk_cell BK192.out 4).trans rfl, ((HB.out.cell (World.block_lt_of_cell? w _ hw245_0)).trans hw245_0), ((HB.out.cell (World.block_lt_of_cell? w _ hw246_0)).trans hw246_0), ((HB.out.cell (World.block_lt_of_cell? w _ hw246_1)).trans hw246_1), ((HB.out.cell (World.block_lt_of_cell? w _ hw246_2)).trans hw246_2), ((HB.out.cell (World.block_lt_of_cell? w _ hw246_3)).trans hw246_3), ((HB.out.cell (World.block_lt_of_cell? w _ hw246_4)).trans hw246_4)⟩ (fun hHeld => ?_)
              clear hK K
              refine norm_ (a' := ?_) ?_ ?_
              rotate_left
              ·show Act.put _ (some 75) _ = _
               simp only [Act.put, List.setIfInBounds_toArray, List.set_cons_zero, List.set_cons_succ, i64_w, i32_w]
               rfl
              refine one_ (i := 12) (N := some 76) #[true, true, true, true, true, true, true, true, true, true, true, true, true, false] rfl rfl (one_of HT_.out (by kernel_rfl)) (by decide) (fun K hK => ?_)
              refine goes_ Tryd.func32 (by kernel_rfl) rfl #[.agg #[.int .i64 x245000_1, .int .i64 x245001_1, .string x245002_1, .slice Ao91 x245003_1.length co91, .slice Ao92 x245004_1.length co92], .string (rdOf ByteArray.empty l0_3 x6_1), .agg #[.int .i64 t247, .int .i64 t248, .string t249, .slice Ao93 t250.length co93, .slice Ao94 t253.length co94]] (by rfl) rfl rfl (by (try simp only [List.map_toArray, List.map_cons, List.map_nil]); first | done | rfl | (simp only [List.length_drop, List.length_take]; rfl)) ?_
              with_reducible refine (spec_With.calls kj74 x245000_1 x245001_1 x245002_1 _ _ x245003_1 (fun k_ => ((((w.heap.size ≤ k_) ∧ (some k_ ≠ (.slice Ao91 x245003_1.length co91 : Value).ownBlock ∧ (k_ ≠ gb192 ∧ (k_ ≠ gb193 ∧ k_ ≠ gb244)))) ∧ some k_ ≠ (.slice Ao93 t250.length co93 : Value).ownBlock) ∧ some k_ ≠ (.slice Ao94 t253.length co94 : Value).ownBlock)) _ _ x245004_1 (rdOf ByteArray.empty l0_3 x6_1) t247 t248 t249 (fun k_ => some k_ = (.slice Ao93 t250.length co93 : Value).ownBlock) _ _ t250 (fun k_ => ((w.heap.size ≤ k_) ∧ (some k_ ≠ (.slice Ao93 t250.length co93 : Value).ownBlock ∧ (some k_ ≠ (.slice Ao91 x245003_1.length co91 : Value).ownBlock ∧ (some k_ ≠ (.slice Ao92 x245004_1.length co92 : Value).ownBlock ∧ (k_ ≠ gb192 ∧ (k_ ≠ gb193 ∧ k_ ≠ gb244))))))) _ _ t253 t256 t257 t258 t259 t262 _ ?side1 ?side2 ?side3 ?side4 ?side5 A88.out).mono ?_
              (case side1 => repeat (first | exact (Kd.R_reads' HO_245003.out).2.2 | (with_reducible refine Kd.C_alloc ?_ _) | (with_reducible refine Kd.C_drewN ?_ _) | (with_reducible refine Kd.C_drew ?_)))
              (case side2 => exact (Kd.R_reads' HO_245003.out).2.1)
              (case side3 => exact Kd.N_V (HO_245004.out))
              (case side4 => exact Kd.R_V (Kd.R_tight rfl (Kd.R_types (Kd.R_types (Kd.R_types (Kd.R_apart' (Kd.R_apart' (HO252.out) (Kd.N_typed HO_245004.out) (by decide)) (Kd.N_typed HO255.out) (by decide)) BK192.out (by decide)) BK193.out (by decide)) BK244.out (by decide))))
              (case side5 => exact Kd.N_V (HO255.out))
              rintro e w95 ⟨v260, v263, rfl, ho0, ho1, hb⟩
              refine ⟨_, rfl, ?_⟩
              have n0_ := Aside0.mk (Kd.R_elder' (by (with_reducible repeat (first | apply Kd.R_alloc | apply Kd.R_drewN | apply Kd.R_drew)); exact HO_245003.out) (Kd.R_base ho0) hb)
              have n1_ := Aside0.mk (Kd.N_mono (Kd.N_told (Kd.N_told (Kd.N_old (by (with_reducible repeat (first | apply Kd.N_alloc | apply Kd.N_drewN | apply Kd.N_drew)); exact HO_245004.out) hb) (Kd.R_base ho0)) (Kd.N_base ho1)) (fun _ h_ => h_.1))
              have n2_ := Aside0.mk (Kd.R_elder' (by (with_reducible repeat (first | apply Kd.R_alloc | apply Kd.R_drewN | apply Kd.R_drew)); exact HO252.out) (Kd.R_base ho0) hb)
              have n3_ := Aside0.mk (Kd.N_mono (Kd.N_told (Kd.N_told (Kd.N_old (by (with_reducible repeat (first | apply Kd.N_alloc | apply Kd.N_drewN | apply Kd.N_drew)); exact HO255.out) hb) (Kd.R_base ho0)) (Kd.N_base ho1)) (fun _ h_ => h_.1))
              have n4_ := Aside0.mk (Kd.R_lower (Kd.R_new' (Kd.R_new' (Kd.R_newM (M := fun k_ => (w.heap.size ≤ k_)) (Kd.R_mono (ok' := fun k_ => True) ho0 (fun _ hk_ => trivial)) (below_size (by repeat (first | (with_reducible first | exact HB.out | apply below_alloc | apply pw_below_drewN | apply below_drew1 | refine below_set ?_ GE192.out | refine below_set ?_ GE193.out | refine below_set ?_ GE244.out) | exact HB.out))) (fun k_ h_ => h_)) (Kd.R_lt (by (with_reducible repeat (first | apply Kd.R_alloc | apply Kd.R_drewN | apply Kd.R_drew)); exact HO_245003.out))) (Kd.R_lt (by (with_reducible repeat (first | apply Kd.R_alloc | apply Kd.R_drewN | apply Kd.R_drew)); exact HO252.out))) (below_size (by repeat (first | (with_reducible first | exact HB.out | apply below_alloc | apply pw_below_drewN | apply below_drew1 | refine below_set ?_ GE192.out | refine below_set ?_ GE193.out | refine below_set ?_ GE244.out) | exact HB.out))))
              have n5_ := Aside0.mk (Kd.N_lower (Kd.N_mono (ok' := fun k_ => (w.heap.size ≤ k_) ∧ some k_ ≠ (v260 : Value).ownBlock ∧ some k_ ≠ (.slice Ao91 x245003_1.length co91 : Value).ownBlock ∧ k_ ≠ gb192 ∧ k_ ≠ gb193 ∧ k_ ≠ gb244) ho1 (fun k_ hk_ => ⟨Or.elim hk_.1 (fun hs_ => Or.elim hs_ (fun hs_ => hs_.1.1.1) (fun hs_ => Or.elim hs_ (fun hs_ => ((Kd.R_types (Kd.R_types (Kd.R_types (Kd.R_apart' (Kd.R_apart' (HO252.out) (Kd.N_typed HO_245004.out) (by decide)) (Kd.N_typed HO255.out) (by decide)) BK192.out (by decide)) BK193.out (by decide)) BK244.out (by decide)).1 k_ hs_.symm).1.1.1.1.1.1.1) (fun hs_ => hs_.1))) (fun hn_ => (Nat.le_trans (below_size (by repeat (first | (with_reducible first | exact HB.out | apply below_alloc | apply pw_below_drewN | apply below_drew1 | refine below_set ?_ GE192.out | refine below_set ?_ GE193.out | refine below_set ?_ GE244.out) | exact HB.out))) hn_)), hk_.2, Or.elim hk_.1 (fun hs_ => Or.elim hs_ (fun hs_ => hs_.1.1.2.1) (fun hs_ => Or.elim hs_ (fun hs_ => ((Kd.R_types (Kd.R_types (Kd.R_types (Kd.R_apart' (Kd.R_apart' (HO252.out) (Kd.N_typed HO_245004.out) (by decide)) (Kd.N_typed HO255.out) (by decide)) BK192.out (by decide)) BK193.out (by decide)) BK244.out (by decide)).1 k_ hs_.symm).1.1.1.1.1.2) (fun hs_ => hs_.2.2.1))) (fun hn_ => (Kd.fresh' (Kd.R_lt (by (with_reducible repeat (first | apply Kd.R_alloc | apply Kd.R_drewN | apply Kd.R_drew)); exact HO_245003.out)) k_ hn_)), Or.elim hk_.1 (fun hs_ => Or.elim hs_ (fun hs_ => hs_.1.1.2.2.1) (fun hs_ => Or.elim hs_ (fun hs_ => ((Kd.R_types (Kd.R_types (Kd.R_types (Kd.R_apart' (Kd.R_apart' (HO252.out) (Kd.N_typed HO_245004.out) (by decide)) (Kd.N_typed HO255.out) (by decide)) BK192.out (by decide)) BK193.out (by decide)) BK244.out (by decide)).1 k_ hs_.symm).1.1.2) (fun hs_ => hs_.2.2.2.2.1))) (fun hn_ => (Kd.freshB (g := gb192) (o := .cells #[.int .i64 a0_0, .int .i64 a0_1, .string a0_2, .slice (some ad245) l0_3.length c0_3, .slice (some ad246) l0_4.length c0_4] 32 (0, 0)) (by (with_reducible repeat (first | refine blk_drewN ?_ _ | refine blk_drew ?_ | refine blk_alloc ?_ _)); exact BK192.out) k_ hn_)), Or.elim hk_.1 (fun hs_ => Or.elim hs_ (fun hs_ => hs_.1.1.2.2.2.1) (fun hs_ => Or.elim hs_ (fun hs_ => ((Kd.R_types (Kd.R_types (Kd.R_types (Kd.R_apart' (Kd.R_apart' (HO252.out) (Kd.N_typed HO_245004.out) (by decide)) (Kd.N_typed HO255.out) (by decide)) BK192.out (by decide)) BK193.out (by decide)) BK244.out (by decide)).1 k_ hs_.symm).1.2) (fun hs_ => hs_.2.2.2.2.2.1))) (fun hn_ => (Kd.freshB (g := gb193) (o := .cells #[.int .i64 0, .int .i64 0, .string (⟨#[]⟩ : ByteArray), .slice none 0 0, .slice none 0 0] 32 (0, 0)) (by (with_reducible repeat (first | refine blk_drewN ?_ _ | refine blk_drew ?_ | refine blk_alloc ?_ _)); exact BK193.out) k_ hn_)), Or.elim hk_.1 (fun hs_ => Or.elim hs_ (fun hs_ => hs_.1.1.2.2.2.2) (fun hs_ => Or.elim hs_ (fun hs_ => ((Kd.R_types (Kd.R_types (Kd.R_types (Kd.R_apart' (Kd.R_apart' (HO252.out) (Kd.N_typed HO_245004.out) (by decide)) (Kd.N_typed HO255.out) (by decide)) BK192.out (by decide)) BK193.out (by decide)) BK244.out (by decide)).1 k_ hs_.symm).2) (fun hs_ => hs_.2.2.2.2.2.2))) (fun hn_ => (Kd.freshB (g := gb244) (o := .cells #[.int .i64 x245000_1, .int .i64 x245001_1, .string x245002_1, .slice Ao91 x245003_1.length co91, .slice Ao92 x245004_1.length co92] 32 (0, 0)) (by (with_reducible repeat (first | refine blk_drewN ?_ _ | refine blk_drew ?_ | refine blk_alloc ?_ _)); exact BK244.out) k_ hn_))⟩)) (below_size (by repeat (first | (with_reducible first | exact HB.out | apply below_alloc | apply pw_below_drewN | apply below_drew1 | refine below_set ?_ GE192.out | refine below_set ?_ GE193.out | refine below_set ?_ GE244.out) | exact HB.out))))
              have n6_ := Aside0.mk (blk_below (g := gb192) (o := .cells #[.int .i64 a0_0, .int .i64 a0_1, .string a0_2, .slice (some ad245) l0_3.length c0_3, .slice (some ad246) l0_4.length c0_4] 32 (0, 0)) (by (with_reducible repeat (first | refine blk_drewN ?_ _ | refine blk_drew ?_ | refine blk_alloc ?_ _)); exact BK192.out) hb)
              have n7_ := Aside0.mk (blk_below (g := gb193) (o := .cells #[.int .i64 0, .int .i64 0, .string (⟨#[]⟩ : ByteArray), .slice none 0 0, .slice none 0 0] 32 (0, 0)) (by (with_reducible repeat (first | refine blk_drewN ?_ _ | refine blk_drew ?_ | refine blk_alloc ?_ _)); exact BK193.out) hb)
              have n8_ := Aside0.mk (blk_below (g := gb244) (o := .cells #[.int .i64 x245000_1, .int .i64 x245001_1, .string x245002_1, .slice Ao91 x245003_1.length co91, .slice Ao92 x245004_1.length co92] 32 (0, 0)) (by (with_reducible repeat (first | refine blk_drewN ?_ _ | refine blk_drew ?_ | refine blk_alloc ?_ _)); exact BK244.out) hb)
              have n9_ := Aside0.mk (below_step (by repeat (first | (with_reducible first | exact HB.out | apply below_alloc | apply pw_below_drewN | apply below_drew1 | refine below_set ?_ GE192.out | refine below_set ?_ GE193.out | refine below_set ?_ GE244.out) | exact HB.out)) hb)
              clear HO_245003
              clear HO_245004
              clear HO252
              clear HO255
              clear BK192
              clear BK193
              clear BK244
              clear HB
              have HO_245003 := n0_
              have HO_245004 := n1_
              have HO252 := n2_
              have HO255 := n3_
              have HO261 := n4_
              have HO264 := n5_
              have BK192 := n6_
              have BK193 := n7_
              have BK244 := n8_
              have HB := n9_
              clear n0_ n1_ n2_ n3_ n4_ n5_ n6_ n7_ n8_ n9_
              (try clear hb)
              (try clear hb2)
              (try clear hk)
              (try clear hi)
              (try clear ho0)
              (try clear ho1)
              obtain ⟨Ao99, co99, eo99⟩ := Kd.R_slice HO261.out
              (first | subst eo99 | (injection eo99 with f1_ f2_ f3_; have f4_ := f1_.symm; have f5_ := f3_.symm; clear f1_ f2_ f3_; subst f4_; subst f5_))
              obtain ⟨Ao101, co101, eo101⟩ := Kd.N_slice HO264.out
              (first | subst eo101 | (injection eo101 with f1_ f2_ f3_; have f4_ := f1_.symm; have f5_ := f3_.symm; clear f1_ f2_ f3_; subst f4_; subst f5_))
              refine hK.out _ _ ⟨(blk_cell BK244.out 0).trans rfl, (blk_cell BK244.out 1).trans rfl, (blk_cell BK244.out 2).trans rfl, (blk_cell BK244.out 3).trans rfl, (blk_cell BK244.out 4).trans rfl, (blk_cell BK192.out 0).trans rfl, (blk_cell BK192.out 1).trans rfl, (blk_cell BK192.out 2).trans rfl, (blk_cell BK192.out 3).trans rfl, (blk_cell BK192.out 4).trans rfl, ((HB.out.cell (World.block_lt_of_cell? w _ hw245_0)).trans hw245_0), ((HB.out.cell (World.block_lt_of_cell? w _ hw246_0)).trans hw246_0), ((HB.out.cell (World.block_lt_of_cell? w _ hw246_1)).trans hw246_1), ((HB.out.cell (World.block_lt_of_cell? w _ hw246_2)).trans hw246_2), ((HB.out.cell (World.block_lt_of_cell? w _ hw246_3)).trans hw246_3), ((HB.out.cell (World.block_lt_of_cell? w _ hw246_4)).trans hw246_4)⟩ (fun hHeld => ?_)
              clear hK K
              refine norm_ (a' := ?_) ?_ ?_
              rotate_left
              ·show Act.put _ (some 76) _ = _
               simp only [Act.put, List.setIfInBounds_toArray, List.set_cons_zero, List.set_cons_succ, i64_w, i32_w]
               rfl
              refine last_ (i := 13) (N := none) #[true, true, true, true, true, true, true, true, true, true, true, true, true, true] rfl rfl (one_of HT_.out (by kernel_rfl)) (by decide) (fun K hK => ?_)
              have hs96 : w95.cell? ⟨gb244, 0, none⟩ = some (.int .i64 x245000_1) := (blk_cell BK244.out 0).trans rfl
              have hfs96 := blk_frozen BK244.out 0
              have hns96_0 := NB192_244.out
              have hns96_1 := NB193_244.out
              have hms96_0 := NB244_192.out
              have hms96_1 := NB244_193.out
              have hs97 : w95.cell? ⟨gb244, 1, none⟩ = some (.int .i64 x245001_1) := (blk_cell BK244.out 1).trans rfl
              have hfs97 := blk_frozen BK244.out 1
              have hns97_0 := NB192_244.out
              have hns97_1 := NB193_244.out
              have hms97_0 := NB244_192.out
              have hms97_1 := NB244_193.out
              have hs98 : w95.cell? ⟨gb244, 2, none⟩ = some (.string x245002_1) := (blk_cell BK244.out 2).trans rfl
              have hfs98 := blk_frozen BK244.out 2
              have hns98_0 := NB192_244.out
              have hns98_1 := NB193_244.out
              have hms98_0 := NB244_192.out
              have hms98_1 := NB244_193.out
              have hs100 : w95.cell? ⟨gb244, 3, none⟩ = some (.slice Ao91 x245003_1.length co91) := (blk_cell BK244.out 3).trans rfl
              have hfs100 := blk_frozen BK244.out 3
              have hns100_0 := NB192_244.out
              have hns100_1 := NB193_244.out
              have hms100_0 := NB244_192.out
              have hms100_1 := NB244_193.out
              have hs102 : w95.cell? ⟨gb244, 4, none⟩ = some (.slice Ao92 x245004_1.length co92) := (blk_cell BK244.out 4).trans rfl
              have hfs102 := blk_frozen BK244.out 4
              have hns102_0 := NB192_244.out
              have hns102_1 := NB193_244.out
              have hms102_0 := NB244_192.out
              have hms102_1 := NB244_193.out
              refine skip_ (w1 := ?_) (by rfl) rfl ?_ ?_
              rotate_left
              ·go_simp
               rfl
              refine hK.out _ _ ?_
              clear hK K
              refine done_ (done_of HT_.out (by kernel_rfl)) ?_
              try go_wp2
              go_roundg kj74
              case measure => have := HK1.out; have := HJ74.out; omega
              case rel => exact ⟨(wrap64 (x6_1 + 1)), (t256), (t257), (t258), (t259), (t262), (.slice Ao99 t259.length co99), (.slice Ao101 t262.length co101), (by first | rfl | (simp; done) | (simp [*]; done)), H', ⟨by have := HK1.out; have := HJ74.out; omega⟩, ⟨by (with_reducible repeat (first | apply Kd.R_alloc | apply Kd.R_drewN | apply Kd.R_drew)); exact Kd.R_mono (Kd.R_far (p := ⟨gb244, 4, none⟩) (Kd.R_far (p := ⟨gb244, 3, none⟩) (Kd.R_far (p := ⟨gb244, 2, none⟩) (Kd.R_far (p := ⟨gb244, 1, none⟩) (Kd.R_far (p := ⟨gb244, 0, none⟩) (Kd.R_types HO261.out BK244.out (by decide)) (fun _ hk => hk.2) (.int .i64 t256)) (fun _ hk => hk.2) (.int .i64 t257)) (fun _ hk => hk.2) (.string t258)) (fun _ hk => hk.2) (.slice Ao99 t259.length co99)) (fun _ hk => hk.2) (.slice Ao101 t262.length co101)) (fun _ hk => hk.1.1.1.1)⟩, ⟨by (with_reducible repeat (first | apply Kd.N_alloc | apply Kd.N_drewN | apply Kd.N_drew)); exact Kd.N_mono (Kd.N_far (p := ⟨gb244, 4, none⟩) (Kd.N_far (p := ⟨gb244, 3, none⟩) (Kd.N_far (p := ⟨gb244, 2, none⟩) (Kd.N_far (p := ⟨gb244, 1, none⟩) (Kd.N_far (p := ⟨gb244, 0, none⟩) (Kd.N_mono HO264.out (fun k_ hk => (⟨hk, hk.2.2.2.2.2⟩ : _ ∧ k_ ≠ gb244))) (fun _ hk => hk.2) (.int .i64 t256)) (fun _ hk => hk.2) (.int .i64 t257)) (fun _ hk => hk.2) (.string t258)) (fun _ hk => hk.2) (.slice Ao99 t259.length co99)) (fun _ hk => hk.2) (.slice Ao101 t262.length co101)) (fun _ hk => ⟨hk.1.1, ⟨hk.1.2.1, ⟨hk.1.2.2.2.1, ⟨hk.1.2.2.2.2.1, hk.1.2.2.2.2.2⟩⟩⟩⟩)⟩, ⟨by (with_reducible repeat (first | refine blk_drewN ?_ _ | refine blk_drew ?_ | refine blk_alloc ?_ _)); refine blk_far ?_ NB192_244.out _; (with_reducible repeat (first | refine blk_drewN ?_ _ | refine blk_drew ?_ | refine blk_alloc ?_ _)); refine blk_far ?_ NB192_244.out _; (with_reducible repeat (first | refine blk_drewN ?_ _ | refine blk_drew ?_ | refine blk_alloc ?_ _)); refine blk_far ?_ NB192_244.out _; (with_reducible repeat (first | refine blk_drewN ?_ _ | refine blk_drew ?_ | refine blk_alloc ?_ _)); refine blk_far ?_ NB192_244.out _; (with_reducible repeat (first | refine blk_drewN ?_ _ | refine blk_drew ?_ | refine blk_alloc ?_ _)); refine blk_far ?_ NB192_244.out _; (with_reducible repeat (first | refine blk_drewN ?_ _ | refine blk_drew ?_ | refine blk_alloc ?_ _)); exact BK192.out⟩, ⟨by (with_reducible repeat (first | refine blk_drewN ?_ _ | refine blk_drew ?_ | refine blk_alloc ?_ _)); refine blk_far ?_ NB193_244.out _; (with_reducible repeat (first | refine blk_drewN ?_ _ | refine blk_drew ?_ | refine blk_alloc ?_ _)); refine blk_far ?_ NB193_244.out _; (with_reducible repeat (first | refine blk_drewN ?_ _ | refine blk_drew ?_ | refine blk_alloc ?_ _)); refine blk_far ?_ NB193_244.out _; (with_reducible repeat (first | refine blk_drewN ?_ _ | refine blk_drew ?_ | refine blk_alloc ?_ _)); refine blk_far ?_ NB193_244.out _; (with_reducible repeat (first | refine blk_drewN ?_ _ | refine blk_drew ?_ | refine blk_alloc ?_ _)); refine blk_far ?_ NB193_244.out _; (with_reducible repeat (first | refine blk_drewN ?_ _ | refine blk_drew ?_ | refine blk_alloc ?_ _)); exact BK193.out⟩, ⟨by (with_reducible repeat (first | refine blk_drewN ?_ _ | refine blk_drew ?_ | refine blk_alloc ?_ _)); refine blk_put (cs := #[.int .i64 t256, .int .i64 t257, .string t258, .slice Ao99 t259.length co99, .slice Ao92 x245004_1.length co92]) ?_ 4 _ rfl; (with_reducible repeat (first | refine blk_drewN ?_ _ | refine blk_drew ?_ | refine blk_alloc ?_ _)); refine blk_put (cs := #[.int .i64 t256, .int .i64 t257, .string t258, .slice Ao91 x245003_1.length co91, .slice Ao92 x245004_1.length co92]) ?_ 3 _ rfl; (with_reducible repeat (first | refine blk_drewN ?_ _ | refine blk_drew ?_ | refine blk_alloc ?_ _)); refine blk_put (cs := #[.int .i64 t256, .int .i64 t257, .string x245002_1, .slice Ao91 x245003_1.length co91, .slice Ao92 x245004_1.length co92]) ?_ 2 _ rfl; (with_reducible repeat (first | refine blk_drewN ?_ _ | refine blk_drew ?_ | refine blk_alloc ?_ _)); refine blk_put (cs := #[.int .i64 t256, .int .i64 x245001_1, .string x245002_1, .slice Ao91 x245003_1.length co91, .slice Ao92 x245004_1.length co92]) ?_ 1 _ rfl; (with_reducible repeat (first | refine blk_drewN ?_ _ | refine blk_drew ?_ | refine blk_alloc ?_ _)); refine blk_put (cs := #[.int .i64 x245000_1, .int .i64 x245001_1, .string x245002_1, .slice Ao91 x245003_1.length co91, .slice Ao92 x245004_1.length co92]) ?_ 0 _ rfl; (with_reducible repeat (first | refine blk_drewN ?_ _ | refine blk_drew ?_ | refine blk_alloc ?_ _)); exact BK244.out⟩, ⟨by repeat (first | (with_reducible first | exact HB.out | apply below_alloc | apply pw_below_drewN | apply below_drew1 | refine below_set ?_ GE192.out | refine below_set ?_ GE193.out | refine below_set ?_ GE244.out) | exact HB.out)⟩⟩
             ·rw [if_neg c86] at H
              exact absurd H (by simp)
            ·rw [if_neg c85] at H
             exact absurd H (by simp)
           ·rw [if_neg c84] at H
            exact absurd H (by simp)
          ·replace c83 := Bool.eq_false_iff.mpr c83
           subst c83
           have H1 : (some (x245000_1, x245001_1, x245002_1, x245003_1, x245004_1)) = some (r1, r2, r3, r4, r5) := by rw [if_neg (show ¬ (false = true) by decide)] at H; exact H
           clear H
           have H := H1
           clear H1
           simp only [Option.some.injEq, Prod.mk.injEq] at H
           obtain ⟨rfl, rfl, rfl, rfl, rfl⟩ := H
           have hnb103 := NB244_192.out
           have hnc103 := NB192_244.out
           have hnb104 := NB244_193.out
           have hnc104 := NB193_244.out
           have hcz105_0 : wc.cell? ⟨gb244, 0, none⟩ = some (.int .i64 x245000_1) := (blk_cell BK244.out 0).trans rfl
           have hcz105_1 : wc.cell? ⟨gb244, 1, none⟩ = some (.int .i64 x245001_1) := (blk_cell BK244.out 1).trans rfl
           have hcz105_2 : wc.cell? ⟨gb244, 2, none⟩ = some (.string x245002_1) := (blk_cell BK244.out 2).trans rfl
           have hcz105_3 : wc.cell? ⟨gb244, 3, none⟩ = some (u245003) := (blk_cell BK244.out 3).trans rfl
           have hcz105_4 : wc.cell? ⟨gb244, 4, none⟩ = some (u245004) := (blk_cell BK244.out 4).trans rfl
           have hfz105_0 := blk_frozen BK244.out 0
           have hfz105_1 := blk_frozen BK244.out 1
           have hfz105_2 := blk_frozen BK244.out 2
           have hfz105_3 := blk_frozen BK244.out 3
           have hfz105_4 := blk_frozen BK244.out 4
           have hnb106 := NB193_192.out
           have hnc106 := NB192_193.out
           have hcz107_0 : wc.cell? ⟨gb193, 0, none⟩ = some (.int .i64 0) := (blk_cell BK193.out 0).trans rfl
           have hcz107_1 : wc.cell? ⟨gb193, 1, none⟩ = some (.int .i64 0) := (blk_cell BK193.out 1).trans rfl
           have hcz107_2 : wc.cell? ⟨gb193, 2, none⟩ = some (.string (⟨#[]⟩ : ByteArray)) := (blk_cell BK193.out 2).trans rfl
           have hcz107_3 : wc.cell? ⟨gb193, 3, none⟩ = some (.slice none 0 0) := (blk_cell BK193.out 3).trans rfl
           have hcz107_4 : wc.cell? ⟨gb193, 4, none⟩ = some (.slice none 0 0) := (blk_cell BK193.out 4).trans rfl
           have hfz107_0 := blk_frozen BK193.out 0
           have hfz107_1 := blk_frozen BK193.out 1
           have hfz107_2 := blk_frozen BK193.out 2
           have hfz107_3 := blk_frozen BK193.out 3
           have hfz107_4 := blk_frozen BK193.out 4
           obtain ⟨Ao108, co108, eo108⟩ := Kd.R_slice HO_245003.out
           subst eo108
           obtain ⟨Ao109, co109, eo109⟩ := Kd.N_slice HO_245004.out
           subst eo109
           go_wp2
           refine bodyPost_ret (results_cell_row rfl _ _ gb193 32 #[.int .i64 x245000_1, .int .i64 x245001_1, .string x245002_1, .slice Ao108 x245003_1.length co108, .slice Ao109 x245004_1.length co109] (0, 0) _ rfl (by (with_reducible repeat (first | refine blk_drewN ?_ _ | refine blk_drew ?_ | refine blk_alloc ?_ _)); refine blk_put (cs := #[.int .i64 x245000_1, .int .i64 x245001_1, .string x245002_1, .slice Ao108 x245003_1.length co108, .slice none 0 0]) ?_ 4 _ rfl; (with_reducible repeat (first | refine blk_drewN ?_ _ | refine blk_drew ?_ | refine blk_alloc ?_ _)); refine blk_put (cs := #[.int .i64 x245000_1, .int .i64 x245001_1, .string x245002_1, .slice none 0 0, .slice none 0 0]) ?_ 3 _ rfl; (with_reducible repeat (first | refine blk_drewN ?_ _ | refine blk_drew ?_ | refine blk_alloc ?_ _)); refine blk_put (cs := #[.int .i64 x245000_1, .int .i64 x245001_1, .string (⟨#[]⟩ : ByteArray), .slice none 0 0, .slice none 0 0]) ?_ 2 _ rfl; (with_reducible repeat (first | refine blk_drewN ?_ _ | refine blk_drew ?_ | refine blk_alloc ?_ _)); refine blk_put (cs := #[.int .i64 x245000_1, .int .i64 0, .string (⟨#[]⟩ : ByteArray), .slice none 0 0, .slice none 0 0]) ?_ 1 _ rfl; (with_reducible repeat (first | refine blk_drewN ?_ _ | refine blk_drew ?_ | refine blk_alloc ?_ _)); refine blk_put (cs := #[.int .i64 0, .int .i64 0, .string (⟨#[]⟩ : ByteArray), .slice none 0 0, .slice none 0 0]) ?_ 0 _ rfl; (with_reducible repeat (first | refine blk_drewN ?_ _ | refine blk_drew ?_ | refine blk_alloc ?_ _)); exact BK193.out) Tryd.underlying32 rfl (by kernel_rfl)) rfl ?_
           exact ⟨_, _, by first | rfl | (simp [errW_none, errW_some] <;> rfl) | (simp [*, errW_none, errW_some] <;> rfl), by (with_reducible repeat (first | apply Kd.R_alloc | apply Kd.R_drewN | apply Kd.R_drew)); exact Kd.R_mono (Kd.R_far (p := ⟨gb193, 4, none⟩) (Kd.R_far (p := ⟨gb193, 3, none⟩) (Kd.R_far (p := ⟨gb193, 2, none⟩) (Kd.R_far (p := ⟨gb193, 1, none⟩) (Kd.R_far (p := ⟨gb193, 0, none⟩) (Kd.R_types HO_245003.out BK193.out (by decide)) (fun _ hk => hk.2) (.int .i64 x245000_1)) (fun _ hk => hk.2) (.int .i64 x245001_1)) (fun _ hk => hk.2) (.string x245002_1)) (fun _ hk => hk.2) (.slice Ao108 x245003_1.length co108)) (fun _ hk => hk.2) (.slice Ao109 x245004_1.length co109)) (fun _ hk => hk.1), by (with_reducible repeat (first | apply Kd.N_alloc | apply Kd.N_drewN | apply Kd.N_drew)); exact Kd.N_mono (Kd.N_far (p := ⟨gb193, 4, none⟩) (Kd.N_far (p := ⟨gb193, 3, none⟩) (Kd.N_far (p := ⟨gb193, 2, none⟩) (Kd.N_far (p := ⟨gb193, 1, none⟩) (Kd.N_far (p := ⟨gb193, 0, none⟩) (Kd.N_mono HO_245004.out (fun k_ hk => (⟨hk, hk.2.2.2.1⟩ : _ ∧ k_ ≠ gb193))) (fun _ hk => hk.2) (.int .i64 x245000_1)) (fun _ hk => hk.2) (.int .i64 x245001_1)) (fun _ hk => hk.2) (.string x245002_1)) (fun _ hk => hk.2) (.slice Ao108 x245003_1.length co108)) (fun _ hk => hk.2) (.slice Ao109 x245004_1.length co109)) (fun _ hk => ⟨hk.1.1, hk.1.2.1⟩), by repeat (first | (with_reducible first | exact HB.out | apply below_alloc | apply pw_below_drewN | apply below_drew1 | refine below_set ?_ GE192.out | refine below_set ?_ GE193.out | refine below_set ?_ GE244.out) | exact HB.out)⟩
     ·rw [if_neg c62] at H
      have c62b0 : (a0_0 == 5) = false := beq_eq_false_iff_ne.mpr c62
      have c62b1 : (a0_0 != 5) = true := bne_iff_ne.mpr c62
      simp only [Option.some.injEq, Prod.mk.injEq] at H
      obtain ⟨rfl, rfl, rfl, rfl, rfl⟩ := H
      go_enter Tryd.func13, Tryd.ntmps13
      go_wp2_with (first | ((with_reducible refine gate_dst (N := 1) rfl ?_); (try (refine gate_guard (by rfl) ?_; dsimp only)); refine box_event ?hg (N := 1) ?hd (cs := #[.int .i64 a0_0, .int .i64 a0_1, .string a0_2, .slice A0_3 l0_3.length c0_3, .slice A0_4 l0_4.length c0_4]) (t := 32) ?hr ?_; (case hd => rfl); (case hg => rfl); (case hr => first | (go_simp; done) | (go_simp; rfl)); intro gb192 hg w110 hbox hb; have n0_ := Aside0.mk (below_step (by repeat (first | (with_reducible first | exact HB.out | apply below_alloc | apply pw_below_drewN | apply below_drew1) | exact HB.out)) hb); have n1_ := Aside0.mk (hbox); have n2_ := Aside0.mk ((by rw [hg]; exact (below_size (by repeat (first | (with_reducible first | exact HB.out | apply below_alloc | apply pw_below_drewN | apply below_drew1) | exact HB.out))) : w.heap.size ≤ gb192)); have n3_ := Aside0.mk ((by rw [hg]; exact (below_size (by repeat (first | (with_reducible first | exact HB.out | apply below_alloc | apply pw_below_drewN | apply below_drew1) | exact HB.out))) : w.heap.size ≤ gb192)); clear HB; have HB := n0_; have BK192 := n1_; have GW192 := n2_; have GE192 := n3_; clear n0_ n1_ n2_ n3_; clear hb hbox hg) | ((with_reducible refine gate_dst (N := 2) rfl ?_); (try (refine gate_guard (by rfl) ?_; dsimp only)); refine box_event ?hg (N := 2) ?hd (cs := #[.int .i64 0, .int .i64 0, .string (⟨#[]⟩ : ByteArray), .slice none 0 0, .slice none 0 0]) (t := 32) ?hr ?_; (case hd => rfl); (case hg => rfl); (case hr => first | (go_simp; done) | (go_simp; rfl)); intro gb193 hg w111 hbox hb; have n0_ := Aside0.mk (blk_below (g := gb192) (o := .cells #[.int .i64 a0_0, .int .i64 a0_1, .string a0_2, .slice A0_3 l0_3.length c0_3, .slice A0_4 l0_4.length c0_4] 32 (0, 0)) (by (with_reducible repeat (first | refine blk_drewN ?_ _ | refine blk_drew ?_ | refine blk_alloc ?_ _)); exact BK192.out) hb); have n1_ := Aside0.mk (below_step (by repeat (first | (with_reducible first | exact HB.out | apply below_alloc | apply pw_below_drewN | apply below_drew1 | refine below_set ?_ GE192.out) | exact HB.out)) hb); have n2_ := Aside0.mk (hbox); have n3_ := Aside0.mk ((by rw [hg]; exact (below_size (by repeat (first | (with_reducible first | exact HB.out | apply below_alloc | apply pw_below_drewN | apply below_drew1 | refine below_set ?_ GE192.out) | exact HB.out))) : w.heap.size ≤ gb193)); have n4_ := Aside0.mk ((by rw [hg]; exact (below_size (by repeat (first | (with_reducible first | exact HB.out | apply below_alloc | apply pw_below_drewN | apply below_drew1 | refine below_set ?_ GE192.out) | exact HB.out))) : w.heap.size ≤ gb193)); have n5_ := Aside0.mk ((by rw [hg]; exact Nat.ne_of_lt (blk_lt (g := gb192) (o := .cells #[.int .i64 a0_0, .int .i64 a0_1, .string a0_2, .slice A0_3 l0_3.length c0_3, .slice A0_4 l0_4.length c0_4] 32 (0, 0)) (by (with_reducible repeat (first | refine blk_drewN ?_ _ | refine blk_drew ?_ | refine blk_alloc ?_ _)); exact BK192.out)) : gb192 ≠ gb193)); have n6_ := Aside0.mk ((by rw [hg]; exact Nat.ne_of_gt (blk_lt (g := gb192) (o := .cells #[.int .i64 a0_0, .int .i64 a0_1, .string a0_2, .slice A0_3 l0_3.length c0_3, .slice A0_4 l0_4.length c0_4] 32 (0, 0)) (by (with_reducible repeat (first | refine blk_drewN ?_ _ | refine blk_drew ?_ | refine blk_alloc ?_ _)); exact BK192.out)) : gb193 ≠ gb192)); clear BK192; clear HB; have BK192 := n0_; have HB := n1_; have BK193 := n2_; have GW193 := n3_; have GE193 := n4_; have NB192_193 := n5_; have NB193_192 := n6_; clear n0_ n1_ n2_ n3_ n4_ n5_ n6_; clear hb hbox hg; have hnb112 := NB192_193.out; have hnc112 := NB193_192.out; have hcz113_0 : w111.cell? ⟨gb192, 0, none⟩ = some (.int .i64 a0_0) := (blk_cell BK192.out 0).trans rfl; have hcz113_1 : w111.cell? ⟨gb192, 1, none⟩ = some (.int .i64 a0_1) := (blk_cell BK192.out 1).trans rfl; have hcz113_2 : w111.cell? ⟨gb192, 2, none⟩ = some (.string a0_2) := (blk_cell BK192.out 2).trans rfl; have hcz113_3 : w111.cell? ⟨gb192, 3, none⟩ = some (.slice A0_3 l0_3.length c0_3) := (blk_cell BK192.out 3).trans rfl; have hcz113_4 : w111.cell? ⟨gb192, 4, none⟩ = some (.slice A0_4 l0_4.length c0_4) := (blk_cell BK192.out 4).trans rfl; have hfz113_0 := blk_frozen BK192.out 0; have hfz113_1 := blk_frozen BK192.out 1; have hfz113_2 := blk_frozen BK192.out 2; have hfz113_3 := blk_frozen BK192.out 3; have hfz113_4 := blk_frozen BK192.out 4; have hcz114_0 : w111.cell? ⟨gb193, 0, none⟩ = some (.int .i64 0) := (blk_cell BK193.out 0).trans rfl; have hcz114_1 : w111.cell? ⟨gb193, 1, none⟩ = some (.int .i64 0) := (blk_cell BK193.out 1).trans rfl; have hcz114_2 : w111.cell? ⟨gb193, 2, none⟩ = some (.string (⟨#[]⟩ : ByteArray)) := (blk_cell BK193.out 2).trans rfl; have hcz114_3 : w111.cell? ⟨gb193, 3, none⟩ = some (.slice none 0 0) := (blk_cell BK193.out 3).trans rfl; have hcz114_4 : w111.cell? ⟨gb193, 4, none⟩ = some (.slice none 0 0) := (blk_cell BK193.out 4).trans rfl; have hfz114_0 := blk_frozen BK193.out 0; have hfz114_1 := blk_frozen BK193.out 1; have hfz114_2 := blk_frozen BK193.out 2; have hfz114_3 := blk_frozen BK193.out 3; have hfz114_4 := blk_frozen BK193.out 4))
      refine bodyPost_ret (results_cell_row rfl _ _ gb193 32 #[.int .i64 0, .int .i64 0, .string (⟨#[]⟩ : ByteArray), .slice none 0 0, .slice none 0 0] (0, 0) _ rfl (by (with_reducible repeat (first | refine blk_drewN ?_ _ | refine blk_drew ?_ | refine blk_alloc ?_ _)); refine blk_put (cs := #[.int .i64 0, .int .i64 0, .string (⟨#[]⟩ : ByteArray), .slice none 0 0, .slice none 0 0]) ?_ 4 _ rfl; (with_reducible repeat (first | refine blk_drewN ?_ _ | refine blk_drew ?_ | refine blk_alloc ?_ _)); refine blk_put (cs := #[.int .i64 0, .int .i64 0, .string (⟨#[]⟩ : ByteArray), .slice none 0 0, .slice none 0 0]) ?_ 3 _ rfl; (with_reducible repeat (first | refine blk_drewN ?_ _ | refine blk_drew ?_ | refine blk_alloc ?_ _)); refine blk_put (cs := #[.int .i64 0, .int .i64 0, .string (⟨#[]⟩ : ByteArray), .slice none 0 0, .slice none 0 0]) ?_ 2 _ rfl; (with_reducible repeat (first | refine blk_drewN ?_ _ | refine blk_drew ?_ | refine blk_alloc ?_ _)); refine blk_put (cs := #[.int .i64 0, .int .i64 0, .string (⟨#[]⟩ : ByteArray), .slice none 0 0, .slice none 0 0]) ?_ 1 _ rfl; (with_reducible repeat (first | refine blk_drewN ?_ _ | refine blk_drew ?_ | refine blk_alloc ?_ _)); refine blk_put (cs := #[.int .i64 0, .int .i64 0, .string (⟨#[]⟩ : ByteArray), .slice none 0 0, .slice none 0 0]) ?_ 0 _ rfl; (with_reducible repeat (first | refine blk_drewN ?_ _ | refine blk_drew ?_ | refine blk_alloc ?_ _)); exact BK193.out) Tryd.underlying32 rfl (by kernel_rfl)) rfl ?_
      exact ⟨_, _, by first | rfl | (simp [errW_none, errW_some] <;> rfl) | (simp [*, errW_none, errW_some] <;> rfl), by first | exact Kd.R_nil _ _ _ _ _ | exact Kd.N_nil _ _ _ _ _ | exact Kd.V_nil _ _ _ _ _ | exact Kd.Q_nil _ _ _ _ _ | exact Kd.S_nil _ _ _ _ _, by first | exact Kd.R_nil _ _ _ _ _ | exact Kd.N_nil _ _ _ _ _ | exact Kd.V_nil _ _ _ _ _ | exact Kd.Q_nil _ _ _ _ _ | exact Kd.S_nil _ _ _ _ _, by repeat (first | (with_reducible first | exact HB.out | apply below_alloc | apply pw_below_drewN | apply below_drew1 | refine below_set ?_ GE192.out | refine below_set ?_ GE193.out) | exact HB.out)⟩
end Go.Proofs.YtaembebbaejfiaaDoor.PS
