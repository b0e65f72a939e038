/- Parts of the proof, laid together: QSpecSame, PureSame, Gives, MergeNets, QSpecMergeSplit, QSpecSayPairs. -/
import Derived.Test.YtaembebbaejfiaaC3
import Derived.Test.YtaembebbaejfiaaC6
import Derived.Test.YtaembebbaejfiaaC2
import Derived.Test.YtaembebbaejfiaaC7
import Derived.Test.YtaembebbaejfiaaC4
namespace Go.Proofs.Ytaembebbaejfiaa.PS
open Go.RowKit Go.Proofs.YtaembebbaejfiaaW.PrintWords Go.Proofs.YtaembebbaejfiaaW.PrintLast Go.Proofs.YtaembebbaejfiaaW.PrintMore
attribute [local go_sem] max2_int min2_int max_two min_two max_three min_three max_four min_four 
set_option linter.unusedVariables false
set_option linter.unusedSimpArgs false
mutual
def spec_Same.j0 : Nat → Bool → Int → Int → ByteArray → List ByteArray → List (S25) → Int → Int → ByteArray → List ByteArray → List (S25) → Option (Bool)
 | 0, _, _, _, _, _, _, _, _, _, _, _ => none
 | k + 1, x43, x297000, x297001, x297002, x297003, x297004, x298000, x298001, x298002, x298003, x298004 => if x43 = true then (some false) else (spec_Same.l0 k 0 x297000 x297001 x297002 x297003 x297004 x298000 x298001 x298002 x298003 x298004)
def spec_Same.l0 : Nat → Int → Int → Int → ByteArray → List ByteArray → List (S25) → Int → Int → ByteArray → List ByteArray → List (S25) → Option (Bool)
 | 0, _, _, _, _, _, _, _, _, _, _, _ => none
 | k + 1, x5, x297000, x297001, x297002, x297003, x297004, x298000, x298001, x298002, x298003, x298004 => if x5 < (x297003.length : Int) then (if 0 ≤ x5 then (if x5 < (x298003.length : Int) then (if (rdOf ByteArray.empty x297003 x5).toList = (rdOf ByteArray.empty x298003 x5).toList then (spec_Same.l0 k (wrap64 (x5 + 1)) x297000 x297001 x297002 x297003 x297004 x298000 x298001 x298002 x298003 x298004) else (some false)) else (none)) else (none)) else (spec_Same.l1 k 0 x297000 x297001 x297002 x297003 x297004 x298000 x298001 x298002 x298003 x298004)
def spec_Same.l1 : Nat → Int → Int → Int → ByteArray → List ByteArray → List (S25) → Int → Int → ByteArray → List ByteArray → List (S25) → Option (Bool)
 | 0, _, _, _, _, _, _, _, _, _, _, _ => none
 | k + 1, x6, x297000, x297001, x297002, x297003, x297004, x298000, x298001, x298002, x298003, x298004 => if x6 < (x297004.length : Int) then (if 0 ≤ x6 then (if x6 < (x298004.length : Int) then ((spec_Same.f k ((rd_T25 x297004 x6).f0) ((rd_T25 x297004 x6).f1) ((rd_T25 x297004 x6).f2) ((rd_T25 x297004 x6).f3) ((rd_T25 x297004 x6).f4) ((rd_T25 x298004 x6).f0) ((rd_T25 x298004 x6).f1) ((rd_T25 x298004 x6).f2) ((rd_T25 x298004 x6).f3) ((rd_T25 x298004 x6).f4)).bind fun t302 => (if t302 = true then (spec_Same.l1 k (wrap64 (x6 + 1)) x297000 x297001 x297002 x297003 x297004 x298000 x298001 x298002 x298003 x298004) else (some false))) else (none)) else (none)) else (some true)
def spec_Same.f : Nat → Int → Int → ByteArray → List ByteArray → List (S25) → Int → Int → ByteArray → List ByteArray → List (S25) → Option (Bool)
 | 0, _, _, _, _, _, _, _, _, _, _ => none
 | k + 1, a0_0, a0_1, a0_2, l0_3, l0_4, a1_0, a1_1, a1_2, l1_3, l1_4 => if a0_0 = a1_0 then (if a0_1 = a1_1 then (if a0_2.toList = a1_2.toList then (if (l0_3.length : Int) = (l1_3.length : Int) then (spec_Same.j0 k ((l0_4.length : Int) != (l1_4.length : Int)) a0_0 a0_1 a0_2 l0_3 l0_4 a1_0 a1_1 a1_2 l1_3 l1_4) else (spec_Same.j0 k true a0_0 a0_1 a0_2 l0_3 l0_4 a1_0 a1_1 a1_2 l1_3 l1_4)) else (spec_Same.j0 k true a0_0 a0_1 a0_2 l0_3 l0_4 a1_0 a1_1 a1_2 l1_3 l1_4)) else (spec_Same.j0 k true a0_0 a0_1 a0_2 l0_3 l0_4 a1_0 a1_1 a1_2 l1_3 l1_4)) else (spec_Same.j0 k true a0_0 a0_1 a0_2 l0_3 l0_4 a1_0 a1_1 a1_2 l1_3 l1_4)
end
def spec_Same.T6 : Bool × List (List Nat × List Nat) := (true, [([], []), ([0], [0]), ([], []), ([1, 2], [1, 2]), ([3], [3]), ([], []), ([5], [5]), ([], []), ([6, 7], [6, 7]), ([8], [8]), ([4, 9], [4, 9])])
def spec_Same.B6 : List Nat := [0, 1, 0, 7, 15, 0, 32, 0, 224, 480, 1023]
theorem spec_Same.tab6 : rtab .any (opsOf Try.f18 6) = spec_Same.T6 := by kernel_rfl
theorem spec_Same.bits6 : waitsOk spec_Same.T6.2 spec_Same.B6 = true := by kernel_rfl
def spec_Same.T11 : Bool × List (List Nat × List Nat) := (true, [([], []), ([0], [0]), ([], []), ([1, 2], [1, 2]), ([3], [3]), ([], []), ([5], [5]), ([], []), ([6, 7], [6, 7]), ([8], [8]), ([4, 9], [4, 9]), ([10], [10])])
def spec_Same.B11 : List Nat := [0, 1, 0, 7, 15, 0, 32, 0, 224, 480, 1023, 2047]
theorem spec_Same.tab11 : rtab .any (opsOf Try.f18 11) = spec_Same.T11 := by kernel_rfl
theorem spec_Same.bits11 : waitsOk spec_Same.T11.2 spec_Same.B11 = true := by kernel_rfl
set_option maxHeartbeats 8000000 in
set_option maxRecDepth 100000 in
theorem spec_Same.calls (k : Nat) : ∀ (a0_0 : Int) (a0_1 : Int) (a0_2 : ByteArray) (A0_3 : Option Addr) (c0_3 : Nat) (l0_3 : List ByteArray) (A0_4 : Option Addr) (c0_4 : Nat) (l0_4 : List (S25)) (a1_0 : Int) (a1_1 : Int) (a1_2 : ByteArray) (A1_3 : Option Addr) (c1_3 : Nat) (l1_3 : List ByteArray) (A1_4 : Option Addr) (c1_4 : Nat) (l1_4 : List (S25)) (r : Bool) (w : World) (hr0_3 : Kd.C Kd.string w A0_3 l0_3.length l0_3) (hc0_3 : l0_3.length ≤ c0_3) (hr0_4 : Kd.C k25 w A0_4 l0_4.length l0_4) (hc0_4 : l0_4.length ≤ c0_4) (hr1_3 : Kd.C Kd.string w A1_3 l1_3.length l1_3) (hc1_3 : l1_3.length ≤ c1_3) (hr1_4 : Kd.C k25 w A1_4 l1_4.length l1_4) (hc1_4 : l1_4.length ≤ c1_4) (h : spec_Same.f k a0_0 a0_1 a0_2 l0_3 l0_4 a1_0 a1_1 a1_2 l1_3 l1_4 = some r),
  Calls Try.prog 18 #[.agg #[.int .i64 a0_0, .int .i64 a0_1, .string a0_2, .slice A0_3 l0_3.length c0_3, .slice A0_4 l0_4.length c0_4], .agg #[.int .i64 a1_0, .int .i64 a1_1, .string a1_2, .slice A1_3 l1_3.length c1_3, .slice A1_4 l1_4.length c1_4]] w fun e w' => e = .returned (.bool r) ∧ Below w.heap.size w w' := by
 induction k using Nat.strongRecOn with
 | _ k ih =>
 intro a0_0 a0_1 a0_2 A0_3 c0_3 l0_3 A0_4 c0_4 l0_4 a1_0 a1_1 a1_2 A1_3 c1_3 l1_3 A1_4 c1_4 l1_4 r w hr0_3 hc0_3 hr0_4 hc0_4 hr1_3 hc1_3 hr1_4 hc1_4 h
 cases k with
 | zero => exact absurd h (by simp [spec_Same.f])
 | succ k =>
 simp only [spec_Same.f] at h
 have hu25 := Try.underlying25
 have HR0_3 := aM hr0_3
 have HC0_3 := aM hc0_3
 clear hr0_3 hc0_3
 have HR0_4 := aM hr0_4
 have HC0_4 := aM hc0_4
 clear hr0_4 hc0_4
 have HR1_3 := aM hr1_3
 have HC1_3 := aM hc1_3
 clear hr1_3 hc1_3
 have HR1_4 := aM hr1_4
 have HC1_4 := aM hc1_4
 clear hr1_4 hc1_4
 have HB := aM (Below.refl w.heap.size w)
 have H : (if a0_0 = a1_0 then (if a0_1 = a1_1 then (if a0_2.toList = a1_2.toList then (if (l0_3.length : Int) = (l1_3.length : Int) then (spec_Same.j0 k ((l0_4.length : Int) != (l1_4.length : Int)) a0_0 a0_1 a0_2 l0_3 l0_4 a1_0 a1_1 a1_2 l1_3 l1_4) else (spec_Same.j0 k true a0_0 a0_1 a0_2 l0_3 l0_4 a1_0 a1_1 a1_2 l1_3 l1_4)) else (spec_Same.j0 k true a0_0 a0_1 a0_2 l0_3 l0_4 a1_0 a1_1 a1_2 l1_3 l1_4)) else (spec_Same.j0 k true a0_0 a0_1 a0_2 l0_3 l0_4 a1_0 a1_1 a1_2 l1_3 l1_4)) else (spec_Same.j0 k true a0_0 a0_1 a0_2 l0_3 l0_4 a1_0 a1_1 a1_2 l1_3 l1_4)) = some r := h
 clear h
 have HC3 := aM H
 clear H
 go_enter Try.func18, Try.ntmps18
 go_upto_region 1 with (first | ((with_reducible refine gate_dst (N := 2) rfl ?_); (try (refine gate_guard (by rfl) ?_; dsimp only)); refine box_event ?hg (N := 2) ?hd (cs := #[.int .i64 a0_0, .int .i64 a0_1, .string a0_2, .slice A0_3 l0_3.length c0_3, .slice A0_4 l0_4.length c0_4]) (t := 25) ?hr ?_; (case hd => rfl); (case hg => rfl); (case hr => first | (go_simp; done) | (go_simp; rfl)); intro gb296 hg w4 hbox hb; have n0_ := aM (below_step (by repeat (first | (with_reducible first | exact HB.out | apply below_alloc | apply pw_below_drewN | apply below_drew1) | exact HB.out)) hb); have n1_ := aM (hbox); have n2_ := aM ((by rw [hg]; exact (below_size (by repeat (first | (with_reducible first | exact HB.out | apply below_alloc | apply pw_below_drewN | apply below_drew1) | exact HB.out))) : w.heap.size ≤ gb296)); have n3_ := aM ((by rw [hg]; exact (below_size (by repeat (first | (with_reducible first | exact HB.out | apply below_alloc | apply pw_below_drewN | apply below_drew1) | exact HB.out))) : w.heap.size ≤ gb296)); clear HB; have HB := n0_; have BK296 := n1_; have GW296 := n2_; have GE296 := n3_; clear n0_ n1_ n2_ n3_; clear hb hbox hg) | ((with_reducible refine gate_dst (N := 3) rfl ?_); (try (refine gate_guard (by rfl) ?_; dsimp only)); refine box_event ?hg (N := 3) ?hd (cs := #[.int .i64 a1_0, .int .i64 a1_1, .string a1_2, .slice A1_3 l1_3.length c1_3, .slice A1_4 l1_4.length c1_4]) (t := 25) ?hr ?_; (case hd => rfl); (case hg => rfl); (case hr => first | (go_simp; done) | (go_simp; rfl)); intro gb297 hg w5 hbox hb; have n0_ := aM (blk_below (g := gb296) (o := .cells #[.int .i64 a0_0, .int .i64 a0_1, .string a0_2, .slice A0_3 l0_3.length c0_3, .slice A0_4 l0_4.length c0_4] 25 (0, 0)) (by (with_reducible repeat (first | refine blk_drewN ?_ _ | refine blk_drew ?_ | refine blk_alloc ?_ _)); exact BK296.out) hb); have n1_ := aM (below_step (by repeat (first | (with_reducible first | exact HB.out | apply below_alloc | apply pw_below_drewN | apply below_drew1 | refine below_set ?_ GE296.out) | exact HB.out)) hb); have n2_ := aM (hbox); have n3_ := aM ((by rw [hg]; exact (below_size (by repeat (first | (with_reducible first | exact HB.out | apply below_alloc | apply pw_below_drewN | apply below_drew1 | refine below_set ?_ GE296.out) | exact HB.out))) : w.heap.size ≤ gb297)); have n4_ := aM ((by rw [hg]; exact (below_size (by repeat (first | (with_reducible first | exact HB.out | apply below_alloc | apply pw_below_drewN | apply below_drew1 | refine below_set ?_ GE296.out) | exact HB.out))) : w.heap.size ≤ gb297)); have n5_ := aM ((by rw [hg]; exact Nat.ne_of_lt (blk_lt (g := gb296) (o := .cells #[.int .i64 a0_0, .int .i64 a0_1, .string a0_2, .slice A0_3 l0_3.length c0_3, .slice A0_4 l0_4.length c0_4] 25 (0, 0)) (by (with_reducible repeat (first | refine blk_drewN ?_ _ | refine blk_drew ?_ | refine blk_alloc ?_ _)); exact BK296.out)) : gb296 ≠ gb297)); have n6_ := aM ((by rw [hg]; exact Nat.ne_of_gt (blk_lt (g := gb296) (o := .cells #[.int .i64 a0_0, .int .i64 a0_1, .string a0_2, .slice A0_3 l0_3.length c0_3, .slice A0_4 l0_4.length c0_4] 25 (0, 0)) (by (with_reducible repeat (first | refine blk_drewN ?_ _ | refine blk_drew ?_ | refine blk_alloc ?_ _)); exact BK296.out)) : gb297 ≠ gb296)); clear BK296; clear HB; have BK296 := n0_; have HB := n1_; have BK297 := n2_; have GW297 := n3_; have GE297 := n4_; have NB296_297 := n5_; have NB297_296 := n6_; clear n0_ n1_ n2_ n3_ n4_ n5_ n6_; clear hb hbox hg))
 (try simp only [Act.put, List.setIfInBounds_toArray, List.set_cons_zero, List.set_cons_succ])
 go_cut [43] (fun v43 wc => ∃ (kq : Nat) (x43_2 : Bool), v43 = .bool x43_2 ∧ Aside0 (spec_Same.j0 kq x43_2 a0_0 a0_1 a0_2 l0_3 l0_4 a1_0 a1_1 a1_2 l1_3 l1_4 = some r) ∧ Aside0 (kq ≤ k) ∧ Aside0 (wc.heap[gb296]? = some (.cells #[.int .i64 a0_0, .int .i64 a0_1, .string a0_2, (.slice A0_3 l0_3.length c0_3), (.slice A0_4 l0_4.length c0_4)] 25 (0, 0))) ∧ Aside0 (wc.heap[gb297]? = some (.cells #[.int .i64 a1_0, .int .i64 a1_1, .string a1_2, (.slice A1_3 l1_3.length c1_3), (.slice A1_4 l1_4.length c1_4)] 25 (0, 0))) ∧ Aside0 (Below w.heap.size w wc))
 case first =>
  have H := HC3.out
  clear HC3
  by_cases c6 : a0_0 = a1_0
  ·rw [if_pos c6] at H
   have c6b0 : (a0_0 == a1_0) = true := beq_iff_eq.mpr c6
   have c6b1 : (a0_0 != a1_0) = false := bne_eq_false_iff_eq.mpr c6
   clear c6
   (first | rw [c6b0] | (simp only [i64_w, i32_w]; rw [c6b0]) | skip)
   by_cases c7 : a0_1 = a1_1
   ·rw [if_pos c7] at H
    have c7b0 : (a0_1 == a1_1) = true := beq_iff_eq.mpr c7
    have c7b1 : (a0_1 != a1_1) = false := bne_eq_false_iff_eq.mpr c7
    clear c7
    by_cases c8 : a0_2.toList = a1_2.toList
    ·rw [if_pos c8] at H
     have c8b0 : (a0_2.toList == a1_2.toList) = true := beq_iff_eq.mpr c8
     have c8b1 : (a0_2.toList != a1_2.toList) = false := bne_eq_false_iff_eq.mpr c8
     clear c8
     by_cases c9 : (l0_3.length : Int) = (l1_3.length : Int)
     ·rw [if_pos c9] at H
      have c9b0 : ((l0_3.length : Int) == (l1_3.length : Int)) = true := beq_iff_eq.mpr c9
      have c9b1 : ((l0_3.length : Int) != (l1_3.length : Int)) = false := bne_eq_false_iff_eq.mpr c9
      have c9b2 : (l0_3.length == l1_3.length) = true := by first | simpa using c9 | (simp at c9 ⊢; omega)
      clear c9
      have H' := aM H
      clear H
      have hnb10 := NB296_297.out
      have hnc10 := NB297_296.out
      have hcz11_0 : w5.cell? ⟨gb296, 0, none⟩ = some (.int .i64 a0_0) := (blk_cell BK296.out 0).trans rfl
      have hcz11_1 : w5.cell? ⟨gb296, 1, none⟩ = some (.int .i64 a0_1) := (blk_cell BK296.out 1).trans rfl
      have hcz11_2 : w5.cell? ⟨gb296, 2, none⟩ = some (.string a0_2) := (blk_cell BK296.out 2).trans rfl
      have hcz11_3 : w5.cell? ⟨gb296, 3, none⟩ = some (.slice A0_3 l0_3.length c0_3) := (blk_cell BK296.out 3).trans rfl
      have hcz11_4 : w5.cell? ⟨gb296, 4, none⟩ = some (.slice A0_4 l0_4.length c0_4) := (blk_cell BK296.out 4).trans rfl
      have hfz11_0 := blk_frozen BK296.out 0
      have hfz11_1 := blk_frozen BK296.out 1
      have hfz11_2 := blk_frozen BK296.out 2
      have hfz11_3 := blk_frozen BK296.out 3
      have hfz11_4 := blk_frozen BK296.out 4
      have hcz12_0 : w5.cell? ⟨gb297, 0, none⟩ = some (.int .i64 a1_0) := (blk_cell BK297.out 0).trans rfl
      have hcz12_1 : w5.cell? ⟨gb297, 1, none⟩ = some (.int .i64 a1_1) := (blk_cell BK297.out 1).trans rfl
      have hcz12_2 : w5.cell? ⟨gb297, 2, none⟩ = some (.string a1_2) := (blk_cell BK297.out 2).trans rfl
      have hcz12_3 : w5.cell? ⟨gb297, 3, none⟩ = some (.slice A1_3 l1_3.length c1_3) := (blk_cell BK297.out 3).trans rfl
      have hcz12_4 : w5.cell? ⟨gb297, 4, none⟩ = some (.slice A1_4 l1_4.length c1_4) := (blk_cell BK297.out 4).trans rfl
      have hfz12_0 := blk_frozen BK297.out 0
      have hfz12_1 := blk_frozen BK297.out 1
      have hfz12_2 := blk_frozen BK297.out 2
      have hfz12_3 := blk_frozen BK297.out 3
      have hfz12_4 := blk_frozen BK297.out 4
      go_wp2
      go_meet
      case rel => exact ⟨_, (((l0_4.length : Int) != (l1_4.length : Int))), (by first | rfl | (simp; done) | (simp [*]; done)), H', ⟨by first | omega | exact Nat.le_refl _⟩, ⟨by (with_reducible repeat (first | refine blk_drewN ?_ _ | refine blk_drew ?_ | refine blk_alloc ?_ _)); exact BK296.out⟩, ⟨by (with_reducible repeat (first | refine blk_drewN ?_ _ | refine blk_drew ?_ | refine blk_alloc ?_ _)); exact BK297.out⟩, ⟨by repeat (first | (with_reducible first | exact HB.out | apply below_alloc | apply pw_below_drewN | apply below_drew1 | refine below_set ?_ GE296.out | refine below_set ?_ GE297.out) | exact HB.out)⟩⟩
     ·rw [if_neg c9] at H
      have c9b0 : ((l0_3.length : Int) == (l1_3.length : Int)) = false := beq_eq_false_iff_ne.mpr c9
      have c9b1 : ((l0_3.length : Int) != (l1_3.length : Int)) = true := bne_iff_ne.mpr c9
      have c9b2 : (l0_3.length == l1_3.length) = false := by first | simpa using c9 | (simp at c9 ⊢; omega)
      have H' := aM H
      clear H
      have hnb13 := NB296_297.out
      have hnc13 := NB297_296.out
      have hcz14_0 : w5.cell? ⟨gb296, 0, none⟩ = some (.int .i64 a0_0) := (blk_cell BK296.out 0).trans rfl
      have hcz14_1 : w5.cell? ⟨gb296, 1, none⟩ = some (.int .i64 a0_1) := (blk_cell BK296.out 1).trans rfl
      have hcz14_2 : w5.cell? ⟨gb296, 2, none⟩ = some (.string a0_2) := (blk_cell BK296.out 2).trans rfl
      have hcz14_3 : w5.cell? ⟨gb296, 3, none⟩ = some (.slice A0_3 l0_3.length c0_3) := (blk_cell BK296.out 3).trans rfl
      have hcz14_4 : w5.cell? ⟨gb296, 4, none⟩ = some (.slice A0_4 l0_4.length c0_4) := (blk_cell BK296.out 4).trans rfl
      have hfz14_0 := blk_frozen BK296.out 0
      have hfz14_1 := blk_frozen BK296.out 1
      have hfz14_2 := blk_frozen BK296.out 2
      have hfz14_3 := blk_frozen BK296.out 3
      have hfz14_4 := blk_frozen BK296.out 4
      have hcz15_0 : w5.cell? ⟨gb297, 0, none⟩ = some (.int .i64 a1_0) := (blk_cell BK297.out 0).trans rfl
      have hcz15_1 : w5.cell? ⟨gb297, 1, none⟩ = some (.int .i64 a1_1) := (blk_cell BK297.out 1).trans rfl
      have hcz15_2 : w5.cell? ⟨gb297, 2, none⟩ = some (.string a1_2) := (blk_cell BK297.out 2).trans rfl
      have hcz15_3 : w5.cell? ⟨gb297, 3, none⟩ = some (.slice A1_3 l1_3.length c1_3) := (blk_cell BK297.out 3).trans rfl
      have hcz15_4 : w5.cell? ⟨gb297, 4, none⟩ = some (.slice A1_4 l1_4.length c1_4) := (blk_cell BK297.out 4).trans rfl
      have hfz15_0 := blk_frozen BK297.out 0
      have hfz15_1 := blk_frozen BK297.out 1
      have hfz15_2 := blk_frozen BK297.out 2
      have hfz15_3 := blk_frozen BK297.out 3
      have hfz15_4 := blk_frozen BK297.out 4
      go_wp2
      go_meet
      case rel => exact ⟨_, (true), (by first | rfl | (simp; done) | (simp [*]; done)), H', ⟨by first | omega | exact Nat.le_refl _⟩, ⟨by (with_reducible repeat (first | refine blk_drewN ?_ _ | refine blk_drew ?_ | refine blk_alloc ?_ _)); exact BK296.out⟩, ⟨by (with_reducible repeat (first | refine blk_drewN ?_ _ | refine blk_drew ?_ | refine blk_alloc ?_ _)); exact BK297.out⟩, ⟨by repeat (first | (with_reducible first | exact HB.out | apply below_alloc | apply pw_below_drewN | apply below_drew1 | refine below_set ?_ GE296.out | refine below_set ?_ GE297.out) | exact HB.out)⟩⟩
    ·rw [if_neg c8] at H
     have c8b0 : (a0_2.toList == a1_2.toList) = false := beq_eq_false_iff_ne.mpr c8
     have c8b1 : (a0_2.toList != a1_2.toList) = true := bne_iff_ne.mpr c8
     have H' := aM H
     clear H
     have hnb16 := NB296_297.out
     have hnc16 := NB297_296.out
     have hcz17_0 : w5.cell? ⟨gb296, 0, none⟩ = some (.int .i64 a0_0) := (blk_cell BK296.out 0).trans rfl
     have hcz17_1 : w5.cell? ⟨gb296, 1, none⟩ = some (.int .i64 a0_1) := (blk_cell BK296.out 1).trans rfl
     have hcz17_2 : w5.cell? ⟨gb296, 2, none⟩ = some (.string a0_2) := (blk_cell BK296.out 2).trans rfl
     have hcz17_3 : w5.cell? ⟨gb296, 3, none⟩ = some (.slice A0_3 l0_3.length c0_3) := (blk_cell BK296.out 3).trans rfl
     have hcz17_4 : w5.cell? ⟨gb296, 4, none⟩ = some (.slice A0_4 l0_4.length c0_4) := (blk_cell BK296.out 4).trans rfl
     have hfz17_0 := blk_frozen BK296.out 0
     have hfz17_1 := blk_frozen BK296.out 1
     have hfz17_2 := blk_frozen BK296.out 2
     have hfz17_3 := blk_frozen BK296.out 3
     have hfz17_4 := blk_frozen BK296.out 4
     have hcz18_0 : w5.cell? ⟨gb297, 0, none⟩ = some (.int .i64 a1_0) := (blk_cell BK297.out 0).trans rfl
     have hcz18_1 : w5.cell? ⟨gb297, 1, none⟩ = some (.int .i64 a1_1) := (blk_cell BK297.out 1).trans rfl
     have hcz18_2 : w5.cell? ⟨gb297, 2, none⟩ = some (.string a1_2) := (blk_cell BK297.out 2).trans rfl
     have hcz18_3 : w5.cell? ⟨gb297, 3, none⟩ = some (.slice A1_3 l1_3.length c1_3) := (blk_cell BK297.out 3).trans rfl
     have hcz18_4 : w5.cell? ⟨gb297, 4, none⟩ = some (.slice A1_4 l1_4.length c1_4) := (blk_cell BK297.out 4).trans rfl
     have hfz18_0 := blk_frozen BK297.out 0
     have hfz18_1 := blk_frozen BK297.out 1
     have hfz18_2 := blk_frozen BK297.out 2
     have hfz18_3 := blk_frozen BK297.out 3
     have hfz18_4 := blk_frozen BK297.out 4
     go_wp2
     go_meet
     case rel => exact ⟨_, (true), (by first | rfl | (simp; done) | (simp [*]; done)), H', ⟨by first | omega | exact Nat.le_refl _⟩, ⟨by (with_reducible repeat (first | refine blk_drewN ?_ _ | refine blk_drew ?_ | refine blk_alloc ?_ _)); exact BK296.out⟩, ⟨by (with_reducible repeat (first | refine blk_drewN ?_ _ | refine blk_drew ?_ | refine blk_alloc ?_ _)); exact BK297.out⟩, ⟨by repeat (first | (with_reducible first | exact HB.out | apply below_alloc | apply pw_below_drewN | apply below_drew1 | refine below_set ?_ GE296.out | refine below_set ?_ GE297.out) | exact HB.out)⟩⟩
   ·rw [if_neg c7] at H
    have c7b0 : (a0_1 == a1_1) = false := beq_eq_false_iff_ne.mpr c7
    have c7b1 : (a0_1 != a1_1) = true := bne_iff_ne.mpr c7
    have H' := aM H
    clear H
    have hnb19 := NB296_297.out
    have hnc19 := NB297_296.out
    have hcz20_0 : w5.cell? ⟨gb296, 0, none⟩ = some (.int .i64 a0_0) := (blk_cell BK296.out 0).trans rfl
    have hcz20_1 : w5.cell? ⟨gb296, 1, none⟩ = some (.int .i64 a0_1) := (blk_cell BK296.out 1).trans rfl
    have hcz20_2 : w5.cell? ⟨gb296, 2, none⟩ = some (.string a0_2) := (blk_cell BK296.out 2).trans rfl
    have hcz20_3 : w5.cell? ⟨gb296, 3, none⟩ = some (.slice A0_3 l0_3.length c0_3) := (blk_cell BK296.out 3).trans rfl
    have hcz20_4 : w5.cell? ⟨gb296, 4, none⟩ = some (.slice A0_4 l0_4.length c0_4) := (blk_cell BK296.out 4).trans rfl
    have hfz20_0 := blk_frozen BK296.out 0
    have hfz20_1 := blk_frozen BK296.out 1
    have hfz20_2 := blk_frozen BK296.out 2
    have hfz20_3 := blk_frozen BK296.out 3
    have hfz20_4 := blk_frozen BK296.out 4
    have hcz21_0 : w5.cell? ⟨gb297, 0, none⟩ = some (.int .i64 a1_0) := (blk_cell BK297.out 0).trans rfl
    have hcz21_1 : w5.cell? ⟨gb297, 1, none⟩ = some (.int .i64 a1_1) := (blk_cell BK297.out 1).trans rfl
    have hcz21_2 : w5.cell? ⟨gb297, 2, none⟩ = some (.string a1_2) := (blk_cell BK297.out 2).trans rfl
    have hcz21_3 : w5.cell? ⟨gb297, 3, none⟩ = some (.slice A1_3 l1_3.length c1_3) := (blk_cell BK297.out 3).trans rfl
    have hcz21_4 : w5.cell? ⟨gb297, 4, none⟩ = some (.slice A1_4 l1_4.length c1_4) := (blk_cell BK297.out 4).trans rfl
    have hfz21_0 := blk_frozen BK297.out 0
    have hfz21_1 := blk_frozen BK297.out 1
    have hfz21_2 := blk_frozen BK297.out 2
    have hfz21_3 := blk_frozen BK297.out 3
    have hfz21_4 := blk_frozen BK297.out 4
    go_wp2
    go_meet
    case rel => exact ⟨_, (true), (by first | rfl | (simp; done) | (simp [*]; done)), H', ⟨by first | omega | exact Nat.le_refl _⟩, ⟨by (with_reducible repeat (first | refine blk_drewN ?_ _ | refine blk_drew ?_ | refine blk_alloc ?_ _)); exact BK296.out⟩, ⟨by (with_reducible repeat (first | refine blk_drewN ?_ _ | refine blk_drew ?_ | refine blk_alloc ?_ _)); exact BK297.out⟩, ⟨by repeat (first | (with_reducible first | exact HB.out | apply below_alloc | apply pw_below_drewN | apply below_drew1 | refine below_set ?_ GE296.out | refine below_set ?_ GE297.out) | exact HB.out)⟩⟩
  ·rw [if_neg c6] at H
   have c6b0 : (a0_0 == a1_0) = false := beq_eq_false_iff_ne.mpr c6
   have c6b1 : (a0_0 != a1_0) = true := bne_iff_ne.mpr c6
   (first | rw [c6b0] | (simp only [i64_w, i32_w]; rw [c6b0]) | skip)
   have H' := aM H
   clear H
   have hnb22 := NB296_297.out
   have hnc22 := NB297_296.out
   have hcz23_0 : w5.cell? ⟨gb296, 0, none⟩ = some (.int .i64 a0_0) := (blk_cell BK296.out 0).trans rfl
   have hcz23_1 : w5.cell? ⟨gb296, 1, none⟩ = some (.int .i64 a0_1) := (blk_cell BK296.out 1).trans rfl
   have hcz23_2 : w5.cell? ⟨gb296, 2, none⟩ = some (.string a0_2) := (blk_cell BK296.out 2).trans rfl
   have hcz23_3 : w5.cell? ⟨gb296, 3, none⟩ = some (.slice A0_3 l0_3.length c0_3) := (blk_cell BK296.out 3).trans rfl
   have hcz23_4 : w5.cell? ⟨gb296, 4, none⟩ = some (.slice A0_4 l0_4.length c0_4) := (blk_cell BK296.out 4).trans rfl
   have hfz23_0 := blk_frozen BK296.out 0
   have hfz23_1 := blk_frozen BK296.out 1
   have hfz23_2 := blk_frozen BK296.out 2
   have hfz23_3 := blk_frozen BK296.out 3
   have hfz23_4 := blk_frozen BK296.out 4
   have hcz24_0 : w5.cell? ⟨gb297, 0, none⟩ = some (.int .i64 a1_0) := (blk_cell BK297.out 0).trans rfl
   have hcz24_1 : w5.cell? ⟨gb297, 1, none⟩ = some (.int .i64 a1_1) := (blk_cell BK297.out 1).trans rfl
   have hcz24_2 : w5.cell? ⟨gb297, 2, none⟩ = some (.string a1_2) := (blk_cell BK297.out 2).trans rfl
   have hcz24_3 : w5.cell? ⟨gb297, 3, none⟩ = some (.slice A1_3 l1_3.length c1_3) := (blk_cell BK297.out 3).trans rfl
   have hcz24_4 : w5.cell? ⟨gb297, 4, none⟩ = some (.slice A1_4 l1_4.length c1_4) := (blk_cell BK297.out 4).trans rfl
   have hfz24_0 := blk_frozen BK297.out 0
   have hfz24_1 := blk_frozen BK297.out 1
   have hfz24_2 := blk_frozen BK297.out 2
   have hfz24_3 := blk_frozen BK297.out 3
   have hfz24_4 := blk_frozen BK297.out 4
   go_wp2
   go_meet
   case rel => exact ⟨_, (true), (by first | rfl | (simp; done) | (simp [*]; done)), H', ⟨by first | omega | exact Nat.le_refl _⟩, ⟨by (with_reducible repeat (first | refine blk_drewN ?_ _ | refine blk_drew ?_ | refine blk_alloc ?_ _)); exact BK296.out⟩, ⟨by (with_reducible repeat (first | refine blk_drewN ?_ _ | refine blk_drew ?_ | refine blk_alloc ?_ _)); exact BK297.out⟩, ⟨by repeat (first | (with_reducible first | exact HB.out | apply below_alloc | apply pw_below_drewN | apply below_drew1 | refine below_set ?_ GE296.out | refine below_set ?_ GE297.out) | exact HB.out)⟩⟩
 case rest =>
  clear HC3
  try clear c1
  try clear c2
  try clear p2
  try clear c6
  try clear c6b0
  try clear c6b1
  try clear c7
  try clear c7b0
  try clear c7b1
  try clear c8
  try clear c8b0
  try clear c8b1
  try clear c9
  try clear c9b0
  try clear c9b1
  try clear c9b2
  try clear c10
  try clear c13
  try clear c16
  try clear c18
  try clear c19
  try clear c22
  try clear hcz11_0
  try clear hcz11_1
  try clear hcz11_2
  try clear hcz11_3
  try clear hcz11_4
  try clear hcz12_0
  try clear hcz12_1
  try clear hcz12_2
  try clear hcz12_3
  try clear hcz12_4
  try clear hcz14_0
  try clear hcz14_1
  try clear hcz14_2
  try clear hcz14_3
  try clear hcz14_4
  try clear hcz15_0
  try clear hcz15_1
  try clear hcz15_2
  try clear hcz15_3
  try clear hcz15_4
  try clear hcz17_0
  try clear hcz17_1
  try clear hcz17_2
  try clear hcz17_3
  try clear hcz17_4
  try clear hcz18_0
  try clear hcz18_1
  try clear hcz18_2
  try clear hcz18_3
  try clear hcz18_4
  try clear hcz20_0
  try clear hcz20_1
  try clear hcz20_2
  try clear hcz20_3
  try clear hcz20_4
  try clear hcz21_0
  try clear hcz21_1
  try clear hcz21_2
  try clear hcz21_3
  try clear hcz21_4
  try clear hcz23_0
  try clear hcz23_1
  try clear hcz23_2
  try clear hcz23_3
  try clear hcz23_4
  try clear hcz24_0
  try clear hcz24_1
  try clear hcz24_2
  try clear hcz24_3
  try clear hcz24_4
  try clear hfz11_0
  try clear hfz11_1
  try clear hfz11_2
  try clear hfz11_3
  try clear hfz11_4
  try clear hfz12_0
  try clear hfz12_1
  try clear hfz12_2
  try clear hfz12_3
  try clear hfz12_4
  try clear hfz14_0
  try clear hfz14_1
  try clear hfz14_2
  try clear hfz14_3
  try clear hfz14_4
  try clear hfz15_0
  try clear hfz15_1
  try clear hfz15_2
  try clear hfz15_3
  try clear hfz15_4
  try clear hfz17_0
  try clear hfz17_1
  try clear hfz17_2
  try clear hfz17_3
  try clear hfz17_4
  try clear hfz18_0
  try clear hfz18_1
  try clear hfz18_2
  try clear hfz18_3
  try clear hfz18_4
  try clear hfz20_0
  try clear hfz20_1
  try clear hfz20_2
  try clear hfz20_3
  try clear hfz20_4
  try clear hfz21_0
  try clear hfz21_1
  try clear hfz21_2
  try clear hfz21_3
  try clear hfz21_4
  try clear hfz23_0
  try clear hfz23_1
  try clear hfz23_2
  try clear hfz23_3
  try clear hfz23_4
  try clear hfz24_0
  try clear hfz24_1
  try clear hfz24_2
  try clear hfz24_3
  try clear hfz24_4
  obtain ⟨kq, x43_2, rfl, HA, HJ2, BK296, BK297, HB⟩ := hcut
  cases kq with
  | zero => exact absurd HA.out (by simp [spec_Same.j0])
  | succ kj2 =>
   have H := HA.out
   clear HA
   simp only [spec_Same.j0] at H
   by_cases c25 : x43_2 = true
   ·subst c25
    have H1 : (some false) = some r := by rw [if_pos rfl] at H; exact H
    clear H
    have H := H1
    clear H1
    obtain rfl := Option.some.inj H
    go_wp2
    go_ret
    exact ⟨by first | rfl | (simp [errW_none, errW_some] <;> rfl) | (simp [*, errW_none, errW_some] <;> rfl), by repeat (first | (with_reducible first | exact HB.out | apply below_alloc | apply pw_below_drewN | apply below_drew1 | refine below_set ?_ GE296.out | refine below_set ?_ GE297.out) | exact HB.out)⟩
   ·replace c25 := Bool.eq_false_iff.mpr c25
    subst c25
    have H1 : (spec_Same.l0 kj2 0 a0_0 a0_1 a0_2 l0_3 l0_4 a1_0 a1_1 a1_2 l1_3 l1_4) = some r := by rw [if_neg (show ¬ (false = true) by decide)] at H; exact H
    clear H
    have H := H1
    clear H1
    have H' := aM H
    clear H
    go_wp2
    go_loopg [5] kj2 (fun kq v5 w' => ∃ (x5_2 : Int), v5 = .int .i64 x5_2 ∧ Aside0 (spec_Same.l0 kq x5_2 a0_0 a0_1 a0_2 l0_3 l0_4 a1_0 a1_1 a1_2 l1_3 l1_4 = some r) ∧ Aside0 (kq ≤ kj2) ∧ Aside0 (w'.heap[gb296]? = some (.cells #[.int .i64 a0_0, .int .i64 a0_1, .string a0_2, (.slice A0_3 l0_3.length c0_3), (.slice A0_4 l0_4.length c0_4)] 25 (0, 0))) ∧ Aside0 (w'.heap[gb297]? = some (.cells #[.int .i64 a1_0, .int .i64 a1_1, .string a1_2, (.slice A1_3 l1_3.length c1_3), (.slice A1_4 l1_4.length c1_4)] 25 (0, 0))) ∧ Aside0 (Below w.heap.size w w'))
    case atStart => exact ⟨(0), (by first | rfl | (simp; done) | (simp [*]; done)), H', ⟨Nat.le_refl _⟩, ⟨by (with_reducible repeat (first | refine blk_drewN ?_ _ | refine blk_drew ?_ | refine blk_alloc ?_ _)); exact BK296.out⟩, ⟨by (with_reducible repeat (first | refine blk_drewN ?_ _ | refine blk_drew ?_ | refine blk_alloc ?_ _)); exact BK297.out⟩, ⟨by repeat (first | (with_reducible first | exact HB.out | apply below_alloc | apply pw_below_drewN | apply below_drew1 | refine below_set ?_ GE296.out | refine below_set ?_ GE297.out) | exact HB.out)⟩⟩
    case round =>
     clear H'
     try clear c1
     try clear c2
     try clear p2
     try clear c6
     try clear c6b0
     try clear c6b1
     try clear c7
     try clear c7b0
     try clear c7b1
     try clear c8
     try clear c8b0
     try clear c8b1
     try clear c9
     try clear c9b0
     try clear c9b1
     try clear c9b2
     try clear c10
     try clear c13
     try clear c16
     try clear c18
     try clear c19
     try clear c22
     try clear c25
     try clear hcz11_0
     try clear hcz11_1
     try clear hcz11_2
     try clear hcz11_3
     try clear hcz11_4
     try clear hcz12_0
     try clear hcz12_1
     try clear hcz12_2
     try clear hcz12_3
     try clear hcz12_4
     try clear hcz14_0
     try clear hcz14_1
     try clear hcz14_2
     try clear hcz14_3
     try clear hcz14_4
     try clear hcz15_0
     try clear hcz15_1
     try clear hcz15_2
     try clear hcz15_3
     try clear hcz15_4
     try clear hcz17_0
     try clear hcz17_1
     try clear hcz17_2
     try clear hcz17_3
     try clear hcz17_4
     try clear hcz18_0
     try clear hcz18_1
     try clear hcz18_2
     try clear hcz18_3
     try clear hcz18_4
     try clear hcz20_0
     try clear hcz20_1
     try clear hcz20_2
     try clear hcz20_3
     try clear hcz20_4
     try clear hcz21_0
     try clear hcz21_1
     try clear hcz21_2
     try clear hcz21_3
     try clear hcz21_4
     try clear hcz23_0
     try clear hcz23_1
     try clear hcz23_2
     try clear hcz23_3
     try clear hcz23_4
     try clear hcz24_0
     try clear hcz24_1
     try clear hcz24_2
     try clear hcz24_3
     try clear hcz24_4
     try clear hfz11_0
     try clear hfz11_1
     try clear hfz11_2
     try clear hfz11_3
     try clear hfz11_4
     try clear hfz12_0
     try clear hfz12_1
     try clear hfz12_2
     try clear hfz12_3
     try clear hfz12_4
     try clear hfz14_0
     try clear hfz14_1
     try clear hfz14_2
     try clear hfz14_3
     try clear hfz14_4
     try clear hfz15_0
     try clear hfz15_1
     try clear hfz15_2
     try clear hfz15_3
     try clear hfz15_4
     try clear hfz17_0
     try clear hfz17_1
     try clear hfz17_2
     try clear hfz17_3
     try clear hfz17_4
     try clear hfz18_0
     try clear hfz18_1
     try clear hfz18_2
     try clear hfz18_3
     try clear hfz18_4
     try clear hfz20_0
     try clear hfz20_1
     try clear hfz20_2
     try clear hfz20_3
     try clear hfz20_4
     try clear hfz21_0
     try clear hfz21_1
     try clear hfz21_2
     try clear hfz21_3
     try clear hfz21_4
     try clear hfz23_0
     try clear hfz23_1
     try clear hfz23_2
     try clear hfz23_3
     try clear hfz23_4
     try clear hfz24_0
     try clear hfz24_1
     try clear hfz24_2
     try clear hfz24_3
     try clear hfz24_4
     try clear p2
     obtain ⟨x5_2, rfl, HA, HK2, BK296, BK297, HB⟩ := hrel
     cases gk with
     | zero => exact absurd HA.out (by simp [spec_Same.l0])
     | succ k2 =>
      have H := HA.out
      clear HA
      simp only [spec_Same.l0] at H
      by_cases c26 : x5_2 < (l0_3.length : Int)
      ·rw [if_pos c26] at H
       have c26b0 : decide (x5_2 < (l0_3.length : Int)) = true := decide_eq_true c26
       clear c26
       by_cases c27 : 0 ≤ x5_2
       ·rw [if_pos c27] at H
        have c27b0 : decide (0 ≤ x5_2) = true := decide_eq_true c27
        clear c27
        by_cases c28 : x5_2 < (l1_3.length : Int)
        ·rw [if_pos c28] at H
         have c28b0 : decide (x5_2 < (l1_3.length : Int)) = true := decide_eq_true c28
         clear c28
         by_cases c29 : (rdOf ByteArray.empty l0_3 x5_2).toList = (rdOf ByteArray.empty l1_3 x5_2).toList
         ·rw [if_pos c29] at H
          have c29b0 : ((rdOf ByteArray.empty l0_3 x5_2).toList == (rdOf ByteArray.empty l1_3 x5_2).toList) = true := beq_iff_eq.mpr c29
          have c29b1 : ((rdOf ByteArray.empty l0_3 x5_2).toList != (rdOf ByteArray.empty l1_3 x5_2).toList) = false := bne_eq_false_iff_eq.mpr c29
          clear c29
          have H' := aM H
          clear H
          have hnb30 := NB296_297.out
          have hnc30 := NB297_296.out
          have hcz31_0 : wr.cell? ⟨gb296, 0, none⟩ = some (.int .i64 a0_0) := (blk_cell BK296.out 0).trans rfl
          have hcz31_1 : wr.cell? ⟨gb296, 1, none⟩ = some (.int .i64 a0_1) := (blk_cell BK296.out 1).trans rfl
          have hcz31_2 : wr.cell? ⟨gb296, 2, none⟩ = some (.string a0_2) := (blk_cell BK296.out 2).trans rfl
          have hcz31_3 : wr.cell? ⟨gb296, 3, none⟩ = some (.slice A0_3 l0_3.length c0_3) := (blk_cell BK296.out 3).trans rfl
          have hcz31_4 : wr.cell? ⟨gb296, 4, none⟩ = some (.slice A0_4 l0_4.length c0_4) := (blk_cell BK296.out 4).trans rfl
          have hfz31_0 := blk_frozen BK296.out 0
          have hfz31_1 := blk_frozen BK296.out 1
          have hfz31_2 := blk_frozen BK296.out 2
          have hfz31_3 := blk_frozen BK296.out 3
          have hfz31_4 := blk_frozen BK296.out 4
          try go_wp2
          have n0_ := aM (blk_drew BK296.out)
          have n1_ := aM (blk_drew BK297.out)
          have n2_ := aM (below_drew1 HB.out)
          clear BK296 BK297 HB; have BK296 := n0_; have BK297 := n1_; have HB := n2_; clear n0_ n1_ n2_
          have p298 : 0 ≤ (x5_2 : Int) := of_decide_eq_true (by first | (with_reducible assumption) | assumption)
          have q298 : x5_2 < (l0_3.length : Int) := of_decide_eq_true (by first | (with_reducible assumption) | assumption)
          obtain ⟨ad298, e298, hx298_0⟩ := Kd.at_string HR0_3.out x5_2 p298 q298
          have hw298_0 := hx298_0
          cases e298
          replace hx298_0 := (HB.out.cell (World.block_lt_of_cell? w _ hx298_0)).trans hx298_0
          replace p298 := eq_true p298
          replace q298 := eq_true q298
          have p299 : 0 ≤ (x5_2 : Int) := of_decide_eq_true (by first | (with_reducible assumption) | assumption)
          have q299 : x5_2 < (l1_3.length : Int) := of_decide_eq_true (by first | (with_reducible assumption) | assumption)
          obtain ⟨ad299, e299, hx299_0⟩ := Kd.at_string HR1_3.out x5_2 p299 q299
          have hw299_0 := hx299_0
          cases e299
          replace hx299_0 := (HB.out.cell (World.block_lt_of_cell? w _ hx299_0)).trans hx299_0
          replace p299 := eq_true p299
          replace q299 := eq_true q299
          refine start_ (n := 11) (S := fun w' => w'.cell? ⟨gb296, 0, none⟩ = some (.int .i64 a0_0) ∧ w'.cell? ⟨gb296, 1, none⟩ = some (.int .i64 a0_1) ∧ w'.cell? ⟨gb296, 2, none⟩ = some (.string a0_2) ∧ w'.cell? ⟨gb296, 3, none⟩ = some (.slice (some ad298) l0_3.length c0_3) ∧ w'.cell? ⟨gb296, 4, none⟩ = some (.slice A0_4 l0_4.length c0_4) ∧ w'.cell? ⟨gb297, 0, none⟩ = some (.int .i64 a1_0) ∧ w'.cell? ⟨gb297, 1, none⟩ = some (.int .i64 a1_1) ∧ w'.cell? ⟨gb297, 2, none⟩ = some (.string a1_2) ∧ w'.cell? ⟨gb297, 3, none⟩ = some (.slice (some ad299) l1_3.length c1_3) ∧ w'.cell? ⟨gb297, 4, none⟩ = some (.slice A1_4 l1_4.length c1_4) ∧ w'.cell? (ad298.add (x5_2).toNat) = some (.string (rdOf ByteArray.empty l0_3 x5_2)) ∧ w'.cell? (ad299.add (x5_2).toNat) = some (.string (rdOf ByteArray.empty l1_3 x5_2))) (ds := []) #[false, false, false, false, false, false, false, false, false, false, false] (by kernel_rfl) rfl rfl ⟨(blk_cell BK296.out 0).trans rfl, (blk_cell BK296.out 1).trans rfl, (blk_cell BK296.out 2).trans rfl, (blk_cell BK296.out 3).trans rfl, (blk_cell BK296.out 4).trans rfl, (blk_cell BK297.out 0).trans rfl, (blk_cell BK297.out 1).trans rfl, (blk_cell BK297.out 2).trans rfl, (blk_cell BK297.out 3).trans rfl, (blk_cell BK297.out 4).trans rfl, ((HB.out.cell (World.block_lt_of_cell? w _ hw298_0)).trans hw298_0), ((HB.out.cell (World.block_lt_of_cell? w _ hw299_0)).trans hw299_0)⟩ (fun hHeld => ?_); refine with_tabW spec_Same.tab6 spec_Same.bits6 (fun HT_ HW_ => ?_)
          generalize wr.drew = w32 at BK296 BK297 HB hx298_0 hx299_0 hHeld ⊢
          refine pure_ (i := 0) (N := some 51) (v := ?_) (a' := ?_) #[true, false, false, false, false, false, false, false, false, false, false] rfl rfl (any_of HT_.out (by kernel_rfl)) (fun _ _ _ h => h) (Or.inl ⟨by rfl, ?_⟩) ?_ ?_
          rotate_left
          ·intro w'; go_simp; with_reducible rfl
          rotate_left
          ·simp only [Act.put, sA, sB, sC, i64_w, i32_w]; rfl
          refine pure_ (i := 2) (N := some 53) (v := ?_) (a' := ?_) #[true, false, true, false, false, false, false, false, false, false, false] rfl rfl (any_of HT_.out (by kernel_rfl)) (fun _ _ _ h => h) (Or.inl ⟨by rfl, ?_⟩) ?_ ?_
          rotate_left
          ·intro w'; go_simp; with_reducible rfl
          rotate_left
          ·simp only [Act.put, sA, sB, sC, i64_w, i32_w]; rfl
          refine pure_ (i := 5) (N := some 56) (v := ?_) (a' := ?_) #[true, false, true, false, false, true, false, false, false, false, false] rfl rfl (any_of HT_.out (by kernel_rfl)) (fun _ _ _ h => h) (Or.inl ⟨by rfl, ?_⟩) ?_ ?_
          rotate_left
          ·intro w'; go_simp; with_reducible rfl
          rotate_left
          ·simp only [Act.put, sA, sB, sC, i64_w, i32_w]; rfl
          refine pure_ (i := 7) (N := some 58) (v := ?_) (a' := ?_) #[true, false, true, false, false, true, false, true, false, false, false] rfl rfl (any_of HT_.out (by kernel_rfl)) (fun _ _ _ h => h) (Or.inl ⟨by rfl, ?_⟩) ?_ ?_
          rotate_left
          ·intro w'; go_simp; with_reducible rfl
          rotate_left
          ·simp only [Act.put, sA, sB, sC, i64_w, i32_w]; rfl
          refine take_ (i := 1) (N := some 52) (v := ?_) (a' := ?_) #[true, true, true, false, false, true, false, true, false, false, false] rfl rfl (take_ofW HT_.out HW_.out (by kernel_rfl)) (fun _ _ _ h => h) (Or.inl ⟨by rfl, ?_⟩) hHeld ?_ ?_
          rotate_left
          ·rintro w' ⟨s0, s1, s2, s3, s4, s5, s6, s7, s8, s9, s10, s11⟩
           go_simp; with_reducible rfl
          rotate_left
          ·simp only [Act.put, sA, sB, sC, i64_w, i32_w]; rfl
          refine pure_ (i := 3) (N := some 54) (v := ?_) (a' := ?_) #[true, true, true, true, false, true, false, true, false, false, false] rfl rfl (any_of HT_.out (by kernel_rfl)) (fun _ _ _ h => h) (Or.inl ⟨by rfl, ?_⟩) ?_ ?_
          rotate_left
          ·intro w'; go_simp; with_reducible rfl
          rotate_left
          ·simp only [Act.put, sA, sB, sC, i64_w, i32_w]; rfl
          refine take_ (i := 4) (N := some 55) (v := ?_) (a' := ?_) #[true, true, true, true, true, true, false, true, false, false, false] rfl rfl (take_ofW HT_.out HW_.out (by kernel_rfl)) (fun _ _ _ h => h) (Or.inl ⟨by rfl, ?_⟩) hHeld ?_ ?_
          rotate_left
          ·rintro w' ⟨s0, s1, s2, s3, s4, s5, s6, s7, s8, s9, s10, s11⟩
           go_simp; with_reducible rfl
          rotate_left
          ·simp only [Act.put, sA, sB, sC, i64_w, i32_w]; rfl
          refine take_ (i := 6) (N := some 57) (v := ?_) (a' := ?_) #[true, true, true, true, true, true, true, true, false, false, false] rfl rfl (take_ofW HT_.out HW_.out (by kernel_rfl)) (fun _ _ _ h => h) (Or.inl ⟨by rfl, ?_⟩) hHeld ?_ ?_
          rotate_left
          ·rintro w' ⟨s0, s1, s2, s3, s4, s5, s6, s7, s8, s9, s10, s11⟩
           go_simp; with_reducible rfl
          rotate_left
          ·simp only [Act.put, sA, sB, sC, i64_w, i32_w]; rfl
          refine pure_ (i := 8) (N := some 59) (v := ?_) (a' := ?_) #[true, true, true, true, true, true, true, true, true, false, false] rfl rfl (any_of HT_.out (by kernel_rfl)) (fun _ _ _ h => h) (Or.inl ⟨by rfl, ?_⟩) ?_ ?_
          rotate_left
          ·intro w'; go_simp; with_reducible rfl
          rotate_left
          ·simp only [Act.put, sA, sB, sC, i64_w, i32_w]; rfl
          refine take_ (i := 9) (N := some 60) (v := ?_) (a' := ?_) #[true, true, true, true, true, true, true, true, true, true, false] rfl rfl (take_ofW HT_.out HW_.out (by kernel_rfl)) (fun _ _ _ h => h) (Or.inl ⟨by rfl, ?_⟩) hHeld ?_ ?_
          rotate_left
          ·rintro w' ⟨s0, s1, s2, s3, s4, s5, s6, s7, s8, s9, s10, s11⟩
           go_simp; with_reducible rfl
          rotate_left
          ·simp only [Act.put, sA, sB, sC, i64_w, i32_w]; rfl
          refine pure_ (i := 10) (N := some 61) (v := ?_) (a' := ?_) #[true, true, true, true, true, true, true, true, true, true, true] rfl rfl (any_of HT_.out (by kernel_rfl)) (fun _ _ _ h => h) (Or.inl ⟨by rfl, ?_⟩) ?_ ?_
          rotate_left
          ·intro w'; go_simp; with_reducible rfl
          rotate_left
          ·simp only [Act.put, sA, sB, sC, i64_w, i32_w]; rfl
          refine done_ (done_of HT_.out (by kernel_rfl)) ?_
          try go_wp2
          go_roundg k2
          case measure => have := HJ2.out; have := HK2.out; omega
          case rel => exact ⟨(wrap64 (x5_2 + 1)), (by first | rfl | (simp; done) | (simp [*]; done)), H', ⟨by have := HJ2.out; have := HK2.out; omega⟩, ⟨by (with_reducible repeat (first | refine blk_drewN ?_ _ | refine blk_drew ?_ | refine blk_alloc ?_ _)); exact BK296.out⟩, ⟨by (with_reducible repeat (first | refine blk_drewN ?_ _ | refine blk_drew ?_ | refine blk_alloc ?_ _)); exact BK297.out⟩, ⟨by repeat (first | (with_reducible first | exact HB.out | apply below_alloc | apply pw_below_drewN | apply below_drew1 | refine below_set ?_ GE296.out | refine below_set ?_ GE297.out) | exact HB.out)⟩⟩
         ·rw [if_neg c29] at H
          have c29b0 : ((rdOf ByteArray.empty l0_3 x5_2).toList == (rdOf ByteArray.empty l1_3 x5_2).toList) = false := beq_eq_false_iff_ne.mpr c29
          have c29b1 : ((rdOf ByteArray.empty l0_3 x5_2).toList != (rdOf ByteArray.empty l1_3 x5_2).toList) = true := bne_iff_ne.mpr c29
          obtain rfl := Option.some.inj H
          have hnb33 := NB296_297.out
          have hnc33 := NB297_296.out
          have hcz34_0 : wr.cell? ⟨gb296, 0, none⟩ = some (.int .i64 a0_0) := (blk_cell BK296.out 0).trans rfl
          have hcz34_1 : wr.cell? ⟨gb296, 1, none⟩ = some (.int .i64 a0_1) := (blk_cell BK296.out 1).trans rfl
          have hcz34_2 : wr.cell? ⟨gb296, 2, none⟩ = some (.string a0_2) := (blk_cell BK296.out 2).trans rfl
          have hcz34_3 : wr.cell? ⟨gb296, 3, none⟩ = some (.slice A0_3 l0_3.length c0_3) := (blk_cell BK296.out 3).trans rfl
          have hcz34_4 : wr.cell? ⟨gb296, 4, none⟩ = some (.slice A0_4 l0_4.length c0_4) := (blk_cell BK296.out 4).trans rfl
          have hfz34_0 := blk_frozen BK296.out 0
          have hfz34_1 := blk_frozen BK296.out 1
          have hfz34_2 := blk_frozen BK296.out 2
          have hfz34_3 := blk_frozen BK296.out 3
          have hfz34_4 := blk_frozen BK296.out 4
          try go_wp2
          have n0_ := aM (blk_drew BK296.out)
          have n1_ := aM (blk_drew BK297.out)
          have n2_ := aM (below_drew1 HB.out)
          clear BK296 BK297 HB; have BK296 := n0_; have BK297 := n1_; have HB := n2_; clear n0_ n1_ n2_
          have p298 : 0 ≤ (x5_2 : Int) := of_decide_eq_true (by first | (with_reducible assumption) | assumption)
          have q298 : x5_2 < (l0_3.length : Int) := of_decide_eq_true (by first | (with_reducible assumption) | assumption)
          obtain ⟨ad298, e298, hx298_0⟩ := Kd.at_string HR0_3.out x5_2 p298 q298
          have hw298_0 := hx298_0
          cases e298
          replace hx298_0 := (HB.out.cell (World.block_lt_of_cell? w _ hx298_0)).trans hx298_0
          replace p298 := eq_true p298
          replace q298 := eq_true q298
          have p299 : 0 ≤ (x5_2 : Int) := of_decide_eq_true (by first | (with_reducible assumption) | assumption)
          have q299 : x5_2 < (l1_3.length : Int) := of_decide_eq_true (by first | (with_reducible assumption) | assumption)
          obtain ⟨ad299, e299, hx299_0⟩ := Kd.at_string HR1_3.out x5_2 p299 q299
          have hw299_0 := hx299_0
          cases e299
          replace hx299_0 := (HB.out.cell (World.block_lt_of_cell? w _ hx299_0)).trans hx299_0
          replace p299 := eq_true p299
          replace q299 := eq_true q299
          refine start_ (n := 11) (S := fun w' => w'.cell? ⟨gb296, 0, none⟩ = some (.int .i64 a0_0) ∧ w'.cell? ⟨gb296, 1, none⟩ = some (.int .i64 a0_1) ∧ w'.cell? ⟨gb296, 2, none⟩ = some (.string a0_2) ∧ w'.cell? ⟨gb296, 3, none⟩ = some (.slice (some ad298) l0_3.length c0_3) ∧ w'.cell? ⟨gb296, 4, none⟩ = some (.slice A0_4 l0_4.length c0_4) ∧ w'.cell? ⟨gb297, 0, none⟩ = some (.int .i64 a1_0) ∧ w'.cell? ⟨gb297, 1, none⟩ = some (.int .i64 a1_1) ∧ w'.cell? ⟨gb297, 2, none⟩ = some (.string a1_2) ∧ w'.cell? ⟨gb297, 3, none⟩ = some (.slice (some ad299) l1_3.length c1_3) ∧ w'.cell? ⟨gb297, 4, none⟩ = some (.slice A1_4 l1_4.length c1_4) ∧ w'.cell? (ad298.add (x5_2).toNat) = some (.string (rdOf ByteArray.empty l0_3 x5_2)) ∧ w'.cell? (ad299.add (x5_2).toNat) = some (.string (rdOf ByteArray.empty l1_3 x5_2))) (ds := []) #[false, false, false, false, false, false, false, false, false, false, false] (by kernel_rfl) rfl rfl ⟨(blk_cell BK296.out 0).trans rfl, (blk_cell BK296.out 1).trans rfl, (blk_cell BK296.out 2).trans rfl, (blk_cell BK296.out 3).trans rfl, (blk_cell BK296.out 4).trans rfl, (blk_cell BK297.out 0).trans rfl, (blk_cell BK297.out 1).trans rfl, (blk_cell BK297.out 2).trans rfl, (blk_cell BK297.out 3).trans rfl, (blk_cell BK297.out 4).trans rfl, ((HB.out.cell (World.block_lt_of_cell? w _ hw298_0)).trans hw298_0), ((HB.out.cell (World.block_lt_of_cell? w _ hw299_0)).trans hw299_0)⟩ (fun hHeld => ?_); refine with_tabW spec_Same.tab6 spec_Same.bits6 (fun HT_ HW_ => ?_)
          generalize wr.drew = w35 at BK296 BK297 HB hx298_0 hx299_0 hHeld ⊢
          refine pure_ (i := 0) (N := some 51) (v := ?_) (a' := ?_) #[true, false, false, false, false, false, false, false, false, false, false] rfl rfl (any_of HT_.out (by kernel_rfl)) (fun _ _ _ h => h) (Or.inl ⟨by rfl, ?_⟩) ?_ ?_
          rotate_left
          ·intro w'; go_simp; with_reducible rfl
          rotate_left
          ·simp only [Act.put, sA, sB, sC, i64_w, i32_w]; rfl
          refine pure_ (i := 2) (N := some 53) (v := ?_) (a' := ?_) #[true, false, true, false, false, false, false, false, false, false, false] rfl rfl (any_of HT_.out (by kernel_rfl)) (fun _ _ _ h => h) (Or.inl ⟨by rfl, ?_⟩) ?_ ?_
          rotate_left
          ·intro w'; go_simp; with_reducible rfl
          rotate_left
          ·simp only [Act.put, sA, sB, sC, i64_w, i32_w]; rfl
          refine pure_ (i := 5) (N := some 56) (v := ?_) (a' := ?_) #[true, false, true, false, false, true, false, false, false, false, false] rfl rfl (any_of HT_.out (by kernel_rfl)) (fun _ _ _ h => h) (Or.inl ⟨by rfl, ?_⟩) ?_ ?_
          rotate_left
          ·intro w'; go_simp; with_reducible rfl
          rotate_left
          ·simp only [Act.put, sA, sB, sC, i64_w, i32_w]; rfl
          refine pure_ (i := 7) (N := some 58) (v := ?_) (a' := ?_) #[true, false, true, false, false, true, false, true, false, false, false] rfl rfl (any_of HT_.out (by kernel_rfl)) (fun _ _ _ h => h) (Or.inl ⟨by rfl, ?_⟩) ?_ ?_
          rotate_left
          ·intro w'; go_simp; with_reducible rfl
          rotate_left
          ·simp only [Act.put, sA, sB, sC, i64_w, i32_w]; rfl
          refine take_ (i := 1) (N := some 52) (v := ?_) (a' := ?_) #[true, true, true, false, false, true, false, true, false, false, false] rfl rfl (take_ofW HT_.out HW_.out (by kernel_rfl)) (fun _ _ _ h => h) (Or.inl ⟨by rfl, ?_⟩) hHeld ?_ ?_
          rotate_left
          ·rintro w' ⟨s0, s1, s2, s3, s4, s5, s6, s7, s8, s9, s10, s11⟩
           go_simp; with_reducible rfl
          rotate_left
          ·simp only [Act.put, sA, sB, sC, i64_w, i32_w]; rfl
          refine pure_ (i := 3) (N := some 54) (v := ?_) (a' := ?_) #[true, true, true, true, false, true, false, true, false, false, false] rfl rfl (any_of HT_.out (by kernel_rfl)) (fun _ _ _ h => h) (Or.inl ⟨by rfl, ?_⟩) ?_ ?_
          rotate_left
          ·intro w'; go_simp; with_reducible rfl
          rotate_left
          ·simp only [Act.put, sA, sB, sC, i64_w, i32_w]; rfl
          refine take_ (i := 4) (N := some 55) (v := ?_) (a' := ?_) #[true, true, true, true, true, true, false, true, false, false, false] rfl rfl (take_ofW HT_.out HW_.out (by kernel_rfl)) (fun _ _ _ h => h) (Or.inl ⟨by rfl, ?_⟩) hHeld ?_ ?_
          rotate_left
          ·rintro w' ⟨s0, s1, s2, s3, s4, s5, s6, s7, s8, s9, s10, s11⟩
           go_simp; with_reducible rfl
          rotate_left
          ·simp only [Act.put, sA, sB, sC, i64_w, i32_w]; rfl
          refine take_ (i := 6) (N := some 57) (v := ?_) (a' := ?_) #[true, true, true, true, true, true, true, true, false, false, false] rfl rfl (take_ofW HT_.out HW_.out (by kernel_rfl)) (fun _ _ _ h => h) (Or.inl ⟨by rfl, ?_⟩) hHeld ?_ ?_
          rotate_left
          ·rintro w' ⟨s0, s1, s2, s3, s4, s5, s6, s7, s8, s9, s10, s11⟩
           go_simp; with_reducible rfl
          rotate_left
          ·simp only [Act.put, sA, sB, sC, i64_w, i32_w]; rfl
          refine pure_ (i := 8) (N := some 59) (v := ?_) (a' := ?_) #[true, true, true, true, true, true, true, true, true, false, false] rfl rfl (any_of HT_.out (by kernel_rfl)) (fun _ _ _ h => h) (Or.inl ⟨by rfl, ?_⟩) ?_ ?_
          rotate_left
          ·intro w'; go_simp; with_reducible rfl
          rotate_left
          ·simp only [Act.put, sA, sB, sC, i64_w, i32_w]; rfl
          refine take_ (i := 9) (N := some 60) (v := ?_) (a' := ?_) #[true, true, true, true, true, true, true, true, true, true, false] rfl rfl (take_ofW HT_.out HW_.out (by kernel_rfl)) (fun _ _ _ h => h) (Or.inl ⟨by rfl, ?_⟩) hHeld ?_ ?_
          rotate_left
          ·rintro w' ⟨s0, s1, s2, s3, s4, s5, s6, s7, s8, s9, s10, s11⟩
           go_simp; with_reducible rfl
          rotate_left
          ·simp only [Act.put, sA, sB, sC, i64_w, i32_w]; rfl
          refine pure_ (i := 10) (N := some 61) (v := ?_) (a' := ?_) #[true, true, true, true, true, true, true, true, true, true, true] rfl rfl (any_of HT_.out (by kernel_rfl)) (fun _ _ _ h => h) (Or.inl ⟨by rfl, ?_⟩) ?_ ?_
          rotate_left
          ·intro w'; go_simp; with_reducible rfl
          rotate_left
          ·simp only [Act.put, sA, sB, sC, i64_w, i32_w]; rfl
          refine done_ (done_of HT_.out (by kernel_rfl)) ?_
          try go_wp2
          go_ret
          exact ⟨by first | rfl | (simp [errW_none, errW_some] <;> rfl) | (simp [*, errW_none, errW_some] <;> rfl), by repeat (first | (with_reducible first | exact HB.out | apply below_alloc | apply pw_below_drewN | apply below_drew1 | refine below_set ?_ GE296.out | refine below_set ?_ GE297.out) | exact HB.out)⟩
        ·rw [if_neg c28] at H
         exact absurd H (by simp)
       ·rw [if_neg c27] at H
        exact absurd H (by simp)
      ·rw [if_neg c26] at H
       have c26b0 : decide (x5_2 < (l0_3.length : Int)) = false := decide_eq_false c26
       clear c26
       have H' := aM H
       clear H
       have hnb36 := NB296_297.out
       have hnc36 := NB297_296.out
       have hcz37_0 : wr.cell? ⟨gb296, 0, none⟩ = some (.int .i64 a0_0) := (blk_cell BK296.out 0).trans rfl
       have hcz37_1 : wr.cell? ⟨gb296, 1, none⟩ = some (.int .i64 a0_1) := (blk_cell BK296.out 1).trans rfl
       have hcz37_2 : wr.cell? ⟨gb296, 2, none⟩ = some (.string a0_2) := (blk_cell BK296.out 2).trans rfl
       have hcz37_3 : wr.cell? ⟨gb296, 3, none⟩ = some (.slice A0_3 l0_3.length c0_3) := (blk_cell BK296.out 3).trans rfl
       have hcz37_4 : wr.cell? ⟨gb296, 4, none⟩ = some (.slice A0_4 l0_4.length c0_4) := (blk_cell BK296.out 4).trans rfl
       have hfz37_0 := blk_frozen BK296.out 0
       have hfz37_1 := blk_frozen BK296.out 1
       have hfz37_2 := blk_frozen BK296.out 2
       have hfz37_3 := blk_frozen BK296.out 3
       have hfz37_4 := blk_frozen BK296.out 4
       go_wp2
       go_loopg [6] k2 (fun kq v6 w' => ∃ (x6_3 : Int), v6 = .int .i64 x6_3 ∧ Aside0 (spec_Same.l1 kq x6_3 a0_0 a0_1 a0_2 l0_3 l0_4 a1_0 a1_1 a1_2 l1_3 l1_4 = some r) ∧ Aside0 (kq ≤ k2) ∧ Aside0 (w'.heap[gb296]? = some (.cells #[.int .i64 a0_0, .int .i64 a0_1, .string a0_2, (.slice A0_3 l0_3.length c0_3), (.slice A0_4 l0_4.length c0_4)] 25 (0, 0))) ∧ Aside0 (w'.heap[gb297]? = some (.cells #[.int .i64 a1_0, .int .i64 a1_1, .string a1_2, (.slice A1_3 l1_3.length c1_3), (.slice A1_4 l1_4.length c1_4)] 25 (0, 0))) ∧ Aside0 (Below w.heap.size w w'))
       case atStart => exact ⟨(0), (by first | rfl | (simp; done) | (simp [*]; done)), H', ⟨Nat.le_refl _⟩, ⟨by (with_reducible repeat (first | refine blk_drewN ?_ _ | refine blk_drew ?_ | refine blk_alloc ?_ _)); exact BK296.out⟩, ⟨by (with_reducible repeat (first | refine blk_drewN ?_ _ | refine blk_drew ?_ | refine blk_alloc ?_ _)); exact BK297.out⟩, ⟨by repeat (first | (with_reducible first | exact HB.out | apply below_alloc | apply pw_below_drewN | apply below_drew1 | refine below_set ?_ GE296.out | refine below_set ?_ GE297.out) | exact HB.out)⟩⟩
       case round =>
        clear H'
        try clear c1
        try clear c2
        try clear p2
        try clear q2
        try clear hx2
        try clear c3
        try clear c6
        try clear c6b0
        try clear c6b1
        try clear p6
        try clear c7
        try clear c7b0
        try clear c7b1
        try clear c8
        try clear c8b0
        try clear c8b1
        try clear c9
        try clear c9b0
        try clear c9b1
        try clear c9b2
        try clear c10
        try clear c13
        try clear c16
        try clear c18
        try clear c19
        try clear c22
        try clear c25
        try clear c26
        try clear c26b0
        try clear c27
        try clear c27b0
        try clear c28
        try clear c28b0
        try clear c29
        try clear c29b0
        try clear c29b1
        try clear p29
        try clear q29
        try clear hx29
        try clear c30
        try clear c33
        try clear c36
        try clear hcz11_0
        try clear hcz11_1
        try clear hcz11_2
        try clear hcz11_3
        try clear hcz11_4
        try clear hcz12_0
        try clear hcz12_1
        try clear hcz12_2
        try clear hcz12_3
        try clear hcz12_4
        try clear hcz14_0
        try clear hcz14_1
        try clear hcz14_2
        try clear hcz14_3
        try clear hcz14_4
        try clear hcz15_0
        try clear hcz15_1
        try clear hcz15_2
        try clear hcz15_3
        try clear hcz15_4
        try clear hcz17_0
        try clear hcz17_1
        try clear hcz17_2
        try clear hcz17_3
        try clear hcz17_4
        try clear hcz18_0
        try clear hcz18_1
        try clear hcz18_2
        try clear hcz18_3
        try clear hcz18_4
        try clear hcz20_0
        try clear hcz20_1
        try clear hcz20_2
        try clear hcz20_3
        try clear hcz20_4
        try clear hcz21_0
        try clear hcz21_1
        try clear hcz21_2
        try clear hcz21_3
        try clear hcz21_4
        try clear hcz23_0
        try clear hcz23_1
        try clear hcz23_2
        try clear hcz23_3
        try clear hcz23_4
        try clear hcz24_0
        try clear hcz24_1
        try clear hcz24_2
        try clear hcz24_3
        try clear hcz24_4
        try clear hcz31_0
        try clear hcz31_1
        try clear hcz31_2
        try clear hcz31_3
        try clear hcz31_4
        try clear hcz34_0
        try clear hcz34_1
        try clear hcz34_2
        try clear hcz34_3
        try clear hcz34_4
        try clear hcz37_0
        try clear hcz37_1
        try clear hcz37_2
        try clear hcz37_3
        try clear hcz37_4
        try clear hfz11_0
        try clear hfz11_1
        try clear hfz11_2
        try clear hfz11_3
        try clear hfz11_4
        try clear hfz12_0
        try clear hfz12_1
        try clear hfz12_2
        try clear hfz12_3
        try clear hfz12_4
        try clear hfz14_0
        try clear hfz14_1
        try clear hfz14_2
        try clear hfz14_3
        try clear hfz14_4
        try clear hfz15_0
        try clear hfz15_1
        try clear hfz15_2
        try clear hfz15_3
        try clear hfz15_4
        try clear hfz17_0
        try clear hfz17_1
        try clear hfz17_2
        try clear hfz17_3
        try clear hfz17_4
        try clear hfz18_0
        try clear hfz18_1
        try clear hfz18_2
        try clear hfz18_3
        try clear hfz18_4
        try clear hfz20_0
        try clear hfz20_1
        try clear hfz20_2
        try clear hfz20_3
        try clear hfz20_4
        try clear hfz21_0
        try clear hfz21_1
        try clear hfz21_2
        try clear hfz21_3
        try clear hfz21_4
        try clear hfz23_0
        try clear hfz23_1
        try clear hfz23_2
        try clear hfz23_3
        try clear hfz23_4
        try clear hfz24_0
        try clear hfz24_1
        try clear hfz24_2
        try clear hfz24_3
        try clear hfz24_4
        try clear hfz31_0
        try clear hfz31_1
        try clear hfz31_2
        try clear hfz31_3
        try clear hfz31_4
        try clear hfz34_0
        try clear hfz34_1
        try clear hfz34_2
        try clear hfz34_3
        try clear hfz34_4
        try clear hfz37_0
        try clear hfz37_1
        try clear hfz37_2
        try clear hfz37_3
        try clear hfz37_4
        try clear hx298_0
        try clear hx299_0
        try clear p2
        try clear p298
        try clear p299
        try clear q298
        try clear q299
        obtain ⟨x6_3, rfl, HA, HK3, BK296, BK297, HB⟩ := hrel
        cases gk with
        | zero => exact absurd HA.out (by simp [spec_Same.l1])
        | succ k3 =>
         have H := HA.out
         clear HA
         simp only [spec_Same.l1] at H
         by_cases c38 : x6_3 < (l0_4.length : Int)
         ·rw [if_pos c38] at H
          have c38b0 : decide (x6_3 < (l0_4.length : Int)) = true := decide_eq_true c38
          clear c38
          by_cases c39 : 0 ≤ x6_3
          ·rw [if_pos c39] at H
           have c39b0 : decide (0 ≤ x6_3) = true := decide_eq_true c39
           clear c39
           by_cases c40 : x6_3 < (l1_4.length : Int)
           ·rw [if_pos c40] at H
            have c40b0 : decide (x6_3 < (l1_4.length : Int)) = true := decide_eq_true c40
            clear c40
            replace H := Option.bind_eq_some_iff.mp H
            obtain ⟨t302, A410, H⟩ := H
            replace H : (if t302 = true then (spec_Same.l1 k3 (wrap64 (x6_3 + 1)) a0_0 a0_1 a0_2 l0_3 l0_4 a1_0 a1_1 a1_2 l1_3 l1_4) else (some false)) = some r := H
            have A41 := aM A410
            clear A410
            by_cases c42 : t302 = true
            ·subst c42
             have H1 : (spec_Same.l1 k3 (wrap64 (x6_3 + 1)) a0_0 a0_1 a0_2 l0_3 l0_4 a1_0 a1_1 a1_2 l1_3 l1_4) = some r := by rw [if_pos rfl] at H; exact H
             clear H
             have H := H1
             clear H1
             have H' := aM H
             clear H
             have hnb43 := NB296_297.out
             have hnc43 := NB297_296.out
             have hcz44_0 : wr.cell? ⟨gb296, 0, none⟩ = some (.int .i64 a0_0) := (blk_cell BK296.out 0).trans rfl
             have hcz44_1 : wr.cell? ⟨gb296, 1, none⟩ = some (.int .i64 a0_1) := (blk_cell BK296.out 1).trans rfl
             have hcz44_2 : wr.cell? ⟨gb296, 2, none⟩ = some (.string a0_2) := (blk_cell BK296.out 2).trans rfl
             have hcz44_3 : wr.cell? ⟨gb296, 3, none⟩ = some (.slice A0_3 l0_3.length c0_3) := (blk_cell BK296.out 3).trans rfl
             have hcz44_4 : wr.cell? ⟨gb296, 4, none⟩ = some (.slice A0_4 l0_4.length c0_4) := (blk_cell BK296.out 4).trans rfl
             have hfz44_0 := blk_frozen BK296.out 0
             have hfz44_1 := blk_frozen BK296.out 1
             have hfz44_2 := blk_frozen BK296.out 2
             have hfz44_3 := blk_frozen BK296.out 3
             have hfz44_4 := blk_frozen BK296.out 4
             try go_wp2
             have n0_ := aM (blk_drew BK296.out)
             have n1_ := aM (blk_drew BK297.out)
             have n2_ := aM (below_drew1 HB.out)
             clear BK296 BK297 HB; have BK296 := n0_; have BK297 := n1_; have HB := n2_; clear n0_ n1_ n2_
             have p300 : 0 ≤ (x6_3 : Int) := of_decide_eq_true (by first | (with_reducible assumption) | assumption)
             have q300 : x6_3 < (l0_4.length : Int) := of_decide_eq_true (by first | (with_reducible assumption) | assumption)
             obtain ⟨ad300, A300_3, c300_3, A300_4, c300_4, e300, hx300_0, hx300_1, hx300_2, hx300_3, hx300_4, hl300_3, hi300_3, hl300_4, hi300_4⟩ := at_T25 HR0_4.out x6_3 p300 q300
             have hw300_4 := hx300_4
             have hw300_3 := hx300_3
             have hw300_2 := hx300_2
             have hw300_1 := hx300_1
             have hw300_0 := hx300_0
             cases e300
             replace hx300_0 := (HB.out.cell (World.block_lt_of_cell? w _ hx300_0)).trans hx300_0
             replace hx300_1 := (HB.out.cell (World.block_lt_of_cell? w _ hx300_1)).trans hx300_1
             replace hx300_2 := (HB.out.cell (World.block_lt_of_cell? w _ hx300_2)).trans hx300_2
             replace hx300_3 := (HB.out.cell (World.block_lt_of_cell? w _ hx300_3)).trans hx300_3
             replace hx300_4 := (HB.out.cell (World.block_lt_of_cell? w _ hx300_4)).trans hx300_4
             have HR300_3 := aM hi300_3
             have HC300_3 := aM hl300_3
             clear hi300_3 hl300_3
             have HR300_4 := aM hi300_4
             have HC300_4 := aM hl300_4
             clear hi300_4 hl300_4
             replace p300 := eq_true p300
             replace q300 := eq_true q300
             have p301 : 0 ≤ (x6_3 : Int) := of_decide_eq_true (by first | (with_reducible assumption) | assumption)
             have q301 : x6_3 < (l1_4.length : Int) := of_decide_eq_true (by first | (with_reducible assumption) | assumption)
             obtain ⟨ad301, A301_3, c301_3, A301_4, c301_4, e301, hx301_0, hx301_1, hx301_2, hx301_3, hx301_4, hl301_3, hi301_3, hl301_4, hi301_4⟩ := at_T25 HR1_4.out x6_3 p301 q301
             have hw301_4 := hx301_4
             have hw301_3 := hx301_3
             have hw301_2 := hx301_2
             have hw301_1 := hx301_1
             have hw301_0 := hx301_0
             cases e301
             replace hx301_0 := (HB.out.cell (World.block_lt_of_cell? w _ hx301_0)).trans hx301_0
             replace hx301_1 := (HB.out.cell (World.block_lt_of_cell? w _ hx301_1)).trans hx301_1
             replace hx301_2 := (HB.out.cell (World.block_lt_of_cell? w _ hx301_2)).trans hx301_2
             replace hx301_3 := (HB.out.cell (World.block_lt_of_cell? w _ hx301_3)).trans hx301_3
             replace hx301_4 := (HB.out.cell (World.block_lt_of_cell? w _ hx301_4)).trans hx301_4
             have HR301_3 := aM hi301_3
             have HC301_3 := aM hl301_3
             clear hi301_3 hl301_3
             have HR301_4 := aM hi301_4
             have HC301_4 := aM hl301_4
             clear hi301_4 hl301_4
             replace p301 := eq_true p301
             replace q301 := eq_true q301
             refine start_ (n := 12) (S := fun w' => w'.cell? ⟨gb296, 0, none⟩ = some (.int .i64 a0_0) ∧ w'.cell? ⟨gb296, 1, none⟩ = some (.int .i64 a0_1) ∧ w'.cell? ⟨gb296, 2, none⟩ = some (.string a0_2) ∧ w'.cell? ⟨gb296, 3, none⟩ = some (.slice A0_3 l0_3.length c0_3) ∧ w'.cell? ⟨gb296, 4, none⟩ = some (.slice (some ad300) l0_4.length c0_4) ∧ w'.cell? ⟨gb297, 0, none⟩ = some (.int .i64 a1_0) ∧ w'.cell? ⟨gb297, 1, none⟩ = some (.int .i64 a1_1) ∧ w'.cell? ⟨gb297, 2, none⟩ = some (.string a1_2) ∧ w'.cell? ⟨gb297, 3, none⟩ = some (.slice A1_3 l1_3.length c1_3) ∧ w'.cell? ⟨gb297, 4, none⟩ = some (.slice (some ad301) l1_4.length c1_4) ∧ w'.cell? (ad300.add ((x6_3).toNat * 5)) = some (.int .i64 ((rd_T25 l0_4 x6_3).f0)) ∧ w'.cell? ⟨(ad300.add ((x6_3).toNat * 5)).block, (ad300.add ((x6_3).toNat * 5)).off + 1, none⟩ = some (.int .i64 ((rd_T25 l0_4 x6_3).f1)) ∧ w'.cell? ⟨(ad300.add ((x6_3).toNat * 5)).block, (ad300.add ((x6_3).toNat * 5)).off + 2, none⟩ = some (.string ((rd_T25 l0_4 x6_3).f2)) ∧ w'.cell? ⟨(ad300.add ((x6_3).toNat * 5)).block, (ad300.add ((x6_3).toNat * 5)).off + 3, none⟩ = some (.slice A300_3 ((rd_T25 l0_4 x6_3).f3).length c300_3) ∧ w'.cell? ⟨(ad300.add ((x6_3).toNat * 5)).block, (ad300.add ((x6_3).toNat * 5)).off + 4, none⟩ = some (.slice A300_4 ((rd_T25 l0_4 x6_3).f4).length c300_4) ∧ w'.cell? (ad301.add ((x6_3).toNat * 5)) = some (.int .i64 ((rd_T25 l1_4 x6_3).f0)) ∧ w'.cell? ⟨(ad301.add ((x6_3).toNat * 5)).block, (ad301.add ((x6_3).toNat * 5)).off + 1, none⟩ = some (.int .i64 ((rd_T25 l1_4 x6_3).f1)) ∧ w'.cell? ⟨(ad301.add ((x6_3).toNat * 5)).block, (ad301.add ((x6_3).toNat * 5)).off + 2, none⟩ = some (.string ((rd_T25 l1_4 x6_3).f2)) ∧ w'.cell? ⟨(ad301.add ((x6_3).toNat * 5)).block, (ad301.add ((x6_3).toNat * 5)).off + 3, none⟩ = some (.slice A301_3 ((rd_T25 l1_4 x6_3).f3).length c301_3) ∧ w'.cell? ⟨(ad301.add ((x6_3).toNat * 5)).block, (ad301.add ((x6_3).toNat * 5)).off + 4, none⟩ = some (.slice A301_4 ((rd_T25 l1_4 x6_3).f4).length c301_4)) (ds := []) #[false, false, false, false, false, false, false, false, false, false, false, false] (by kernel_rfl) rfl rfl ⟨(blk_cell BK296.out 0).trans rfl, (blk_cell BK296.out 1).trans rfl, (blk_cell BK296.out 2).trans rfl, (blk_cell BK296.out 3).trans rfl, (blk_cell BK296.out 4).trans rfl, (blk_cell BK297.out 0).trans rfl, (blk_cell BK297.out 1).trans rfl, (blk_cell BK297.out 2).trans rfl, (blk_cell BK297.out 3).trans rfl, (blk_cell BK297.out 4).trans rfl, ((HB.out.cell (World.block_lt_of_cell? w _ hw300_0)).trans hw300_0), ((HB.out.cell (World.block_lt_of_cell? w _ hw300_1)).trans hw300_1), ((HB.out.cell (World.block_lt_of_cell? w _ hw300_2)).trans hw300_2), ((HB.out.cell (World.block_lt_of_cell? w _ hw300_3)).trans hw300_3), ((HB.out.cell (World.block_lt_of_cell? w _ hw300_4)).trans hw300_4), ((HB.out.cell (World.block_lt_of_cell? w _ hw301_0)).trans hw301_0), ((HB.out.cell (World.block_lt_of_cell? w _ hw301_1)).trans hw301_1), ((HB.out.cell (World.block_lt_of_cell? w _ hw301_2)).trans hw301_2), ((HB.out.cell (World.block_lt_of_cell? w _ hw301_3)).trans hw301_3), ((HB.out.cell (World.block_lt_of_cell? w _ hw301_4)).trans hw301_4)⟩ (fun hHeld => ?_); refine with_tabW spec_Same.tab11 spec_Same.bits11 (fun HT_ HW_ => ?_)
             generalize wr.drew = w45 at BK296 BK297 HB HR300_3 HR300_4 HR301_3 HR301_4 hx300_0 hx300_1 hx300_2 hx300_3 hx300_4 hx301_0 hx301_1 hx301_2 hx301_3 hx301_4 hHeld ⊢
             refine pure_ (i := 0) (N := some 69) (v := ?_) (a' := ?_) #[true, false, false, false, false, false, false, false, false, false, false, false] rfl rfl (any_of HT_.out (by kernel_rfl)) (fun _ _ _ h => h) (Or.inl ⟨by rfl, ?_⟩) ?_ ?_
             rotate_left
             ·intro w'; go_simp; with_reducible rfl
             rotate_left
             ·simp only [Act.put, sA, sB, sC, i64_w, i32_w]; rfl
             refine pure_ (i := 2) (N := some 71) (v := ?_) (a' := ?_) #[true, false, true, false, false, false, false, false, false, false, false, false] rfl rfl (any_of HT_.out (by kernel_rfl)) (fun _ _ _ h => h) (Or.inl ⟨by rfl, ?_⟩) ?_ ?_
             rotate_left
             ·intro w'; go_simp; with_reducible rfl
             rotate_left
             ·simp only [Act.put, sA, sB, sC, i64_w, i32_w]; rfl
             refine pure_ (i := 5) (N := some 74) (v := ?_) (a' := ?_) #[true, false, true, false, false, true, false, false, false, false, false, false] rfl rfl (any_of HT_.out (by kernel_rfl)) (fun _ _ _ h => h) (Or.inl ⟨by rfl, ?_⟩) ?_ ?_
             rotate_left
             ·intro w'; go_simp; with_reducible rfl
             rotate_left
             ·simp only [Act.put, sA, sB, sC, i64_w, i32_w]; rfl
             refine pure_ (i := 7) (N := some 76) (v := ?_) (a' := ?_) #[true, false, true, false, false, true, false, true, false, false, false, false] rfl rfl (any_of HT_.out (by kernel_rfl)) (fun _ _ _ h => h) (Or.inl ⟨by rfl, ?_⟩) ?_ ?_
             rotate_left
             ·intro w'; go_simp; with_reducible rfl
             rotate_left
             ·simp only [Act.put, sA, sB, sC, i64_w, i32_w]; rfl
             refine take_ (i := 1) (N := some 70) (v := ?_) (a' := ?_) #[true, true, true, false, false, true, false, true, false, false, false, false] rfl rfl (take_ofW HT_.out HW_.out (by kernel_rfl)) (fun _ _ _ h => h) (Or.inl ⟨by rfl, ?_⟩) hHeld ?_ ?_
             rotate_left
             ·rintro w' ⟨s0, s1, s2, s3, s4, s5, s6, s7, s8, s9, s10, s11, s12, s13, s14, s15, s16, s17, s18, s19⟩
              go_simp; with_reducible rfl
             rotate_left
             ·simp only [Act.put, sA, sB, sC, i64_w, i32_w]; rfl
             refine pure_ (i := 3) (N := some 72) (v := ?_) (a' := ?_) #[true, true, true, true, false, true, false, true, false, false, false, false] rfl rfl (any_of HT_.out (by kernel_rfl)) (fun _ _ _ h => h) (Or.inl ⟨by rfl, ?_⟩) ?_ ?_
             rotate_left
             ·intro w'; go_simp; with_reducible rfl
             rotate_left
             ·simp only [Act.put, sA, sB, sC, i64_w, i32_w]; rfl
             refine take_ (i := 4) (N := some 73) (v := ?_) (a' := ?_) #[true, true, true, true, true, true, false, true, false, false, false, false] rfl rfl (take_ofW HT_.out HW_.out (by kernel_rfl)) (fun _ _ _ h => h) (Or.inl ⟨by rfl, ?_⟩) hHeld ?_ ?_
             rotate_left
             ·rintro w' ⟨s0, s1, s2, s3, s4, s5, s6, s7, s8, s9, s10, s11, s12, s13, s14, s15, s16, s17, s18, s19⟩
              go_simp; with_reducible rfl
             rotate_left
             ·simp only [Act.put, sA, sB, sC, i64_w, i32_w]; rfl
             refine take_ (i := 6) (N := some 75) (v := ?_) (a' := ?_) #[true, true, true, true, true, true, true, true, false, false, false, false] rfl rfl (take_ofW HT_.out HW_.out (by kernel_rfl)) (fun _ _ _ h => h) (Or.inl ⟨by rfl, ?_⟩) hHeld ?_ ?_
             rotate_left
             ·rintro w' ⟨s0, s1, s2, s3, s4, s5, s6, s7, s8, s9, s10, s11, s12, s13, s14, s15, s16, s17, s18, s19⟩
              go_simp; with_reducible rfl
             rotate_left
             ·simp only [Act.put, sA, sB, sC, i64_w, i32_w]; rfl
             refine pure_ (i := 8) (N := some 77) (v := ?_) (a' := ?_) #[true, true, true, true, true, true, true, true, true, false, false, false] rfl rfl (any_of HT_.out (by kernel_rfl)) (fun _ _ _ h => h) (Or.inl ⟨by rfl, ?_⟩) ?_ ?_
             rotate_left
             ·intro w'; go_simp; with_reducible rfl
             rotate_left
             ·simp only [Act.put, sA, sB, sC, i64_w, i32_w]; rfl
             refine take_ (i := 9) (N := some 78) (v := ?_) (a' := ?_) #[true, true, true, true, true, true, true, true, true, true, false, false] rfl rfl (take_ofW HT_.out HW_.out (by kernel_rfl)) (fun _ _ _ h => h) (Or.inl ⟨by rfl, ?_⟩) hHeld ?_ ?_
             rotate_left
             ·rintro w' ⟨s0, s1, s2, s3, s4, s5, s6, s7, s8, s9, s10, s11, s12, s13, s14, s15, s16, s17, s18, s19⟩
              go_simp; with_reducible rfl
             rotate_left
             ·simp only [Act.put, sA, sB, sC, i64_w, i32_w]; rfl
             refine one_ (i := 10) (N := some 79) #[true, true, true, true, true, true, true, true, true, true, true, false] rfl rfl (one_of HT_.out (by kernel_rfl)) (by decide) (fun K hK => ?_)
             refine goes_ Try.func18 (by kernel_rfl) rfl #[.agg #[.int .i64 ((rd_T25 l0_4 x6_3).f0), .int .i64 ((rd_T25 l0_4 x6_3).f1), .string ((rd_T25 l0_4 x6_3).f2), .slice A300_3 ((rd_T25 l0_4 x6_3).f3).length c300_3, .slice A300_4 ((rd_T25 l0_4 x6_3).f4).length c300_4], .agg #[.int .i64 ((rd_T25 l1_4 x6_3).f0), .int .i64 ((rd_T25 l1_4 x6_3).f1), .string ((rd_T25 l1_4 x6_3).f2), .slice A301_3 ((rd_T25 l1_4 x6_3).f3).length c301_3, .slice A301_4 ((rd_T25 l1_4 x6_3).f4).length c301_4]] (by rfl) rfl rfl (by (try simp only [List.map_toArray, List.map_cons, List.map_nil]); first | done | rfl | (simp only [List.length_drop, List.length_take]; rfl)) ?_
             with_reducible refine (ih k3 (by have := HJ2.out; have := HK2.out; have := HK3.out; omega) ((rd_T25 l0_4 x6_3).f0) ((rd_T25 l0_4 x6_3).f1) ((rd_T25 l0_4 x6_3).f2) _ _ ((rd_T25 l0_4 x6_3).f3) _ _ ((rd_T25 l0_4 x6_3).f4) ((rd_T25 l1_4 x6_3).f0) ((rd_T25 l1_4 x6_3).f1) ((rd_T25 l1_4 x6_3).f2) _ _ ((rd_T25 l1_4 x6_3).f3) _ _ ((rd_T25 l1_4 x6_3).f4) true _ ?side1 ?side2 ?side3 ?side4 ?side5 ?side6 ?side7 ?side8 A41.out).mono ?_
             (case side1 => repeat (first | exact (Kd.C_below HR300_3.out HB.out) | (with_reducible refine Kd.C_alloc ?_ _) | (with_reducible refine Kd.C_drewN ?_ _) | (with_reducible refine Kd.C_drew ?_)))
             (case side2 => exact HC300_3.out)
             (case side3 => repeat (first | exact (Kd.C_below HR300_4.out HB.out) | (with_reducible refine Kd.C_alloc ?_ _) | (with_reducible refine Kd.C_drewN ?_ _) | (with_reducible refine Kd.C_drew ?_)))
             (case side4 => exact HC300_4.out)
             (case side5 => repeat (first | exact (Kd.C_below HR301_3.out HB.out) | (with_reducible refine Kd.C_alloc ?_ _) | (with_reducible refine Kd.C_drewN ?_ _) | (with_reducible refine Kd.C_drew ?_)))
             (case side6 => exact HC301_3.out)
             (case side7 => repeat (first | exact (Kd.C_below HR301_4.out HB.out) | (with_reducible refine Kd.C_alloc ?_ _) | (with_reducible refine Kd.C_drewN ?_ _) | (with_reducible refine Kd.C_drew ?_)))
             (case side8 => exact HC301_4.out)
             rintro e w46 ⟨rfl, hb⟩
             refine ⟨_, rfl, ?_⟩
             have n0_ := aM (blk_below (g := gb296) (o := .cells #[.int .i64 a0_0, .int .i64 a0_1, .string a0_2, .slice A0_3 l0_3.length c0_3, .slice (some ad300) l0_4.length c0_4] 25 (0, 0)) (by (with_reducible repeat (first | refine blk_drewN ?_ _ | refine blk_drew ?_ | refine blk_alloc ?_ _)); exact BK296.out) hb)
             have n1_ := aM (blk_below (g := gb297) (o := .cells #[.int .i64 a1_0, .int .i64 a1_1, .string a1_2, .slice A1_3 l1_3.length c1_3, .slice (some ad301) l1_4.length c1_4] 25 (0, 0)) (by (with_reducible repeat (first | refine blk_drewN ?_ _ | refine blk_drew ?_ | refine blk_alloc ?_ _)); exact BK297.out) hb)
             have n2_ := aM (below_step (by repeat (first | (with_reducible first | exact HB.out | apply below_alloc | apply pw_below_drewN | apply below_drew1 | refine below_set ?_ GE296.out | refine below_set ?_ GE297.out) | exact HB.out)) hb)
             clear BK296 BK297 HB; have BK296 := n0_; have BK297 := n1_; have HB := n2_; clear n0_ n1_ n2_
             (try clear hb)
             (try clear hb2)
             (try clear hk)
             (try clear hi)
             refine hK.out _ _ ⟨(blk_cell BK296.out 0).trans rfl, (blk_cell BK296.out 1).trans rfl, (blk_cell BK296.out 2).trans rfl, (blk_cell BK296.out 3).trans rfl, (blk_cell BK296.out 4).trans rfl, (blk_cell BK297.out 0).trans rfl, (blk_cell BK297.out 1).trans rfl, (blk_cell BK297.out 2).trans rfl, (blk_cell BK297.out 3).trans rfl, (blk_cell BK297.out 4).trans rfl, ((HB.out.cell (World.block_lt_of_cell? w _ hw300_0)).trans hw300_0), ((HB.out.cell (World.block_lt_of_cell? w _ hw300_1)).trans hw300_1), ((HB.out.cell (World.block_lt_of_cell? w _ hw300_2)).trans hw300_2), ((HB.out.cell (World.block_lt_of_cell? w _ hw300_3)).trans hw300_3), ((HB.out.cell (World.block_lt_of_cell? w _ hw300_4)).trans hw300_4), ((HB.out.cell (World.block_lt_of_cell? w _ hw301_0)).trans hw301_0), ((HB.out.cell (World.block_lt_of_cell? w _ hw301_1)).trans hw301_1), ((HB.out.cell (World.block_lt_of_cell? w _ hw301_2)).trans hw301_2), ((HB.out.cell (World.block_lt_of_cell? w _ hw301_3)).trans hw301_3), ((HB.out.cell (World.block_lt_of_cell? w _ hw301_4)).trans hw301_4)⟩ (fun hHeld => ?_)
             clear hK K
             refine norm_ (a' := ?_) ?_ ?_
             rotate_left
             ·show Act.put _ (some 79) _ = _
              simp only [Act.put, sA, sB, sC, i64_w, i32_w]; rfl
             refine pure_ (i := 11) (N := some 80) (v := ?_) (a' := ?_) #[true, true, true, true, true, true, true, true, true, true, true, true] rfl rfl (any_of HT_.out (by kernel_rfl)) (fun _ _ _ h => h) (Or.inl ⟨by rfl, ?_⟩) ?_ ?_
             rotate_left
             ·intro w'; go_simp; with_reducible rfl
             rotate_left
             ·simp only [Act.put, sA, sB, sC, i64_w, i32_w]; rfl
             refine done_ (done_of HT_.out (by kernel_rfl)) ?_
             try go_wp2
             go_roundg k3
             case measure => have := HJ2.out; have := HK2.out; have := HK3.out; omega
             case rel => exact ⟨(wrap64 (x6_3 + 1)), (by first | rfl | (simp; done) | (simp [*]; done)), H', ⟨by have := HJ2.out; have := HK2.out; have := HK3.out; omega⟩, ⟨by (with_reducible repeat (first | refine blk_drewN ?_ _ | refine blk_drew ?_ | refine blk_alloc ?_ _)); exact BK296.out⟩, ⟨by (with_reducible repeat (first | refine blk_drewN ?_ _ | refine blk_drew ?_ | refine blk_alloc ?_ _)); exact BK297.out⟩, ⟨by repeat (first | (with_reducible first | exact HB.out | apply below_alloc | apply pw_below_drewN | apply below_drew1 | refine below_set ?_ GE296.out | refine below_set ?_ GE297.out) | exact HB.out)⟩⟩
            ·replace c42 := Bool.eq_false_iff.mpr c42
             subst c42
             have H1 : (some false) = some r := by rw [if_neg (show ¬ (false = true) by decide)] at H; exact H
             clear H
             have H := H1
             clear H1
             obtain rfl := Option.some.inj H
             have hnb47 := NB296_297.out
             have hnc47 := NB297_296.out
             have hcz48_0 : wr.cell? ⟨gb296, 0, none⟩ = some (.int .i64 a0_0) := (blk_cell BK296.out 0).trans rfl
             have hcz48_1 : wr.cell? ⟨gb296, 1, none⟩ = some (.int .i64 a0_1) := (blk_cell BK296.out 1).trans rfl
             have hcz48_2 : wr.cell? ⟨gb296, 2, none⟩ = some (.string a0_2) := (blk_cell BK296.out 2).trans rfl
             have hcz48_3 : wr.cell? ⟨gb296, 3, none⟩ = some (.slice A0_3 l0_3.length c0_3) := (blk_cell BK296.out 3).trans rfl
             have hcz48_4 : wr.cell? ⟨gb296, 4, none⟩ = some (.slice A0_4 l0_4.length c0_4) := (blk_cell BK296.out 4).trans rfl
             have hfz48_0 := blk_frozen BK296.out 0
             have hfz48_1 := blk_frozen BK296.out 1
             have hfz48_2 := blk_frozen BK296.out 2
             have hfz48_3 := blk_frozen BK296.out 3
             have hfz48_4 := blk_frozen BK296.out 4
             try go_wp2
             have n0_ := aM (blk_drew BK296.out)
             have n1_ := aM (blk_drew BK297.out)
             have n2_ := aM (below_drew1 HB.out)
             clear BK296 BK297 HB; have BK296 := n0_; have BK297 := n1_; have HB := n2_; clear n0_ n1_ n2_
             have p300 : 0 ≤ (x6_3 : Int) := of_decide_eq_true (by first | (with_reducible assumption) | assumption)
             have q300 : x6_3 < (l0_4.length : Int) := of_decide_eq_true (by first | (with_reducible assumption) | assumption)
             obtain ⟨ad300, A300_3, c300_3, A300_4, c300_4, e300, hx300_0, hx300_1, hx300_2, hx300_3, hx300_4, hl300_3, hi300_3, hl300_4, hi300_4⟩ := at_T25 HR0_4.out x6_3 p300 q300
             have hw300_4 := hx300_4
             have hw300_3 := hx300_3
             have hw300_2 := hx300_2
             have hw300_1 := hx300_1
             have hw300_0 := hx300_0
             cases e300
             replace hx300_0 := (HB.out.cell (World.block_lt_of_cell? w _ hx300_0)).trans hx300_0
             replace hx300_1 := (HB.out.cell (World.block_lt_of_cell? w _ hx300_1)).trans hx300_1
             replace hx300_2 := (HB.out.cell (World.block_lt_of_cell? w _ hx300_2)).trans hx300_2
             replace hx300_3 := (HB.out.cell (World.block_lt_of_cell? w _ hx300_3)).trans hx300_3
             replace hx300_4 := (HB.out.cell (World.block_lt_of_cell? w _ hx300_4)).trans hx300_4
             have HR300_3 := aM hi300_3
             have HC300_3 := aM hl300_3
             clear hi300_3 hl300_3
             have HR300_4 := aM hi300_4
             have HC300_4 := aM hl300_4
             clear hi300_4 hl300_4
             replace p300 := eq_true p300
             replace q300 := eq_true q300
             have p301 : 0 ≤ (x6_3 : Int) := of_decide_eq_true (by first | (with_reducible assumption) | assumption)
             have q301 : x6_3 < (l1_4.length : Int) := of_decide_eq_true (by first | (with_reducible assumption) | assumption)
             obtain ⟨ad301, A301_3, c301_3, A301_4, c301_4, e301, hx301_0, hx301_1, hx301_2, hx301_3, hx301_4, hl301_3, hi301_3, hl301_4, hi301_4⟩ := at_T25 HR1_4.out x6_3 p301 q301
             have hw301_4 := hx301_4
             have hw301_3 := hx301_3
             have hw301_2 := hx301_2
             have hw301_1 := hx301_1
             have hw301_0 := hx301_0
             cases e301
             replace hx301_0 := (HB.out.cell (World.block_lt_of_cell? w _ hx301_0)).trans hx301_0
             replace hx301_1 := (HB.out.cell (World.block_lt_of_cell? w _ hx301_1)).trans hx301_1
             replace hx301_2 := (HB.out.cell (World.block_lt_of_cell? w _ hx301_2)).trans hx301_2
             replace hx301_3 := (HB.out.cell (World.block_lt_of_cell? w _ hx301_3)).trans hx301_3
             replace hx301_4 := (HB.out.cell (World.block_lt_of_cell? w _ hx301_4)).trans hx301_4
             have HR301_3 := aM hi301_3
             have HC301_3 := aM hl301_3
             clear hi301_3 hl301_3
             have HR301_4 := aM hi301_4
             have HC301_4 := aM hl301_4
             clear hi301_4 hl301_4
             replace p301 := eq_true p301
             replace q301 := eq_true q301
             refine start_ (n := 12) (S := fun w' => w'.cell? ⟨gb296, 0, none⟩ = some (.int .i64 a0_0) ∧ w'.cell? ⟨gb296, 1, none⟩ = some (.int .i64 a0_1) ∧ w'.cell? ⟨gb296, 2, none⟩ = some (.string a0_2) ∧ w'.cell? ⟨gb296, 3, none⟩ = some (.slice A0_3 l0_3.length c0_3) ∧ w'.cell? ⟨gb296, 4, none⟩ = some (.slice (some ad300) l0_4.length c0_4) ∧ w'.cell? ⟨gb297, 0, none⟩ = some (.int .i64 a1_0) ∧ w'.cell? ⟨gb297, 1, none⟩ = some (.int .i64 a1_1) ∧ w'.cell? ⟨gb297, 2, none⟩ = some (.string a1_2) ∧ w'.cell? ⟨gb297, 3, none⟩ = some (.slice A1_3 l1_3.length c1_3) ∧ w'.cell? ⟨gb297, 4, none⟩ = some (.slice (some ad301) l1_4.length c1_4) ∧ w'.cell? (ad300.add ((x6_3).toNat * 5)) = some (.int .i64 ((rd_T25 l0_4 x6_3).f0)) ∧ w'.cell? ⟨(ad300.add ((x6_3).toNat * 5)).block, (ad300.add ((x6_3).toNat * 5)).off + 1, none⟩ = some (.int .i64 ((rd_T25 l0_4 x6_3).f1)) ∧ w'.cell? ⟨(ad300.add ((x6_3).toNat * 5)).block, (ad300.add ((x6_3).toNat * 5)).off + 2, none⟩ = some (.string ((rd_T25 l0_4 x6_3).f2)) ∧ w'.cell? ⟨(ad300.add ((x6_3).toNat * 5)).block, (ad300.add ((x6_3).toNat * 5)).off + 3, none⟩ = some (.slice A300_3 ((rd_T25 l0_4 x6_3).f3).length c300_3) ∧ w'.cell? ⟨(ad300.add ((x6_3).toNat * 5)).block, (ad300.add ((x6_3).toNat * 5)).off + 4, none⟩ = some (.slice A300_4 ((rd_T25 l0_4 x6_3).f4).length c300_4) ∧ w'.cell? (ad301.add ((x6_3).toNat * 5)) = some (.int .i64 ((rd_T25 l1_4 x6_3).f0)) ∧ w'.cell? ⟨(ad301.add ((x6_3).toNat * 5)).block, (ad301.add ((x6_3).toNat * 5)).off + 1, none⟩ = some (.int .i64 ((rd_T25 l1_4 x6_3).f1)) ∧ w'.cell? ⟨(ad301.add ((x6_3).toNat * 5)).block, (ad301.add ((x6_3).toNat * 5)).off + 2, none⟩ = some (.string ((rd_T25 l1_4 x6_3).f2)) ∧ w'.cell? ⟨(ad301.add ((x6_3).toNat * 5)).block, (ad301.add ((x6_3).toNat * 5)).off + 3, none⟩ = some (.slice A301_3 ((rd_T25 l1_4 x6_3).f3).length c301_3) ∧ w'.cell? ⟨(ad301.add ((x6_3).toNat * 5)).block, (ad301.add ((x6_3).toNat * 5)).off + 4, none⟩ = some (.slice A301_4 ((rd_T25 l1_4 x6_3).f4).length c301_4)) (ds := []) #[false, false, false, false, false, false, false, false, false, false, false, false] (by kernel_rfl) rfl rfl ⟨(blk_cell BK296.out 0).trans rfl, (blk_cell BK296.out 1).trans rfl, (blk_cell BK296.out 2).trans rfl, (blk_cell BK296.out 3).trans rfl, (blk_cell BK296.out 4).trans rfl, (blk_cell BK297.out 0).trans rfl, (blk_cell BK297.out 1).trans rfl, (blk_cell BK297.out 2).trans rfl, (blk_cell BK297.out 3).trans rfl, (blk_cell BK297.out 4).trans rfl, ((HB.out.cell (World.block_lt_of_cell? w _ hw300_0)).trans hw300_0), ((HB.out.cell (World.block_lt_of_cell? w _ hw300_1)).trans hw300_1), ((HB.out.cell (World.block_lt_of_cell? w _ hw300_2)).trans hw300_2), ((HB.out.cell (World.block_lt_of_cell? w _ hw300_3)).trans hw300_3), ((HB.out.cell (World.block_lt_of_cell? w _ hw300_4)).trans hw300_4), ((HB.out.cell (World.block_lt_of_cell? w _ hw301_0)).trans hw301_0), ((HB.out.cell (World.block_lt_of_cell? w _ hw301_1)).trans hw301_1), ((HB.out.cell (World.block_lt_of_cell? w _ hw301_2)).trans hw301_2), ((HB.out.cell (World.block_lt_of_cell? w _ hw301_3)).trans hw301_3), ((HB.out.cell (World.block_lt_of_cell? w _ hw301_4)).trans hw301_4)⟩ (fun hHeld => ?_); refine with_tabW spec_Same.tab11 spec_Same.bits11 (fun HT_ HW_ => ?_)
             generalize wr.drew = w49 at BK296 BK297 HB HR300_3 HR300_4 HR301_3 HR301_4 hx300_0 hx300_1 hx300_2 hx300_3 hx300_4 hx301_0 hx301_1 hx301_2 hx301_3 hx301_4 hHeld ⊢
             refine pure_ (i := 0) (N := some 69) (v := ?_) (a' := ?_) #[true, false, false, false, false, false, false, false, false, false, false, false] rfl rfl (any_of HT_.out (by kernel_rfl)) (fun _ _ _ h => h) (Or.inl ⟨by rfl, ?_⟩) ?_ ?_
             rotate_left
             ·intro w'; go_simp; with_reducible rfl
             rotate_left
             ·simp only [Act.put, sA, sB, sC, i64_w, i32_w]; rfl
             refine pure_ (i := 2) (N := some 71) (v := ?_) (a' := ?_) #[true, false, true, false, false, false, false, false, false, false, false, false] rfl rfl (any_of HT_.out (by kernel_rfl)) (fun _ _ _ h => h) (Or.inl ⟨by rfl, ?_⟩) ?_ ?_
             rotate_left
             ·intro w'; go_simp; with_reducible rfl
             rotate_left
             ·simp only [Act.put, sA, sB, sC, i64_w, i32_w]; rfl
             refine pure_ (i := 5) (N := some 74) (v := ?_) (a' := ?_) #[true, false, true, false, false, true, false, false, false, false, false, false] rfl rfl (any_of HT_.out (by kernel_rfl)) (fun _ _ _ h => h) (Or.inl ⟨by rfl, ?_⟩) ?_ ?_
             rotate_left
             ·intro w'; go_simp; with_reducible rfl
             rotate_left
             ·simp only [Act.put, sA, sB, sC, i64_w, i32_w]; rfl
             refine pure_ (i := 7) (N := some 76) (v := ?_) (a' := ?_) #[true, false, true, false, false, true, false, true, false, false, false, false] rfl rfl (any_of HT_.out (by kernel_rfl)) (fun _ _ _ h => h) (Or.inl ⟨by rfl, ?_⟩) ?_ ?_
             rotate_left
             ·intro w'; go_simp; with_reducible rfl
             rotate_left
             ·simp only [Act.put, sA, sB, sC, i64_w, i32_w]; rfl
             refine take_ (i := 1) (N := some 70) (v := ?_) (a' := ?_) #[true, true, true, false, false, true, false, true, false, false, false, false] rfl rfl (take_ofW HT_.out HW_.out (by kernel_rfl)) (fun _ _ _ h => h) (Or.inl ⟨by rfl, ?_⟩) hHeld ?_ ?_
             rotate_left
             ·rintro w' ⟨s0, s1, s2, s3, s4, s5, s6, s7, s8, s9, s10, s11, s12, s13, s14, s15, s16, s17, s18, s19⟩
              go_simp; with_reducible rfl
             rotate_left
             ·simp only [Act.put, sA, sB, sC, i64_w, i32_w]; rfl
             refine pure_ (i := 3) (N := some 72) (v := ?_) (a' := ?_) #[true, true, true, true, false, true, false, true, false, false, false, false] rfl rfl (any_of HT_.out (by kernel_rfl)) (fun _ _ _ h => h) (Or.inl ⟨by rfl, ?_⟩) ?_ ?_
             rotate_left
             ·intro w'; go_simp; with_reducible rfl
             rotate_left
             ·simp only [Act.put, sA, sB, sC, i64_w, i32_w]; rfl
             refine take_ (i := 4) (N := some 73) (v := ?_) (a' := ?_) #[true, true, true, true, true, true, false, true, false, false, false, false] rfl rfl (take_ofW HT_.out HW_.out (by kernel_rfl)) (fun _ _ _ h => h) (Or.inl ⟨by rfl, ?_⟩) hHeld ?_ ?_
             rotate_left
             ·rintro w' ⟨s0, s1, s2, s3, s4, s5, s6, s7, s8, s9, s10, s11, s12, s13, s14, s15, s16, s17, s18, s19⟩
              go_simp; with_reducible rfl
             rotate_left
             ·simp only [Act.put, sA, sB, sC, i64_w, i32_w]; rfl
             refine take_ (i := 6) (N := some 75) (v := ?_) (a' := ?_) #[true, true, true, true, true, true, true, true, false, false, false, false] rfl rfl (take_ofW HT_.out HW_.out (by kernel_rfl)) (fun _ _ _ h => h) (Or.inl ⟨by rfl, ?_⟩) hHeld ?_ ?_
             rotate_left
             ·rintro w' ⟨s0, s1, s2, s3, s4, s5, s6, s7, s8, s9, s10, s11, s12, s13, s14, s15, s16, s17, s18, s19⟩
              go_simp; with_reducible rfl
             rotate_left
             ·simp only [Act.put, sA, sB, sC, i64_w, i32_w]; rfl
             refine pure_ (i := 8) (N := some 77) (v := ?_) (a' := ?_) #[true, true, true, true, true, true, true, true, true, false, false, false] rfl rfl (any_of HT_.out (by kernel_rfl)) (fun _ _ _ h => h) (Or.inl ⟨by rfl, ?_⟩) ?_ ?_
             rotate_left
             ·intro w'; go_simp; with_reducible rfl
             rotate_left
             ·simp only [Act.put, sA, sB, sC, i64_w, i32_w]; rfl
             refine take_ (i := 9) (N := some 78) (v := ?_) (a' := ?_) #[true, true, true, true, true, true, true, true, true, true, false, false] rfl rfl (take_ofW HT_.out HW_.out (by kernel_rfl)) (fun _ _ _ h => h) (Or.inl ⟨by rfl, ?_⟩) hHeld ?_ ?_
             rotate_left
             ·rintro w' ⟨s0, s1, s2, s3, s4, s5, s6, s7, s8, s9, s10, s11, s12, s13, s14, s15, s16, s17, s18, s19⟩
              go_simp; with_reducible rfl
             rotate_left
             ·simp only [Act.put, sA, sB, sC, i64_w, i32_w]; rfl
             refine one_ (i := 10) (N := some 79) #[true, true, true, true, true, true, true, true, true, true, true, false] rfl rfl (one_of HT_.out (by kernel_rfl)) (by decide) (fun K hK => ?_)
             refine goes_ Try.func18 (by kernel_rfl) rfl #[.agg #[.int .i64 ((rd_T25 l0_4 x6_3).f0), .int .i64 ((rd_T25 l0_4 x6_3).f1), .string ((rd_T25 l0_4 x6_3).f2), .slice A300_3 ((rd_T25 l0_4 x6_3).f3).length c300_3, .slice A300_4 ((rd_T25 l0_4 x6_3).f4).length c300_4], .agg #[.int .i64 ((rd_T25 l1_4 x6_3).f0), .int .i64 ((rd_T25 l1_4 x6_3).f1), .string ((rd_T25 l1_4 x6_3).f2), .slice A301_3 ((rd_T25 l1_4 x6_3).f3).length c301_3, .slice A301_4 ((rd_T25 l1_4 x6_3).f4).length c301_4]] (by rfl) rfl rfl (by (try simp only [List.map_toArray, List.map_cons, List.map_nil]); first | done | rfl | (simp only [List.length_drop, List.length_take]; rfl)) ?_
             with_reducible refine (ih k3 (by have := HJ2.out; have := HK2.out; have := HK3.out; omega) ((rd_T25 l0_4 x6_3).f0) ((rd_T25 l0_4 x6_3).f1) ((rd_T25 l0_4 x6_3).f2) _ _ ((rd_T25 l0_4 x6_3).f3) _ _ ((rd_T25 l0_4 x6_3).f4) ((rd_T25 l1_4 x6_3).f0) ((rd_T25 l1_4 x6_3).f1) ((rd_T25 l1_4 x6_3).f2) _ _ ((rd_T25 l1_4 x6_3).f3) _ _ ((rd_T25 l1_4 x6_3).f4) false _ ?side1 ?side2 ?side3 ?side4 ?side5 ?side6 ?side7 ?side8 A41.out).mono ?_
             (case side1 => repeat (first | exact (Kd.C_below HR300_3.out HB.out) | (with_reducible refine Kd.C_alloc ?_ _) | (with_reducible refine Kd.C_drewN ?_ _) | (with_reducible refine Kd.C_drew ?_)))
             (case side2 => exact HC300_3.out)
             (case side3 => repeat (first | exact (Kd.C_below HR300_4.out HB.out) | (with_reducible refine Kd.C_alloc ?_ _) | (with_reducible refine Kd.C_drewN ?_ _) | (with_reducible refine Kd.C_drew ?_)))
             (case side4 => exact HC300_4.out)
             (case side5 => repeat (first | exact (Kd.C_below HR301_3.out HB.out) | (with_reducible refine Kd.C_alloc ?_ _) | (with_reducible refine Kd.C_drewN ?_ _) | (with_reducible refine Kd.C_drew ?_)))
             (case side6 => exact HC301_3.out)
             (case side7 => repeat (first | exact (Kd.C_below HR301_4.out HB.out) | (with_reducible refine Kd.C_alloc ?_ _) | (with_reducible refine Kd.C_drewN ?_ _) | (with_reducible refine Kd.C_drew ?_)))
             (case side8 => exact HC301_4.out)
             rintro e w50 ⟨rfl, hb⟩
             refine ⟨_, rfl, ?_⟩
             have n0_ := aM (blk_below (g := gb296) (o := .cells #[.int .i64 a0_0, .int .i64 a0_1, .string a0_2, .slice A0_3 l0_3.length c0_3, .slice (some ad300) l0_4.length c0_4] 25 (0, 0)) (by (with_reducible repeat (first | refine blk_drewN ?_ _ | refine blk_drew ?_ | refine blk_alloc ?_ _)); exact BK296.out) hb)
             have n1_ := aM (blk_below (g := gb297) (o := .cells #[.int .i64 a1_0, .int .i64 a1_1, .string a1_2, .slice A1_3 l1_3.length c1_3, .slice (some ad301) l1_4.length c1_4] 25 (0, 0)) (by (with_reducible repeat (first | refine blk_drewN ?_ _ | refine blk_drew ?_ | refine blk_alloc ?_ _)); exact BK297.out) hb)
             have n2_ := aM (below_step (by repeat (first | (with_reducible first | exact HB.out | apply below_alloc | apply pw_below_drewN | apply below_drew1 | refine below_set ?_ GE296.out | refine below_set ?_ GE297.out) | exact HB.out)) hb)
             clear BK296 BK297 HB; have BK296 := n0_; have BK297 := n1_; have HB := n2_; clear n0_ n1_ n2_
             (try clear hb)
             (try clear hb2)
             (try clear hk)
             (try clear hi)
             refine hK.out _ _ ⟨(blk_cell BK296.out 0).trans rfl, (blk_cell BK296.out 1).trans rfl, (blk_cell BK296.out 2).trans rfl, (blk_cell BK296.out 3).trans rfl, (blk_cell BK296.out 4).trans rfl, (blk_cell BK297.out 0).trans rfl, (blk_cell BK297.out 1).trans rfl, (blk_cell BK297.out 2).trans rfl, (blk_cell BK297.out 3).trans rfl, (blk_cell BK297.out 4).trans rfl, ((HB.out.cell (World.block_lt_of_cell? w _ hw300_0)).trans hw300_0), ((HB.out.cell (World.block_lt_of_cell? w _ hw300_1)).trans hw300_1), ((HB.out.cell (World.block_lt_of_cell? w _ hw300_2)).trans hw300_2), ((HB.out.cell (World.block_lt_of_cell? w _ hw300_3)).trans hw300_3), ((HB.out.cell (World.block_lt_of_cell? w _ hw300_4)).trans hw300_4), ((HB.out.cell (World.block_lt_of_cell? w _ hw301_0)).trans hw301_0), ((HB.out.cell (World.block_lt_of_cell? w _ hw301_1)).trans hw301_1), ((HB.out.cell (World.block_lt_of_cell? w _ hw301_2)).trans hw301_2), ((HB.out.cell (World.block_lt_of_cell? w _ hw301_3)).trans hw301_3), ((HB.out.cell (World.block_lt_of_cell? w _ hw301_4)).trans hw301_4)⟩ (fun hHeld => ?_)
             clear hK K
             refine norm_ (a' := ?_) ?_ ?_
             rotate_left
             ·show Act.put _ (some 79) _ = _
              simp only [Act.put, sA, sB, sC, i64_w, i32_w]; rfl
             refine pure_ (i := 11) (N := some 80) (v := ?_) (a' := ?_) #[true, true, true, true, true, true, true, true, true, true, true, true] rfl rfl (any_of HT_.out (by kernel_rfl)) (fun _ _ _ h => h) (Or.inl ⟨by rfl, ?_⟩) ?_ ?_
             rotate_left
             ·intro w'; go_simp; with_reducible rfl
             rotate_left
             ·simp only [Act.put, sA, sB, sC, i64_w, i32_w]; rfl
             refine done_ (done_of HT_.out (by kernel_rfl)) ?_
             try go_wp2
             go_ret
             exact ⟨by first | rfl | (simp [errW_none, errW_some] <;> rfl) | (simp [*, errW_none, errW_some] <;> rfl), by repeat (first | (with_reducible first | exact HB.out | apply below_alloc | apply pw_below_drewN | apply below_drew1 | refine below_set ?_ GE296.out | refine below_set ?_ GE297.out) | exact HB.out)⟩
           ·rw [if_neg c40] at H
            exact absurd H (by simp)
          ·rw [if_neg c39] at H
           exact absurd H (by simp)
         ·rw [if_neg c38] at H
          have c38b0 : decide (x6_3 < (l0_4.length : Int)) = false := decide_eq_false c38
          clear c38
          obtain rfl := Option.some.inj H
          have hnb51 := NB296_297.out
          have hnc51 := NB297_296.out
          have hcz52_0 : wr.cell? ⟨gb296, 0, none⟩ = some (.int .i64 a0_0) := (blk_cell BK296.out 0).trans rfl
          have hcz52_1 : wr.cell? ⟨gb296, 1, none⟩ = some (.int .i64 a0_1) := (blk_cell BK296.out 1).trans rfl
          have hcz52_2 : wr.cell? ⟨gb296, 2, none⟩ = some (.string a0_2) := (blk_cell BK296.out 2).trans rfl
          have hcz52_3 : wr.cell? ⟨gb296, 3, none⟩ = some (.slice A0_3 l0_3.length c0_3) := (blk_cell BK296.out 3).trans rfl
          have hcz52_4 : wr.cell? ⟨gb296, 4, none⟩ = some (.slice A0_4 l0_4.length c0_4) := (blk_cell BK296.out 4).trans rfl
          have hfz52_0 := blk_frozen BK296.out 0
          have hfz52_1 := blk_frozen BK296.out 1
          have hfz52_2 := blk_frozen BK296.out 2
          have hfz52_3 := blk_frozen BK296.out 3
          have hfz52_4 := blk_frozen BK296.out 4
          go_wp2
          go_ret
          exact ⟨by first | rfl | (simp [errW_none, errW_some] <;> rfl) | (simp [*, errW_none, errW_some] <;> rfl), by repeat (first | (with_reducible first | exact HB.out | apply below_alloc | apply pw_below_drewN | apply below_drew1 | refine below_set ?_ GE296.out | refine below_set ?_ GE297.out) | exact HB.out)⟩
end Go.Proofs.Ytaembebbaejfiaa.PS
namespace Go.Proofs.Ytaembebbaejfiaa.Tr
open Go.RowKit Go.Proofs.YtaembebbaejfiaaW.PrintWords Go.Proofs.YtaembebbaejfiaaW.PrintLast Go.Proofs.Ytaembebbaejfiaa.Str Go.Proofs.Ytaembebbaejfiaa.Kit Go.Proofs.Ytaembebbaejfiaa.MapV Go.Proofs.Ytaembebbaejfiaa.Frame Go.Proofs.Ytaembebbaejfiaa.PS
set_option linter.unusedVariables false
set_option linter.unusedSimpArgs false
inductive Short : VS → Prop
 | mk (x : VS) (hk : x.f3.length ≤ 8796093022000) (hl : x.f4.length ≤ 1759218604400) (hv : ∀ v, v ∈ x.f4 → Short v) : Short x
theorem rdS' {xs : List VS} {i : Nat} (h : i < xs.length) : rd_T25 xs (i : Int) = xs[i] := by
 unfold rd_T25
 simp [List.getD_eq_getElem?_getD, h]
theorem wrapQ (i : Nat) (h : i < 4611686018427387904) : wrap64 ((i : Int) + 1) = ((i + 1 : Nat) : Int) := by unfold wrap64; omega
def SameEv (x : VS) : Prop := Ev (fun k => spec_Same.f k x.f0 x.f1 x.f2 x.f3 x.f4 x.f0 x.f1 x.f2 x.f3 x.f4) true
theorem ev_same_l1 (a b : Int) (c : BA) (ks : List BA) (vs : List VS) (hl : vs.length ≤ 1759218604400) (hch : ∀ v, v ∈ vs → SameEv v) : ∀ (d i : Nat), i + d = vs.length → Ev (fun k => spec_Same.l1 k (i : Int) a b c ks vs a b c ks vs) true := by
 intro d
 induction d with
 | zero =>
  intro i hi
  refine Ev.step (fun k => ?_) (Ev.now _)
  simp only [spec_Same.l1]
  rw [if_neg (by omega)]
 | succ d ih =>
  intro i hi
  have hlt : i < vs.length := by omega
  refine Ev.step (f := fun k => (spec_Same.f k vs[i].f0 vs[i].f1 vs[i].f2 vs[i].f3 vs[i].f4 vs[i].f0 vs[i].f1 vs[i].f2 vs[i].f3 vs[i].f4).bind fun t => if t = true then spec_Same.l1 k ((i + 1 : Nat) : Int) a b c ks vs a b c ks vs else some false) (fun k => ?_) ?_
  ·simp only [spec_Same.l1]
   rw [if_pos (by omega), if_pos (by omega), if_pos (by omega), rdS' hlt, wrapQ i (by omega)]
  ·refine Ev.bind (hch vs[i] (List.getElem_mem hlt)) ?_
   simp only [if_true]
   exact ih (i + 1) (by omega)
theorem ev_same_l0 (a b : Int) (c : BA) (ks : List BA) (vs : List VS) (hk : ks.length ≤ 8796093022000) (hl : vs.length ≤ 1759218604400) (hch : ∀ v, v ∈ vs → SameEv v) : ∀ (d i : Nat), i + d = ks.length → Ev (fun k => spec_Same.l0 k (i : Int) a b c ks vs a b c ks vs) true := by
 intro d
 induction d with
 | zero =>
  intro i hi
  refine Ev.step (f := fun k => spec_Same.l1 k ((0 : Nat) : Int) a b c ks vs a b c ks vs) (fun k => ?_) (ev_same_l1 a b c ks vs hl hch vs.length 0 (by omega))
  simp only [spec_Same.l0]
  rw [if_neg (by omega)]
  rfl
 | succ d ih =>
  intro i hi
  refine Ev.step (f := fun k => spec_Same.l0 k ((i + 1 : Nat) : Int) a b c ks vs a b c ks vs) (fun k => ?_) (ih (i + 1) (by omega))
  simp only [spec_Same.l0]
  rw [if_pos (by omega), if_pos (by omega), if_pos (by omega), if_pos trivial, wrapQ i (by omega)]
theorem ev_same : ∀ x : VS, Short x → SameEv x := by
 intro x hx
 induction hx with
 | mk x hk hl hv ih =>
  obtain ⟨k, n, t, ks, vs⟩ := x
  have h := ev_same_l0 k n t ks vs hk hl ih ks.length 0 (by omega)
  unfold SameEv
  refine Ev.step (f := fun j => spec_Same.j0 j false k n t ks vs k n t ks vs) (fun j => ?_) (Ev.step (f := fun j => spec_Same.l0 j ((0 : Nat) : Int) k n t ks vs k n t ks vs) (fun j => ?_) h)
  ·simp only [spec_Same.f, if_true, bne_self_eq_false]
  ·simp only [spec_Same.j0, if_false, Bool.false_eq_true]
   rfl
end Go.Proofs.Ytaembebbaejfiaa.Tr
namespace Go.Proofs.Ytaembebbaejfiaa.Tr
open Go.RowKit Go.Proofs.YtaembebbaejfiaaW.PrintWords Go.Proofs.YtaembebbaejfiaaW.PrintLast Go.Proofs.Ytaembebbaejfiaa.Str Go.Proofs.Ytaembebbaejfiaa.Kit Go.Proofs.Ytaembebbaejfiaa.MapV Go.Proofs.Ytaembebbaejfiaa.Frame Go.Proofs.Ytaembebbaejfiaa.PS
set_option linter.unusedVariables false
set_option linter.unusedSimpArgs false
theorem nilC {α : Type} (d : Kd α) (w : World) (A : Option Addr) : d.C w A 0 [] := ⟨rfl, Nat.zero_le _, fun h => absurd h (Nat.lt_irrefl 0)⟩
abbrev kFix (w : World) : Kd VS := held 5 (fun x cs => kS.K w x cs) (fun hp => kS.K_len hp) (fun hp => kS.K_one hp)
structure Reads (w : World) (x : VS) (A3 : Option Addr) (c3 : Nat) (A4 : Option Addr) (c4 : Nat) : Prop where
 l3 : x.f3.length ≤ c3
 hk : Kd.string.C w A3 x.f3.length x.f3
 l4 : x.f4.length ≤ c4
 hv : kS.C w A4 x.f4.length x.f4
theorem Reads.below {w w1 : World} {x : VS} {A3 A4 : Option Addr} {c3 c4 : Nat} (h : Reads w x A3 c3 A4 c4) (hb : Below w.heap.size w w1) : Reads w1 x A3 c3 A4 c4 := ⟨h.l3, Kd.C_below h.hk hb, h.l4, Kd.C_below h.hv hb⟩
def Gives (x : VS) (w : World) (e : Ending) (w' : World) : Prop := ∃ A3 c3 A4 c4, e = .returned (.agg #[.int .i64 x.f0, .int .i64 x.f1, .string x.f2, .slice A3 x.f3.length c3, .slice A4 x.f4.length c4]) ∧ Reads w' x A3 c3 A4 c4 ∧ Below w.heap.size w w'
theorem fix_reads {W w : World} {x : VS} {v3 v4 : Value} {b3 b4 : Nat} {ok3 ok4 : Nat → Prop} (hb : Below W.heap.size W w) (h3 : Kd.string.R 9 w b3 ok3 v3 x.f3) (h4 : (kFix W).R 25 w b4 ok4 v4 x.f4) : ∃ A3 c3 A4 c4, v3 = .slice A3 x.f3.length c3 ∧ v4 = .slice A4 x.f4.length c4 ∧ Reads w x A3 c3 A4 c4 := by
 obtain ⟨B3, d3, rfl, m3, g3⟩ := Kd.R_reads h3
 obtain ⟨B4, d4, rfl, m4, g4⟩ := Kd.R_reads h4
 exact ⟨B3, d3, B4, d4, rfl, rfl, m3, g3, m4, ReadsRow.imp_ g4 (Below.refl _ _) (fun _ _ hp => kS.K_below hb hp)⟩
abbrev zC : Array Value := #[.int .i64 0, .int .i64 0, .string ⟨#[]⟩, .slice none 0 0, .slice none 0 0]
theorem empty_gives (w : World) : Calls Try.prog 24 #[] w fun e w' => e = .returned (.agg #[.int .i64 5, .int .i64 0, .string ⟨#[]⟩, .slice none 0 0, .slice none 0 0]) ∧ Below w.heap.size w w' := by
 have h0 := cb_new w (.cells #[.int .i64 0, .int .i64 0, .string ⟨#[]⟩, .slice none 0 0, .slice none 0 0] 25)
 have HB := aM ((Below.refl _ w).alloc (Nat.le_refl _) (.cells #[.int .i64 0, .int .i64 0, .string ⟨#[]⟩, .slice none 0 0, .slice none 0 0] 25))
 go_enter Try.func24, Try.ntmps24
 go_wp2_with (refine store_val (.tmp 0) (.tmp 1) rfl rfl rfl rfl h0 ?_)
 exact bodyPost_ret (v := .agg #[.int .i64 5, .int .i64 0, .string ⟨#[]⟩, .slice none 0 0, .slice none 0 0]) (val_result rfl rfl (setRow_heap _ _ _ _ _ _ h0)) rfl ⟨rfl, pw_below_grown HB.out (some w.heap.size) HB.out.size (grown_setRow _ w.heap.size _) (fun k hk => by injection hk with hk; have h2 : w.heap.size = k := hk; omega)⟩
theorem fits_reads (x : VS) (A3 A4 : Option Addr) (c3 c4 : Nat) (w : World) (h : Reads w x A3 c3 A4 c4) :
  Calls Try.prog 6 #[.agg #[.int .i64 x.f0, .int .i64 x.f1, .string x.f2, .slice A3 x.f3.length c3, .slice A4 x.f4.length c4]] w fun e w' => ∃ b, e = .returned (.bool b) ∧ Below w.heap.size w w' := by
 obtain ⟨b, hb⟩ := ev_zzFits1 x
 obtain ⟨k, hk⟩ := hb.rounds
 refine (laws_zzFits1.calls k x.f0 x.f1 x.f2 A3 c3 x.f3 A4 c4 x.f4 b w h.hk h.l3 h.hv h.l4 hk).mono ?_
 rintro e w1 ⟨rfl, hb1⟩
 exact ⟨b, rfl, hb1⟩
def GivesS (x : VS) (w : World) (e : Ending) (w' : World) : Prop := ∃ A3 c3 A4 c4, e = .returned (.agg #[.int .i64 x.f0, .int .i64 x.f1, .string x.f2, .slice A3 x.f3.length c3, .slice A4 x.f4.length c4]) ∧ (∀ W : World, (∀ k, w.heap.size ≤ k → k < w'.heap.size → W.heap[k]? = w'.heap[k]?) → Reads W x A3 c3 A4 c4) ∧ Below w.heap.size w w'
theorem fit_gives (x : VS) (hx : SmallS x) (A3 A4 : Option Addr) (c3 c4 : Nat) (w : World) (h : Reads w x A3 c3 A4 c4) :
  Calls Try.prog 7 #[.agg #[.int .i64 x.f0, .int .i64 x.f1, .string x.f2, .slice A3 x.f3.length c3, .slice A4 x.f4.length c4]] w (GivesS (fitV x) w) := by
 have hF := ev_Fit x hx
 unfold FitEv at hF
 obtain ⟨k, hk⟩ := hF.rounds
 refine (spec_Fit.calls k x.f0 x.f1 x.f2 A3 c3 x.f3 A4 c4 x.f4 _ _ _ _ _ w h.hk h.l3 h.hv h.l4 hk).mono ?_
 rintro e w1 ⟨v3, v4, rfl, hr3, hr4, hb⟩
 obtain ⟨B3, d3, rfl⟩ := Kd.R_slice hr3
 obtain ⟨B4, d4, rfl⟩ := Kd.N_slice hr4
 refine ⟨B3, d3, B4, d4, rfl, fun W hW => ?_, hb⟩
 have h3 := Kd.R_reads' (Kd.R_step hr3 (fun k hk hl => hW k hk hl))
 have h4 := Kd.N_reads' (Kd.N_step hr4 (fun k hk hl => hW k hk.1 hl))
 exact ⟨h3.2.1, h3.2.2, h4.2.1, h4.2.2⟩
theorem SmallS.short {x : VS} (h : SmallS x) : Short x := by
 induction h with
 | mk x ht hk hkl hvl hv ih => exact .mk x hkl hvl ih
theorem SmallS.at {x v : VS} (h : SmallS x) (hv : v ∈ x.f4) : SmallS v := by
 cases h with
 | mk _ _ _ _ _ h => exact h v hv
theorem SmallS.keyIn {x : VS} (h : SmallS x) {s : BA} (hs : s ∈ x.f3) : s.size ≤ maxLen := by
 cases h with
 | mk _ _ hk _ _ _ => exact hk s hs
theorem SmallS.vals {x : VS} (h : SmallS x) : x.f4.length ≤ 1759218604400 := by
 cases h with
 | mk _ _ _ _ h _ => exact h
theorem Canon.inStep {x : VS} (h : Canon x) (hs : SmallS x) : InStep x := by
 have hv := hs.vals
 cases h with
 | map ks vs hr hl h => exact ⟨Nat.le_of_eq hl, by show ks.length < _; have : vs.length ≤ 1759218604400 := hv; omega⟩
 | _ => exact ⟨Nat.zero_le _, by simp [leaf]⟩
theorem Canon.at {x v : VS} (h : Canon x) (hv : v ∈ x.f4) : Canon v := by
 cases h with
 | list l h => exact h v hv
 | map ks vs hr hl h => exact h v hv
 | _ => cases hv
theorem Canon.is_text {x : VS} (h : Canon x) (h3 : x.f0 = 3) : x = leaf 3 0 x.f2 := by
 cases h with
 | text s => rfl
 | _ => first | (simp [leaf] at h3; done) | (exfalso; revert h3; decide)
end Go.Proofs.Ytaembebbaejfiaa.Tr
namespace Go.Proofs.Ytaembebbaejfiaa.Tr
open Go.RowKit Go.Proofs.YtaembebbaejfiaaW.PrintWords Go.Proofs.YtaembebbaejfiaaW.PrintLast Go.Proofs.Ytaembebbaejfiaa.Str Go.Proofs.Ytaembebbaejfiaa.Kit Go.Proofs.Ytaembebbaejfiaa.MapV Go.Proofs.Ytaembebbaejfiaa.Frame Go.Proofs.Ytaembebbaejfiaa.PS
set_option linter.unusedVariables false
set_option linter.unusedSimpArgs false
end Go.Proofs.Ytaembebbaejfiaa.Tr
namespace Go.Proofs.Ytaembebbaejfiaa.PS
open Go.RowKit Go.Proofs.YtaembebbaejfiaaW.PrintWords Go.Proofs.YtaembebbaejfiaaW.PrintLast Go.Proofs.YtaembebbaejfiaaW.PrintMore
attribute [local go_sem] max2_int min2_int max_two min_two max_three min_three max_four min_four 
set_option linter.unusedVariables false
set_option linter.unusedSimpArgs false
def spec_mergeSplit.l0 : Nat → ByteArray → Int → Option (ByteArray × Int × Int × ByteArray × List ByteArray × (List (S25)))
 | 0, _, _ => none
 | k + 1, x0, x4 => if x4 < (x0.size : Int) then (if 0 ≤ x4 then (if (bt x0 x4) = 61 then (if x4 ≤ (x0.size : Int) then (if 0 ≤ (wrap64 (x4 + 1)) then (if (wrap64 (x4 + 1)) ≤ (x0.size : Int) then ((spec_T.f (x0.extract ((wrap64 (x4 + 1)) : Int).toNat x0.size)).bind fun bt474 => (some (x0.extract 0 (x4 : Int).toNat, bt474.1, bt474.2.1, bt474.2.2.1, bt474.2.2.2.1, bt474.2.2.2.2))) else (none)) else (none)) else (none)) else (spec_mergeSplit.l0 k x0 (wrap64 (x4 + 1)))) else (none)) else (some (x0, 0, 0, (⟨#[]⟩ : ByteArray), ([] : List ByteArray), ([] : List (S25))))
def spec_mergeSplit.f (k : Nat) (a0 : ByteArray) : Option (ByteArray × Int × Int × ByteArray × List ByteArray × (List (S25))) := spec_mergeSplit.l0 k a0 0
def spec_mergeSplit.T5 : Bool × List (List Nat × List Nat) := (true, [([], []), ([], []), ([0, 1], [0, 1]), ([], []), ([], []), ([4], [4]), ([3, 5], [3, 5]), ([6], [6]), ([2, 7, 0, 1, 2], [2]), ([7, 8, 0, 1, 2, 3, 4, 5, 6, 7, 8], [7])])
def spec_mergeSplit.B5 : List Nat := [0, 0, 3, 0, 0, 16, 56, 120, 255, 511]
theorem spec_mergeSplit.tab5 : rtab .any (opsOf Try.f34 5) = spec_mergeSplit.T5 := by kernel_rfl
theorem spec_mergeSplit.bits5 : waitsOk spec_mergeSplit.T5.2 spec_mergeSplit.B5 = true := by kernel_rfl
set_option maxHeartbeats 8000000 in
set_option maxRecDepth 100000 in
theorem spec_mergeSplit.calls (k : Nat) (a0 : ByteArray) (r1 : ByteArray) (r2 : Int) (r3 : Int) (r4 : ByteArray) (r5 : List ByteArray) (r6 : List (S25)) (w : World) (h : spec_mergeSplit.f k a0 = some (r1, r2, r3, r4, r5, r6)) :
  Calls Try.prog 34 #[.string a0] w fun e w' => ∃ v4_ v5_ : Value, e = .returned (.tuple #[.string r1, .agg #[.int .i64 r2, .int .i64 r3, .string r4, v4_, v5_]]) ∧ Kd.R Kd.string 9 w' w.heap.size (fun _ => True) v4_ r5 ∧ Kd.R k25 25 w' w.heap.size (fun k_ => some k_ ≠ (v4_ : Value).ownBlock) v5_ r6 ∧ Below w.heap.size w w' := by
 have hu25 := Try.underlying25
 have HB := aM (Below.refl w.heap.size w)
 have H : (spec_mergeSplit.l0 k a0 0) = some (r1, r2, r3, r4, r5, r6) := h
 clear h
 have H' := aM H
 clear H
 go_enter Try.func34, Try.ntmps34
 go_wp2_with (first | ((with_reducible refine gate_dst (N := 3) rfl ?_); refine box_event ?hg (N := 3) ?hd (cs := #[.int .i64 0, .int .i64 0, .string (⟨#[]⟩ : ByteArray), .slice none 0 0, .slice none 0 0]) (t := 25) ?hr ?_; (case hd => rfl); (case hg => rfl); (case hr => first | (go_simp; done) | (go_simp; rfl)); intro gb473 hg w2 hbox hb; have n0_ := aM (below_step (by repeat (first | (with_reducible first | exact HB.out | apply below_alloc | apply pw_below_drewN | apply below_drew1) | exact HB.out)) hb); have n1_ := aM (hbox); have n2_ := aM ((by rw [hg]; exact (below_size (by repeat (first | (with_reducible first | exact HB.out | apply below_alloc | apply pw_below_drewN | apply below_drew1) | exact HB.out))) : w.heap.size ≤ gb473)); have n3_ := aM ((by rw [hg]; exact (below_size (by repeat (first | (with_reducible first | exact HB.out | apply below_alloc | apply pw_below_drewN | apply below_drew1) | exact HB.out))) : w.heap.size ≤ gb473)); clear HB; have HB := n0_; have BK473 := n1_; have GW473 := n2_; have GE473 := n3_; clear n0_ n1_ n2_ n3_; clear hb hbox hg))
 go_loopg [4] k (fun kq v4 w' => ∃ (x4_1 : Int) (x474000_1 : Int) (x474001_1 : Int) (x474002_1 : ByteArray), v4 = .int .i64 x4_1 ∧ Aside0 (spec_mergeSplit.l0 kq a0 x4_1 = some (r1, r2, r3, r4, r5, r6)) ∧ Aside0 (kq ≤ k) ∧ Aside0 (w'.heap[gb473]? = some (.cells #[.int .i64 x474000_1, .int .i64 x474001_1, .string x474002_1, (.slice none 0 0), (.slice none 0 0)] 25 (0, 0))) ∧ Aside0 (Below w.heap.size w w'))
 case atStart => exact ⟨(0), (0), (0), ((⟨#[]⟩ : ByteArray)), (by first | rfl | (simp; done) | (simp [*]; done)), H', ⟨Nat.le_refl _⟩, ⟨by (with_reducible repeat (first | refine blk_drewN ?_ _ | refine blk_drew ?_ | refine blk_alloc ?_ _)); exact BK473.out⟩, ⟨by repeat (first | (with_reducible first | exact HB.out | apply below_alloc | apply pw_below_drewN | apply below_drew1 | refine below_set ?_ GE473.out) | exact HB.out)⟩⟩
 case round =>
  clear H'
  try clear p2
  obtain ⟨x4_1, x474000_1, x474001_1, x474002_1, rfl, HA, HK1, BK473, HB⟩ := hrel
  cases gk with
  | zero => exact absurd HA.out (by simp [spec_mergeSplit.l0])
  | succ k1 =>
   have H := HA.out
   clear HA
   simp only [spec_mergeSplit.l0] at H
   by_cases c3 : x4_1 < (a0.size : Int)
   ·rw [if_pos c3] at H
    have c3b0 : decide (x4_1 < (a0.size : Int)) = true := decide_eq_true c3
    clear c3
    by_cases c4 : 0 ≤ x4_1
    ·rw [if_pos c4] at H
     have c4b0 : decide (0 ≤ x4_1) = true := decide_eq_true c4
     clear c4
     by_cases c6 : (bt a0 x4_1) = 61
     ·rw [if_pos c6] at H
      have c6b0 : ((bt a0 x4_1) == 61) = true := beq_iff_eq.mpr c6
      have c6b1 : ((bt a0 x4_1) != 61) = false := bne_eq_false_iff_eq.mpr c6
      clear c6
      have c7b0 := eq_true (of_decide_eq_true (by first | (with_reducible assumption) | assumption) : 0 ≤ x4_1)
      by_cases c8 : x4_1 ≤ (a0.size : Int)
      ·rw [if_pos c8] at H
       have c8b0 := eq_true c8
       have c8b1 : decide (x4_1 ≤ (a0.size : Int)) = true := decide_eq_true c8
       clear c8
       obtain ⟨ji9, hji9⟩ : ∃ j_ : Int, (wrap64 (x4_1 + 1)) = j_ := ⟨_, rfl⟩
       replace H : (if 0 ≤ (ji9) then (if (ji9) ≤ (a0.size : Int) then ((spec_T.f (a0.extract ((ji9) : Int).toNat a0.size)).bind fun bt474 => (some (a0.extract 0 (x4_1 : Int).toNat, bt474.1, bt474.2.1, bt474.2.2.1, bt474.2.2.2.1, bt474.2.2.2.2))) else (none)) else (none)) = some (r1, r2, r3, r4, r5, r6) := by first | (rw [hji9] at H; exact H) | (simp only [hji9] at H ⊢; exact H)
       have hji9w : (IntKind.i64.wrap (x4_1 + 1)) = ji9 := (i64_w _).trans hji9
       by_cases c10 : 0 ≤ (ji9)
       ·rw [if_pos c10] at H
        have c10b0 := eq_true c10
        have c10b1 : decide (0 ≤ (ji9)) = true := decide_eq_true c10
        clear c10
        by_cases c11 : (ji9) ≤ (a0.size : Int)
        ·rw [if_pos c11] at H
         have c11b0 := eq_true c11
         have c11b1 : decide ((ji9) ≤ (a0.size : Int)) = true := decide_eq_true c11
         clear c11
         replace H := Option.bind_eq_some_iff.mp H
         obtain ⟨⟨t474, t475, t476, t477, t480⟩, A120, H⟩ := H
         replace H : (some (a0.extract 0 (x4_1 : Int).toNat, t474, t475, t476, t477, t480)) = some (r1, r2, r3, r4, r5, r6) := H
         have A12 := aM A120
         clear A120
         simp only [Option.some.injEq, Prod.mk.injEq] at H
         obtain ⟨rfl, rfl, rfl, rfl, rfl, rfl⟩ := H
         have p5 : 0 ≤ (x4_1 : Int) := of_decide_eq_true (by first | (with_reducible assumption) | assumption)
         have q5 : x4_1 < (a0.size : Int) := of_decide_eq_true (by first | (with_reducible assumption) | assumption)
         have hx5 := bt_at a0 x4_1
         replace p5 := eq_true p5
         replace q5 := eq_true q5
         try go_wp2
         have n0_ := aM (blk_drew BK473.out)
         have n1_ := aM (below_drew1 HB.out)
         clear BK473 HB; have BK473 := n0_; have HB := n1_; clear n0_ n1_
         refine start_ (n := 10) (S := fun w' => True) (ds := []) #[false, false, false, false, false, false, false, false, false, false] (by kernel_rfl) rfl rfl trivial (fun hHeld => ?_); refine with_tabW spec_mergeSplit.tab5 spec_mergeSplit.bits5 (fun HT_ HW_ => ?_)
         generalize wr.drew = w13 at BK473 HB hHeld ⊢
         refine pure_ (i := 0) (N := some 15) (v := ?_) (a' := ?_) #[true, false, false, false, false, false, false, false, false, false] rfl rfl (any_of HT_.out (by kernel_rfl)) (fun _ _ _ h => h) (Or.inl ⟨by rfl, ?_⟩) ?_ ?_
         rotate_left
         ·intro w'; go_simp; with_reducible rfl
         rotate_left
         ·simp only [Act.put, sA, sB, sC, i64_w, i32_w]; rfl
         refine pure_ (i := 1) (N := some 16) (v := ?_) (a' := ?_) #[true, true, false, false, false, false, false, false, false, false] rfl rfl (any_of HT_.out (by kernel_rfl)) (fun _ _ _ h => h) (Or.inl ⟨by rfl, ?_⟩) ?_ ?_
         rotate_left
         ·intro w'; go_simp; with_reducible rfl
         rotate_left
         ·simp only [Act.put, sA, sB, sC, i64_w, i32_w]; rfl
         refine pure_ (i := 2) (N := some 17) (v := ?_) (a' := ?_) #[true, true, true, false, false, false, false, false, false, false] rfl rfl (any_of HT_.out (by kernel_rfl)) (fun _ _ _ h => h) (Or.inl ⟨by rfl, ?_⟩) ?_ ?_
         rotate_left
         ·intro w'; go_simp; with_reducible rfl
         rotate_left
         ·simp only [Act.put, sA, sB, sC, i64_w, i32_w]; rfl
         refine pure_ (i := 3) (N := some 18) (v := ?_) (a' := ?_) #[true, true, true, true, false, false, false, false, false, false] rfl rfl (any_of HT_.out (by kernel_rfl)) (fun _ _ _ h => h) (Or.inl ⟨by rfl, ?_⟩) ?_ ?_
         rotate_left
         ·intro w'; go_simp; with_reducible rfl
         rotate_left
         ·simp only [Act.put, sA, sB, sC, i64_w, i32_w]; rfl
         refine pure_ (i := 4) (N := some 19) (v := ?_) (a' := ?_) #[true, true, true, true, true, false, false, false, false, false] rfl rfl (any_of HT_.out (by kernel_rfl)) (fun _ _ _ h => h) (Or.inl ⟨by rfl, ?_⟩) ?_ ?_
         rotate_left
         ·intro w'; go_simp; with_reducible rfl
         rotate_left
         ·simp only [Act.put, sA, sB, sC, i64_w, i32_w]; rfl
         refine pure_ (i := 5) (N := some 20) (v := ?_) (a' := ?_) #[true, true, true, true, true, true, false, false, false, false] rfl rfl (any_of HT_.out (by kernel_rfl)) (fun _ _ _ h => h) (Or.inl ⟨by rfl, ?_⟩) ?_ ?_
         rotate_left
         ·intro w'; go_simp; with_reducible rfl
         rotate_left
         ·simp only [Act.put, sA, sB, sC, i64_w, i32_w]; rfl
         refine pure_ (i := 6) (N := some 21) (v := ?_) (a' := ?_) #[true, true, true, true, true, true, true, false, false, false] rfl rfl (any_of HT_.out (by kernel_rfl)) (fun _ _ _ h => h) (Or.inl ⟨by rfl, ?_⟩) ?_ ?_
         rotate_left
         ·intro w'; go_simp; with_reducible rfl
         rotate_left
         ·simp only [Act.put, sA, sB, sC, i64_w, i32_w]; rfl
         refine one_ (i := 7) (N := some 22) #[true, true, true, true, true, true, true, true, false, false] rfl rfl (one_of HT_.out (by kernel_rfl)) (by decide) (fun K hK => ?_)
         refine goes_ Try.func14 (by kernel_rfl) rfl #[.string (a0.extract ((ji9) : Int).toNat a0.size)] (by rfl) rfl rfl (by (try simp only [List.map_toArray, List.map_cons, List.map_nil]); first | done | (simp only [hji9]; rfl) | rfl | (simp only [List.length_drop, List.length_take]; rfl)) ?_
         with_reducible refine (spec_T.calls (a0.extract ((ji9) : Int).toNat a0.size) t474 t475 t476 t477 t480 _ A12.out).mono ?_
         rintro e w14 ⟨v478, v481, rfl, ho0, ho1, hb⟩
         refine ⟨_, rfl, ?_⟩
         have n0_ := aM (Kd.R_lower ho0 (below_size (by repeat (first | (with_reducible first | exact HB.out | apply below_alloc | apply pw_below_drewN | apply below_drew1 | refine below_set ?_ GE473.out) | exact HB.out))))
         have n1_ := aM (Kd.R_lower (Kd.R_newB ho1 (g := gb473) (o := .cells #[.int .i64 x474000_1, .int .i64 x474001_1, .string x474002_1, .slice none 0 0, .slice none 0 0] 25 (0, 0)) (by (with_reducible repeat (first | refine blk_drewN ?_ _ | refine blk_drew ?_ | refine blk_alloc ?_ _)); exact BK473.out)) (below_size (by repeat (first | (with_reducible first | exact HB.out | apply below_alloc | apply pw_below_drewN | apply below_drew1 | refine below_set ?_ GE473.out) | exact HB.out))))
         have n2_ := aM (blk_below (g := gb473) (o := .cells #[.int .i64 x474000_1, .int .i64 x474001_1, .string x474002_1, .slice none 0 0, .slice none 0 0] 25 (0, 0)) (by (with_reducible repeat (first | refine blk_drewN ?_ _ | refine blk_drew ?_ | refine blk_alloc ?_ _)); exact BK473.out) hb)
         have n3_ := aM (below_step (by repeat (first | (with_reducible first | exact HB.out | apply below_alloc | apply pw_below_drewN | apply below_drew1 | refine below_set ?_ GE473.out) | exact HB.out)) hb)
         clear BK473 HB; have HO479 := n0_; have HO482 := n1_; have BK473 := n2_; have HB := n3_; clear n0_ n1_ n2_ n3_
         (try clear hb)
         (try clear hb2)
         (try clear hk)
         (try clear hi)
         (try clear ho0)
         (try clear ho1)
         obtain ⟨Ao18, co18, eo18⟩ := Kd.R_slice HO479.out
         (first | subst eo18 | (injection eo18 with f1_ f2_ f3_; have f4_ := f1_.symm; have f5_ := f3_.symm; clear f1_ f2_ f3_; subst f4_; subst f5_))
         obtain ⟨Ao20, co20, eo20⟩ := Kd.R_slice HO482.out
         (first | subst eo20 | (injection eo20 with f1_ f2_ f3_; have f4_ := f1_.symm; have f5_ := f3_.symm; clear f1_ f2_ f3_; subst f4_; subst f5_))
         refine hK.out _ _ trivial (fun hHeld => ?_)
         clear hK K
         refine norm_ (a' := ?_) ?_ ?_
         rotate_left
         ·show Act.put _ (some 22) _ = _
          simp only [Act.put, sA, sB, sC, i64_w, i32_w]; rfl
         refine pure_ (i := 8) (N := some 2) (v := ?_) (a' := ?_) #[true, true, true, true, true, true, true, true, true, false] rfl rfl (any_of HT_.out (by kernel_rfl)) (fun _ _ _ h => h) (Or.inl ⟨by rfl, ?_⟩) ?_ ?_
         rotate_left
         ·intro w'; go_simp; with_reducible rfl
         rotate_left
         ·simp only [Act.put, sA, sB, sC, i64_w, i32_w]; rfl
         refine one_ (i := 9) (N := none) #[true, true, true, true, true, true, true, true, true, true] rfl rfl (one_of HT_.out (by kernel_rfl)) (by decide) (fun K hK => ?_)
         have hs15 : w14.cell? ⟨gb473, 0, none⟩ = some (.int .i64 x474000_1) := (blk_cell BK473.out 0).trans rfl
         have hfs15 := blk_frozen BK473.out 0
         have hs16 : w14.cell? ⟨gb473, 1, none⟩ = some (.int .i64 x474001_1) := (blk_cell BK473.out 1).trans rfl
         have hfs16 := blk_frozen BK473.out 1
         have hs17 : w14.cell? ⟨gb473, 2, none⟩ = some (.string x474002_1) := (blk_cell BK473.out 2).trans rfl
         have hfs17 := blk_frozen BK473.out 2
         have hs19 : w14.cell? ⟨gb473, 3, none⟩ = some (.slice none 0 0) := (blk_cell BK473.out 3).trans rfl
         have hfs19 := blk_frozen BK473.out 3
         have hs21 : w14.cell? ⟨gb473, 4, none⟩ = some (.slice none 0 0) := (blk_cell BK473.out 4).trans rfl
         have hfs21 := blk_frozen BK473.out 4
         refine skip_ (w1 := ?_) (by rfl) rfl ?_ ?_
         rotate_left
         ·go_simp; rfl
         refine hK.out _ _ trivial (fun hHeld => ?_)
         clear hK K
         refine done_ (done_of HT_.out (by kernel_rfl)) ?_
         try go_wp2
         refine bodyPost_ret (results_tc rfl _ _ gb473 25 #[.int .i64 t474, .int .i64 t475, .string t476, .slice Ao18 t477.length co18, .slice Ao20 t480.length co20] (0, 0) _ rfl (by (with_reducible repeat (first | refine blk_drewN ?_ _ | refine blk_drew ?_ | refine blk_alloc ?_ _)); refine blk_put (cs := #[.int .i64 t474, .int .i64 t475, .string t476, .slice Ao18 t477.length co18, .slice none 0 0]) ?_ 4 _ rfl; (with_reducible repeat (first | refine blk_drewN ?_ _ | refine blk_drew ?_ | refine blk_alloc ?_ _)); refine blk_put (cs := #[.int .i64 t474, .int .i64 t475, .string t476, .slice none 0 0, .slice none 0 0]) ?_ 3 _ rfl; (with_reducible repeat (first | refine blk_drewN ?_ _ | refine blk_drew ?_ | refine blk_alloc ?_ _)); refine blk_put (cs := #[.int .i64 t474, .int .i64 t475, .string x474002_1, .slice none 0 0, .slice none 0 0]) ?_ 2 _ rfl; (with_reducible repeat (first | refine blk_drewN ?_ _ | refine blk_drew ?_ | refine blk_alloc ?_ _)); refine blk_put (cs := #[.int .i64 t474, .int .i64 x474001_1, .string x474002_1, .slice none 0 0, .slice none 0 0]) ?_ 1 _ rfl; (with_reducible repeat (first | refine blk_drewN ?_ _ | refine blk_drew ?_ | refine blk_alloc ?_ _)); refine blk_put (cs := #[.int .i64 x474000_1, .int .i64 x474001_1, .string x474002_1, .slice none 0 0, .slice none 0 0]) ?_ 0 _ rfl; (with_reducible repeat (first | refine blk_drewN ?_ _ | refine blk_drew ?_ | refine blk_alloc ?_ _)); exact BK473.out) Try.underlying25 rfl (by kernel_rfl)) rfl ?_
         exact ⟨_, _, by first | rfl | (simp [errW_none, errW_some] <;> rfl) | (simp only [← hji9]; first | rfl | (simp [errW_none, errW_some] <;> rfl)) | (simp [*, errW_none, errW_some] <;> rfl), by (with_reducible repeat (first | apply Kd.R_alloc | apply Kd.R_drewN | apply Kd.R_drew)); exact Kd.R_mono (Kd.R_far (p := ⟨gb473, 4, none⟩) (Kd.R_far (p := ⟨gb473, 3, none⟩) (Kd.R_far (p := ⟨gb473, 2, none⟩) (Kd.R_far (p := ⟨gb473, 1, none⟩) (Kd.R_far (p := ⟨gb473, 0, none⟩) (Kd.R_types HO479.out BK473.out (by decide)) (fun _ hk => hk.2) (.int .i64 t474)) (fun _ hk => hk.2) (.int .i64 t475)) (fun _ hk => hk.2) (.string t476)) (fun _ hk => hk.2) (.slice Ao18 t477.length co18)) (fun _ hk => hk.2) (.slice Ao20 t480.length co20)) (fun _ hk => trivial), by (with_reducible repeat (first | apply Kd.R_alloc | apply Kd.R_drewN | apply Kd.R_drew)); exact Kd.R_mono (Kd.R_far (p := ⟨gb473, 4, none⟩) (Kd.R_far (p := ⟨gb473, 3, none⟩) (Kd.R_far (p := ⟨gb473, 2, none⟩) (Kd.R_far (p := ⟨gb473, 1, none⟩) (Kd.R_far (p := ⟨gb473, 0, none⟩) (Kd.R_mono HO482.out (fun k_ hk => (⟨hk, hk.2⟩ : _ ∧ k_ ≠ gb473))) (fun _ hk => hk.2) (.int .i64 t474)) (fun _ hk => hk.2) (.int .i64 t475)) (fun _ hk => hk.2) (.string t476)) (fun _ hk => hk.2) (.slice Ao18 t477.length co18)) (fun _ hk => hk.2) (.slice Ao20 t480.length co20)) (fun _ hk => hk.1.1), by repeat (first | (with_reducible first | exact HB.out | apply below_alloc | apply pw_below_drewN | apply below_drew1 | refine below_set ?_ GE473.out) | exact HB.out)⟩
        ·rw [if_neg c11] at H
         exact absurd H (by simp)
       ·rw [if_neg c10] at H
        exact absurd H (by simp)
      ·rw [if_neg c8] at H
       exact absurd H (by simp)
     ·rw [if_neg c6] at H
      have c6b0 : ((bt a0 x4_1) == 61) = false := beq_eq_false_iff_ne.mpr c6
      have c6b1 : ((bt a0 x4_1) != 61) = true := bne_iff_ne.mpr c6
      have H' := aM H
      clear H
      have p5 : 0 ≤ (x4_1 : Int) := of_decide_eq_true (by first | (with_reducible assumption) | assumption)
      have q5 : x4_1 < (a0.size : Int) := of_decide_eq_true (by first | (with_reducible assumption) | assumption)
      have hx5 := bt_at a0 x4_1
      replace p5 := eq_true p5
      replace q5 := eq_true q5
      go_wp2
      go_roundg k1
      case measure => have := HK1.out; omega
      case rel => exact ⟨(wrap64 (x4_1 + 1)), (x474000_1), (x474001_1), (x474002_1), (by first | rfl | (simp; done) | (simp [*]; done)), H', ⟨by have := HK1.out; omega⟩, ⟨by (with_reducible repeat (first | refine blk_drewN ?_ _ | refine blk_drew ?_ | refine blk_alloc ?_ _)); exact BK473.out⟩, ⟨by repeat (first | (with_reducible first | exact HB.out | apply below_alloc | apply pw_below_drewN | apply below_drew1 | refine below_set ?_ GE473.out) | exact HB.out)⟩⟩
    ·rw [if_neg c4] at H
     exact absurd H (by simp)
   ·rw [if_neg c3] at H
    have c3b0 : decide (x4_1 < (a0.size : Int)) = false := decide_eq_false c3
    clear c3
    simp only [Option.some.injEq, Prod.mk.injEq] at H
    obtain ⟨rfl, rfl, rfl, rfl, rfl, rfl⟩ := H
    have hcz22_0 : wr.cell? ⟨gb473, 0, none⟩ = some (.int .i64 x474000_1) := (blk_cell BK473.out 0).trans rfl
    have hcz22_1 : wr.cell? ⟨gb473, 1, none⟩ = some (.int .i64 x474001_1) := (blk_cell BK473.out 1).trans rfl
    have hcz22_2 : wr.cell? ⟨gb473, 2, none⟩ = some (.string x474002_1) := (blk_cell BK473.out 2).trans rfl
    have hcz22_3 : wr.cell? ⟨gb473, 3, none⟩ = some (.slice none 0 0) := (blk_cell BK473.out 3).trans rfl
    have hcz22_4 : wr.cell? ⟨gb473, 4, none⟩ = some (.slice none 0 0) := (blk_cell BK473.out 4).trans rfl
    have hfz22_0 := blk_frozen BK473.out 0
    have hfz22_1 := blk_frozen BK473.out 1
    have hfz22_2 := blk_frozen BK473.out 2
    have hfz22_3 := blk_frozen BK473.out 3
    have hfz22_4 := blk_frozen BK473.out 4
    go_wp2
    refine bodyPost_ret (results_tc rfl _ _ gb473 25 #[.int .i64 0, .int .i64 0, .string (⟨#[]⟩ : ByteArray), .slice none 0 0, .slice none 0 0] (0, 0) _ rfl (by (with_reducible repeat (first | refine blk_drewN ?_ _ | refine blk_drew ?_ | refine blk_alloc ?_ _)); refine blk_put (cs := #[.int .i64 0, .int .i64 0, .string (⟨#[]⟩ : ByteArray), .slice none 0 0, .slice none 0 0]) ?_ 4 _ rfl; (with_reducible repeat (first | refine blk_drewN ?_ _ | refine blk_drew ?_ | refine blk_alloc ?_ _)); refine blk_put (cs := #[.int .i64 0, .int .i64 0, .string (⟨#[]⟩ : ByteArray), .slice none 0 0, .slice none 0 0]) ?_ 3 _ rfl; (with_reducible repeat (first | refine blk_drewN ?_ _ | refine blk_drew ?_ | refine blk_alloc ?_ _)); refine blk_put (cs := #[.int .i64 0, .int .i64 0, .string x474002_1, .slice none 0 0, .slice none 0 0]) ?_ 2 _ rfl; (with_reducible repeat (first | refine blk_drewN ?_ _ | refine blk_drew ?_ | refine blk_alloc ?_ _)); refine blk_put (cs := #[.int .i64 0, .int .i64 x474001_1, .string x474002_1, .slice none 0 0, .slice none 0 0]) ?_ 1 _ rfl; (with_reducible repeat (first | refine blk_drewN ?_ _ | refine blk_drew ?_ | refine blk_alloc ?_ _)); refine blk_put (cs := #[.int .i64 x474000_1, .int .i64 x474001_1, .string x474002_1, .slice none 0 0, .slice none 0 0]) ?_ 0 _ rfl; (with_reducible repeat (first | refine blk_drewN ?_ _ | refine blk_drew ?_ | refine blk_alloc ?_ _)); exact BK473.out) Try.underlying25 rfl (by kernel_rfl)) rfl ?_
    exact ⟨_, _, by first | rfl | (simp [errW_none, errW_some] <;> rfl) | (simp [*, errW_none, errW_some] <;> rfl), by first | exact Kd.R_nil _ _ _ _ _ | exact Kd.N_nil _ _ _ _ _ | exact Kd.V_nil _ _ _ _ _ | exact Kd.Q_nil _ _ _ _ _ | exact Kd.S_nil _ _ _ _ _, by first | exact Kd.R_nil _ _ _ _ _ | exact Kd.N_nil _ _ _ _ _ | exact Kd.V_nil _ _ _ _ _ | exact Kd.Q_nil _ _ _ _ _ | exact Kd.S_nil _ _ _ _ _, by repeat (first | (with_reducible first | exact HB.out | apply below_alloc | apply pw_below_drewN | apply below_drew1 | refine below_set ?_ GE473.out) | exact HB.out)⟩
end Go.Proofs.Ytaembebbaejfiaa.PS
namespace Go.Proofs.Ytaembebbaejfiaa.PS
open Go.RowKit Go.Proofs.YtaembebbaejfiaaW.PrintWords Go.Proofs.YtaembebbaejfiaaW.PrintLast Go.Proofs.YtaembebbaejfiaaW.PrintMore
attribute [local go_sem] max2_int min2_int max_two min_two max_three min_three max_four min_four 
set_option linter.unusedVariables false
set_option linter.unusedSimpArgs false
mutual
def spec_sayPairs.l0 : Nat → Int → Int → Int → ByteArray → List ByteArray → List (S25) → Option (Bool)
 | 0, _, _, _, _, _, _ => none
 | k + 1, x3, x496000, x496001, x496002, x496003, x496004 => if x3 < (x496004.length : Int) then (if 0 ≤ x3 then (if x496000 = 5 then (if x3 < (x496003.length : Int) then ((spec_sayName.f k (rdOf ByteArray.empty x496003 x3)).bind fun t499 => (if t499 = true then (if ((rd_T25 x496004 x3).f0) = 3 then (spec_sayPairs.j1 k x3 false x496000 x496001 x496002 x496003 x496004 ((rd_T25 x496004 x3).f0) ((rd_T25 x496004 x3).f1) ((rd_T25 x496004 x3).f2) ((rd_T25 x496004 x3).f3) ((rd_T25 x496004 x3).f4)) else (if ((rd_T25 x496004 x3).f0) = 2 then (spec_sayPairs.j1 k x3 false x496000 x496001 x496002 x496003 x496004 ((rd_T25 x496004 x3).f0) ((rd_T25 x496004 x3).f1) ((rd_T25 x496004 x3).f2) ((rd_T25 x496004 x3).f3) ((rd_T25 x496004 x3).f4)) else (spec_sayPairs.j1 k x3 (((rd_T25 x496004 x3).f0) != 1) x496000 x496001 x496002 x496003 x496004 ((rd_T25 x496004 x3).f0) ((rd_T25 x496004 x3).f1) ((rd_T25 x496004 x3).f2) ((rd_T25 x496004 x3).f3) ((rd_T25 x496004 x3).f4)))) else (spec_sayPairs.j1 k x3 true x496000 x496001 x496002 x496003 x496004 ((rd_T25 x496004 x3).f0) ((rd_T25 x496004 x3).f1) ((rd_T25 x496004 x3).f2) ((rd_T25 x496004 x3).f3) ((rd_T25 x496004 x3).f4)))) else (none)) else (spec_sayPairs.j1 k x3 false x496000 x496001 x496002 x496003 x496004 ((rd_T25 x496004 x3).f0) ((rd_T25 x496004 x3).f1) ((rd_T25 x496004 x3).f2) ((rd_T25 x496004 x3).f3) ((rd_T25 x496004 x3).f4))) else (none)) else (if x496000 = 5 then (some (decide ((x496004.length : Int) > 0))) else (if x496000 = 4 then (some (decide ((x496004.length : Int) > 0))) else (some false)))
def spec_sayPairs.j1 : Nat → Int → Bool → Int → Int → ByteArray → List ByteArray → List (S25) → Int → Int → ByteArray → List ByteArray → List (S25) → Option (Bool)
 | 0, _, _, _, _, _, _, _, _, _, _, _, _ => none
 | k + 1, x3, x45, x496000, x496001, x496002, x496003, x496004, x498000, x498001, x498002, x498003, x498004 => if x45 = true then (some false) else (if x496000 = 4 then ((spec_mergeSplit.f k x498002).bind fun bt500 => (if x498000 = 3 then ((spec_sayName.f k bt500.1).bind fun t511 => (if t511 = true then (spec_sayPairs.l0 k (wrap64 (x3 + 1)) x496000 x496001 x496002 x496003 x496004) else (some false))) else (some false))) else (spec_sayPairs.l0 k (wrap64 (x3 + 1)) x496000 x496001 x496002 x496003 x496004))
end
def spec_sayPairs.f (k : Nat) (a0_0 : Int) (a0_1 : Int) (a0_2 : ByteArray) (l0_3 : List ByteArray) (l0_4 : List (S25)) : Option (Bool) := spec_sayPairs.l0 k 0 a0_0 a0_1 a0_2 l0_3 l0_4
set_option maxHeartbeats 8000000 in
set_option maxRecDepth 100000 in
theorem spec_sayPairs.calls (k : Nat) (a0_0 : Int) (a0_1 : Int) (a0_2 : ByteArray) (A0_3 : Option Addr) (c0_3 : Nat) (l0_3 : List ByteArray) (A0_4 : Option Addr) (c0_4 : Nat) (l0_4 : List (S25)) (r : Bool) (w : World) (hr0_3 : Kd.C Kd.string w A0_3 l0_3.length l0_3) (hc0_3 : l0_3.length ≤ c0_3) (hr0_4 : Kd.C k25 w A0_4 l0_4.length l0_4) (hc0_4 : l0_4.length ≤ c0_4) (h : spec_sayPairs.f k a0_0 a0_1 a0_2 l0_3 l0_4 = some r) :
  Calls Try.prog 36 #[.agg #[.int .i64 a0_0, .int .i64 a0_1, .string a0_2, .slice A0_3 l0_3.length c0_3, .slice A0_4 l0_4.length c0_4]] w fun e w' => e = .returned (.bool r) ∧ Below w.heap.size w w' := by
 have hu25 := Try.underlying25
 have HR0_3 := aM hr0_3
 have HC0_3 := aM hc0_3
 clear hr0_3 hc0_3
 have HR0_4 := aM hr0_4
 have HC0_4 := aM hc0_4
 clear hr0_4 hc0_4
 have HB := aM (Below.refl w.heap.size w)
 have H : (spec_sayPairs.l0 k 0 a0_0 a0_1 a0_2 l0_3 l0_4) = some r := h
 clear h
 have H' := aM H
 clear H
 go_enter Try.func36, Try.ntmps36
 go_wp2_with (first | ((with_reducible refine gate_dst (N := 1) rfl ?_); (try (refine gate_guard (by rfl) ?_; dsimp only)); refine box_event ?hg (N := 1) ?hd (cs := #[.int .i64 a0_0, .int .i64 a0_1, .string a0_2, .slice A0_3 l0_3.length c0_3, .slice A0_4 l0_4.length c0_4]) (t := 25) ?hr ?_; (case hd => rfl); (case hg => rfl); (case hr => first | (go_simp; done) | (go_simp; rfl)); intro gb495 hg w2 hbox hb; have n0_ := aM (below_step (by repeat (first | (with_reducible first | exact HB.out | apply below_alloc | apply pw_below_drewN | apply below_drew1) | exact HB.out)) hb); have n1_ := aM (hbox); have n2_ := aM ((by rw [hg]; exact (below_size (by repeat (first | (with_reducible first | exact HB.out | apply below_alloc | apply pw_below_drewN | apply below_drew1) | exact HB.out))) : w.heap.size ≤ gb495)); have n3_ := aM ((by rw [hg]; exact (below_size (by repeat (first | (with_reducible first | exact HB.out | apply below_alloc | apply pw_below_drewN | apply below_drew1) | exact HB.out))) : w.heap.size ≤ gb495)); clear HB; have HB := n0_; have BK495 := n1_; have GW495 := n2_; have GE495 := n3_; clear n0_ n1_ n2_ n3_; clear hb hbox hg))
 go_loopg [3] k (fun kq v3 w' => ∃ (x3_1 : Int), v3 = .int .i64 x3_1 ∧ Aside0 (spec_sayPairs.l0 kq x3_1 a0_0 a0_1 a0_2 l0_3 l0_4 = some r) ∧ Aside0 (kq ≤ k) ∧ Aside0 (w'.heap[gb495]? = some (.cells #[.int .i64 a0_0, .int .i64 a0_1, .string a0_2, (.slice A0_3 l0_3.length c0_3), (.slice A0_4 l0_4.length c0_4)] 25 (0, 0))) ∧ Aside0 (Below w.heap.size w w'))
 case atStart => exact ⟨(0), (by first | rfl | (simp; done) | (simp [*]; done)), H', ⟨Nat.le_refl _⟩, ⟨by (with_reducible repeat (first | refine blk_drewN ?_ _ | refine blk_drew ?_ | refine blk_alloc ?_ _)); exact BK495.out⟩, ⟨by repeat (first | (with_reducible first | exact HB.out | apply below_alloc | apply pw_below_drewN | apply below_drew1 | refine below_set ?_ GE495.out) | exact HB.out)⟩⟩
 case round =>
  clear H'
  try clear p2
  obtain ⟨x3_1, rfl, HA, HK1, BK495, HB⟩ := hrel
  cases gk with
  | zero => exact absurd HA.out (by simp [spec_sayPairs.l0])
  | succ k1 =>
   have H := HA.out
   clear HA
   simp only [spec_sayPairs.l0] at H
   by_cases c3 : x3_1 < (l0_4.length : Int)
   ·rw [if_pos c3] at H
    have c3b0 : decide (x3_1 < (l0_4.length : Int)) = true := decide_eq_true c3
    clear c3
    by_cases c4 : 0 ≤ x3_1
    ·rw [if_pos c4] at H
     have c4b0 : decide (0 ≤ x3_1) = true := decide_eq_true c4
     clear c4
     have HC5 := aM H
     clear H
     have hcz6_0 : wr.cell? ⟨gb495, 0, none⟩ = some (.int .i64 a0_0) := (blk_cell BK495.out 0).trans rfl
     have hcz6_1 : wr.cell? ⟨gb495, 1, none⟩ = some (.int .i64 a0_1) := (blk_cell BK495.out 1).trans rfl
     have hcz6_2 : wr.cell? ⟨gb495, 2, none⟩ = some (.string a0_2) := (blk_cell BK495.out 2).trans rfl
     have hcz6_3 : wr.cell? ⟨gb495, 3, none⟩ = some (.slice A0_3 l0_3.length c0_3) := (blk_cell BK495.out 3).trans rfl
     have hcz6_4 : wr.cell? ⟨gb495, 4, none⟩ = some (.slice A0_4 l0_4.length c0_4) := (blk_cell BK495.out 4).trans rfl
     have hfz6_0 := blk_frozen BK495.out 0
     have hfz6_1 := blk_frozen BK495.out 1
     have hfz6_2 := blk_frozen BK495.out 2
     have hfz6_3 := blk_frozen BK495.out 3
     have hfz6_4 := blk_frozen BK495.out 4
     have p496 : 0 ≤ (x3_1 : Int) := of_decide_eq_true (by first | (with_reducible assumption) | assumption)
     have q496 : x3_1 < (l0_4.length : Int) := of_decide_eq_true (by first | (with_reducible assumption) | assumption)
     obtain ⟨ad496, A496_3, c496_3, A496_4, c496_4, e496, hx496_0, hx496_1, hx496_2, hx496_3, hx496_4, hl496_3, hi496_3, hl496_4, hi496_4⟩ := at_T25 HR0_4.out x3_1 p496 q496
     cases e496
     replace hx496_0 := (HB.out.cell (World.block_lt_of_cell? w _ hx496_0)).trans hx496_0
     replace hx496_1 := (HB.out.cell (World.block_lt_of_cell? w _ hx496_1)).trans hx496_1
     replace hx496_2 := (HB.out.cell (World.block_lt_of_cell? w _ hx496_2)).trans hx496_2
     replace hx496_3 := (HB.out.cell (World.block_lt_of_cell? w _ hx496_3)).trans hx496_3
     replace hx496_4 := (HB.out.cell (World.block_lt_of_cell? w _ hx496_4)).trans hx496_4
     have HR496_3 := aM hi496_3
     have HC496_3 := aM hl496_3
     clear hi496_3 hl496_3
     have HR496_4 := aM hi496_4
     have HC496_4 := aM hl496_4
     clear hi496_4 hl496_4
     replace p496 := eq_true p496
     replace q496 := eq_true q496
     go_upto_region 5 with (first | ((with_reducible refine gate_dst (N := 4) rfl ?_); (try (refine gate_guard (by rfl) ?_; dsimp only)); refine box_event ?hg (N := 4) ?hd (cs := #[.int .i64 0, .int .i64 0, .string (⟨#[]⟩ : ByteArray), .slice none 0 0, .slice none 0 0]) (t := 25) ?hr ?_; (case hd => rfl); (case hg => rfl); (case hr => first | (go_simp; done) | (go_simp; rfl)); intro gb497 hg w7 hbox hb; have n0_ := aM (blk_below (g := gb495) (o := .cells #[.int .i64 a0_0, .int .i64 a0_1, .string a0_2, .slice A0_3 l0_3.length c0_3, .slice (some ad496) l0_4.length c0_4] 25 (0, 0)) (by (with_reducible repeat (first | refine blk_drewN ?_ _ | refine blk_drew ?_ | refine blk_alloc ?_ _)); exact BK495.out) hb); have n1_ := aM (below_step (by repeat (first | (with_reducible first | exact HB.out | apply below_alloc | apply pw_below_drewN | apply below_drew1 | refine below_set ?_ GE495.out) | exact HB.out)) hb); have n2_ := aM (hbox); have n3_ := aM ((by rw [hg]; exact (below_size (by repeat (first | (with_reducible first | exact HB.out | apply below_alloc | apply pw_below_drewN | apply below_drew1 | refine below_set ?_ GE495.out) | exact HB.out))) : w.heap.size ≤ gb497)); have n4_ := aM ((by rw [hg]; exact (below_size (by repeat (first | (with_reducible first | exact HB.out | apply below_alloc | apply pw_below_drewN | apply below_drew1 | refine below_set ?_ GE495.out) | exact HB.out))) : w.heap.size ≤ gb497)); have n5_ := aM ((by rw [hg]; exact Nat.ne_of_lt (blk_lt (g := gb495) (o := .cells #[.int .i64 a0_0, .int .i64 a0_1, .string a0_2, .slice A0_3 l0_3.length c0_3, .slice (some ad496) l0_4.length c0_4] 25 (0, 0)) (by (with_reducible repeat (first | refine blk_drewN ?_ _ | refine blk_drew ?_ | refine blk_alloc ?_ _)); exact BK495.out)) : gb495 ≠ gb497)); have n6_ := aM ((by rw [hg]; exact Nat.ne_of_gt (blk_lt (g := gb495) (o := .cells #[.int .i64 a0_0, .int .i64 a0_1, .string a0_2, .slice A0_3 l0_3.length c0_3, .slice (some ad496) l0_4.length c0_4] 25 (0, 0)) (by (with_reducible repeat (first | refine blk_drewN ?_ _ | refine blk_drew ?_ | refine blk_alloc ?_ _)); exact BK495.out)) : gb497 ≠ gb495)); clear BK495; clear HB; have BK495 := n0_; have HB := n1_; have BK497 := n2_; have GW497 := n3_; have GE497 := n4_; have NB495_497 := n5_; have NB497_495 := n6_; clear n0_ n1_ n2_ n3_ n4_ n5_ n6_; clear hb hbox hg; have hnb8 := NB497_495.out; have hnc8 := NB495_497.out; have hcz9_0 : w7.cell? ⟨gb497, 0, none⟩ = some (.int .i64 0) := (blk_cell BK497.out 0).trans rfl; have hcz9_1 : w7.cell? ⟨gb497, 1, none⟩ = some (.int .i64 0) := (blk_cell BK497.out 1).trans rfl; have hcz9_2 : w7.cell? ⟨gb497, 2, none⟩ = some (.string (⟨#[]⟩ : ByteArray)) := (blk_cell BK497.out 2).trans rfl; have hcz9_3 : w7.cell? ⟨gb497, 3, none⟩ = some (.slice none 0 0) := (blk_cell BK497.out 3).trans rfl; have hcz9_4 : w7.cell? ⟨gb497, 4, none⟩ = some (.slice none 0 0) := (blk_cell BK497.out 4).trans rfl; have hfz9_0 := blk_frozen BK497.out 0; have hfz9_1 := blk_frozen BK497.out 1; have hfz9_2 := blk_frozen BK497.out 2; have hfz9_3 := blk_frozen BK497.out 3; have hfz9_4 := blk_frozen BK497.out 4))
     (try simp only [Act.put, List.setIfInBounds_toArray, List.set_cons_zero, List.set_cons_succ])
     go_cut [45] (fun v45 wc => ∃ (kq : Nat) (x45_4 : Bool), v45 = .bool x45_4 ∧ Aside0 (spec_sayPairs.j1 kq x3_1 x45_4 a0_0 a0_1 a0_2 l0_3 l0_4 ((rd_T25 l0_4 x3_1).f0) ((rd_T25 l0_4 x3_1).f1) ((rd_T25 l0_4 x3_1).f2) ((rd_T25 l0_4 x3_1).f3) ((rd_T25 l0_4 x3_1).f4) = some r) ∧ Aside0 (kq ≤ k1) ∧ Aside0 (wc.heap[gb495]? = some (.cells #[.int .i64 a0_0, .int .i64 a0_1, .string a0_2, (.slice A0_3 l0_3.length c0_3), (.slice (some ad496) l0_4.length c0_4)] 25 (0, 0))) ∧ Aside0 (wc.heap[gb497]? = some (.cells #[.int .i64 ((rd_T25 l0_4 x3_1).f0), .int .i64 ((rd_T25 l0_4 x3_1).f1), .string ((rd_T25 l0_4 x3_1).f2), (.slice A496_3 ((rd_T25 l0_4 x3_1).f3).length c496_3), (.slice A496_4 ((rd_T25 l0_4 x3_1).f4).length c496_4)] 25 (0, 0))) ∧ Aside0 (Below w.heap.size w wc))
     case first =>
      have H := HC5.out
      clear HC5
      by_cases c10 : a0_0 = 5
      ·rw [if_pos c10] at H
       have c10b0 : (a0_0 == 5) = true := beq_iff_eq.mpr c10
       have c10b1 : (a0_0 != 5) = false := bne_eq_false_iff_eq.mpr c10
       clear c10
       (first | rw [c10b0] | (simp only [i64_w, i32_w]; rw [c10b0]) | skip)
       by_cases c11 : x3_1 < (l0_3.length : Int)
       ·rw [if_pos c11] at H
        have c11b0 : decide (x3_1 < (l0_3.length : Int)) = true := decide_eq_true c11
        clear c11
        replace H := Option.bind_eq_some_iff.mp H
        obtain ⟨t499, A120, H⟩ := H
        replace H : (if t499 = true then (if ((rd_T25 l0_4 x3_1).f0) = 3 then (spec_sayPairs.j1 k1 x3_1 false a0_0 a0_1 a0_2 l0_3 l0_4 ((rd_T25 l0_4 x3_1).f0) ((rd_T25 l0_4 x3_1).f1) ((rd_T25 l0_4 x3_1).f2) ((rd_T25 l0_4 x3_1).f3) ((rd_T25 l0_4 x3_1).f4)) else (if ((rd_T25 l0_4 x3_1).f0) = 2 then (spec_sayPairs.j1 k1 x3_1 false a0_0 a0_1 a0_2 l0_3 l0_4 ((rd_T25 l0_4 x3_1).f0) ((rd_T25 l0_4 x3_1).f1) ((rd_T25 l0_4 x3_1).f2) ((rd_T25 l0_4 x3_1).f3) ((rd_T25 l0_4 x3_1).f4)) else (spec_sayPairs.j1 k1 x3_1 (((rd_T25 l0_4 x3_1).f0) != 1) a0_0 a0_1 a0_2 l0_3 l0_4 ((rd_T25 l0_4 x3_1).f0) ((rd_T25 l0_4 x3_1).f1) ((rd_T25 l0_4 x3_1).f2) ((rd_T25 l0_4 x3_1).f3) ((rd_T25 l0_4 x3_1).f4)))) else (spec_sayPairs.j1 k1 x3_1 true a0_0 a0_1 a0_2 l0_3 l0_4 ((rd_T25 l0_4 x3_1).f0) ((rd_T25 l0_4 x3_1).f1) ((rd_T25 l0_4 x3_1).f2) ((rd_T25 l0_4 x3_1).f3) ((rd_T25 l0_4 x3_1).f4))) = some r := H
        have A12 := aM A120
        clear A120
        by_cases c13 : t499 = true
        ·subst c13
         have H1 : (if ((rd_T25 l0_4 x3_1).f0) = 3 then (spec_sayPairs.j1 k1 x3_1 false a0_0 a0_1 a0_2 l0_3 l0_4 ((rd_T25 l0_4 x3_1).f0) ((rd_T25 l0_4 x3_1).f1) ((rd_T25 l0_4 x3_1).f2) ((rd_T25 l0_4 x3_1).f3) ((rd_T25 l0_4 x3_1).f4)) else (if ((rd_T25 l0_4 x3_1).f0) = 2 then (spec_sayPairs.j1 k1 x3_1 false a0_0 a0_1 a0_2 l0_3 l0_4 ((rd_T25 l0_4 x3_1).f0) ((rd_T25 l0_4 x3_1).f1) ((rd_T25 l0_4 x3_1).f2) ((rd_T25 l0_4 x3_1).f3) ((rd_T25 l0_4 x3_1).f4)) else (spec_sayPairs.j1 k1 x3_1 (((rd_T25 l0_4 x3_1).f0) != 1) a0_0 a0_1 a0_2 l0_3 l0_4 ((rd_T25 l0_4 x3_1).f0) ((rd_T25 l0_4 x3_1).f1) ((rd_T25 l0_4 x3_1).f2) ((rd_T25 l0_4 x3_1).f3) ((rd_T25 l0_4 x3_1).f4)))) = some r := by rw [if_pos rfl] at H; exact H
         clear H
         have H := H1
         clear H1
         by_cases c14 : ((rd_T25 l0_4 x3_1).f0) = 3
         ·rw [if_pos c14] at H
          have c14b0 : (((rd_T25 l0_4 x3_1).f0) == 3) = true := beq_iff_eq.mpr c14
          have c14b1 : (((rd_T25 l0_4 x3_1).f0) != 3) = false := bne_eq_false_iff_eq.mpr c14
          clear c14
          have H' := aM H
          clear H
          have hnb15 := NB495_497.out
          have hnc15 := NB497_495.out
          have hcz16_0 : w7.cell? ⟨gb495, 0, none⟩ = some (.int .i64 a0_0) := (blk_cell BK495.out 0).trans rfl
          have hcz16_1 : w7.cell? ⟨gb495, 1, none⟩ = some (.int .i64 a0_1) := (blk_cell BK495.out 1).trans rfl
          have hcz16_2 : w7.cell? ⟨gb495, 2, none⟩ = some (.string a0_2) := (blk_cell BK495.out 2).trans rfl
          have hcz16_3 : w7.cell? ⟨gb495, 3, none⟩ = some (.slice A0_3 l0_3.length c0_3) := (blk_cell BK495.out 3).trans rfl
          have hcz16_4 : w7.cell? ⟨gb495, 4, none⟩ = some (.slice (some ad496) l0_4.length c0_4) := (blk_cell BK495.out 4).trans rfl
          have hfz16_0 := blk_frozen BK495.out 0
          have hfz16_1 := blk_frozen BK495.out 1
          have hfz16_2 := blk_frozen BK495.out 2
          have hfz16_3 := blk_frozen BK495.out 3
          have hfz16_4 := blk_frozen BK495.out 4
          have p498 : 0 ≤ (x3_1 : Int) := of_decide_eq_true (by first | (with_reducible assumption) | assumption)
          have q498 : x3_1 < (l0_3.length : Int) := of_decide_eq_true (by first | (with_reducible assumption) | assumption)
          obtain ⟨ad498, e498, hx498_0⟩ := Kd.at_string HR0_3.out x3_1 p498 q498
          cases e498
          have hn498_0 : ad498.block ≠ gb497 := Nat.ne_of_lt (Nat.lt_of_lt_of_le (by have := World.block_lt_of_cell? _ _ hx498_0; first | rwa [add_block] at this | exact this) GW497.out)
          have hn498_1 : ad498.block ≠ gb497 := Nat.ne_of_lt (Nat.lt_of_lt_of_le (by have := World.block_lt_of_cell? _ _ hx498_0; first | rwa [add_block] at this | exact this) GW497.out)
          have hn498_2 : ad498.block ≠ gb497 := Nat.ne_of_lt (Nat.lt_of_lt_of_le (by have := World.block_lt_of_cell? _ _ hx498_0; first | rwa [add_block] at this | exact this) GW497.out)
          have hn498_3 : ad498.block ≠ gb497 := Nat.ne_of_lt (Nat.lt_of_lt_of_le (by have := World.block_lt_of_cell? _ _ hx498_0; first | rwa [add_block] at this | exact this) GW497.out)
          have hn498_4 : ad498.block ≠ gb497 := Nat.ne_of_lt (Nat.lt_of_lt_of_le (by have := World.block_lt_of_cell? _ _ hx498_0; first | rwa [add_block] at this | exact this) GW497.out)
          replace hx498_0 := (HB.out.cell (World.block_lt_of_cell? w _ hx498_0)).trans hx498_0
          replace hx498_0 := (cell_far (p := ⟨gb497, 0, none⟩) (by first | (rw [add_block]; exact hn498_0) | (show (Addr.add _ _).block ≠ _; rw [add_block]; exact hn498_0) | exact hn498_0) (.int .i64 ((rd_T25 l0_4 x3_1).f0))).trans hx498_0
          replace hx498_0 := (cell_far (p := ⟨gb497, 1, none⟩) (by first | (rw [add_block]; exact hn498_1) | (show (Addr.add _ _).block ≠ _; rw [add_block]; exact hn498_1) | exact hn498_1) (.int .i64 ((rd_T25 l0_4 x3_1).f1))).trans hx498_0
          replace hx498_0 := (cell_far (p := ⟨gb497, 2, none⟩) (by first | (rw [add_block]; exact hn498_2) | (show (Addr.add _ _).block ≠ _; rw [add_block]; exact hn498_2) | exact hn498_2) (.string ((rd_T25 l0_4 x3_1).f2))).trans hx498_0
          replace hx498_0 := (cell_far (p := ⟨gb497, 3, none⟩) (by first | (rw [add_block]; exact hn498_3) | (show (Addr.add _ _).block ≠ _; rw [add_block]; exact hn498_3) | exact hn498_3) (.slice A496_3 ((rd_T25 l0_4 x3_1).f3).length c496_3)).trans hx498_0
          replace hx498_0 := (cell_far (p := ⟨gb497, 4, none⟩) (by first | (rw [add_block]; exact hn498_4) | (show (Addr.add _ _).block ≠ _; rw [add_block]; exact hn498_4) | exact hn498_4) (.slice A496_4 ((rd_T25 l0_4 x3_1).f4).length c496_4)).trans hx498_0
          clear hn498_0 hn498_1 hn498_2 hn498_3 hn498_4
          replace p498 := eq_true p498
          replace q498 := eq_true q498
          go_wp2_with (first | (go_at_call 40; (with_reducible refine (spec_sayName.calls k1 (rdOf ByteArray.empty l0_3 x3_1) true _ A12.out).mono ?_); rintro e w' ⟨rfl, ⟨nd, rfl⟩⟩; have hcz17_0 : w7.cell? ⟨gb497, 0, none⟩ = some (.int .i64 0) := (blk_cell BK497.out 0).trans rfl; have hcz17_1 : w7.cell? ⟨gb497, 1, none⟩ = some (.int .i64 0) := (blk_cell BK497.out 1).trans rfl; have hcz17_2 : w7.cell? ⟨gb497, 2, none⟩ = some (.string (⟨#[]⟩ : ByteArray)) := (blk_cell BK497.out 2).trans rfl; have hcz17_3 : w7.cell? ⟨gb497, 3, none⟩ = some (.slice none 0 0) := (blk_cell BK497.out 3).trans rfl; have hcz17_4 : w7.cell? ⟨gb497, 4, none⟩ = some (.slice none 0 0) := (blk_cell BK497.out 4).trans rfl; have hfz17_0 := blk_frozen BK497.out 0; have hfz17_1 := blk_frozen BK497.out 1; have hfz17_2 := blk_frozen BK497.out 2; have hfz17_3 := blk_frozen BK497.out 3; have hfz17_4 := blk_frozen BK497.out 4))
          go_meet
          case rel => exact ⟨_, (false), (by first | rfl | (simp; done) | (simp [*]; done)), H', ⟨by have := HK1.out; first | omega | exact Nat.le_refl _⟩, ⟨by (with_reducible repeat (first | refine blk_drewN ?_ _ | refine blk_drew ?_ | refine blk_alloc ?_ _)); refine blk_far ?_ NB495_497.out _; (with_reducible repeat (first | refine blk_drewN ?_ _ | refine blk_drew ?_ | refine blk_alloc ?_ _)); refine blk_far ?_ NB495_497.out _; (with_reducible repeat (first | refine blk_drewN ?_ _ | refine blk_drew ?_ | refine blk_alloc ?_ _)); refine blk_far ?_ NB495_497.out _; (with_reducible repeat (first | refine blk_drewN ?_ _ | refine blk_drew ?_ | refine blk_alloc ?_ _)); refine blk_far ?_ NB495_497.out _; (with_reducible repeat (first | refine blk_drewN ?_ _ | refine blk_drew ?_ | refine blk_alloc ?_ _)); refine blk_far ?_ NB495_497.out _; (with_reducible repeat (first | refine blk_drewN ?_ _ | refine blk_drew ?_ | refine blk_alloc ?_ _)); exact BK495.out⟩, ⟨by (with_reducible repeat (first | refine blk_drewN ?_ _ | refine blk_drew ?_ | refine blk_alloc ?_ _)); refine blk_put (cs := #[.int .i64 ((rd_T25 l0_4 x3_1).f0), .int .i64 ((rd_T25 l0_4 x3_1).f1), .string ((rd_T25 l0_4 x3_1).f2), .slice A496_3 ((rd_T25 l0_4 x3_1).f3).length c496_3, .slice none 0 0]) ?_ 4 _ rfl; (with_reducible repeat (first | refine blk_drewN ?_ _ | refine blk_drew ?_ | refine blk_alloc ?_ _)); refine blk_put (cs := #[.int .i64 ((rd_T25 l0_4 x3_1).f0), .int .i64 ((rd_T25 l0_4 x3_1).f1), .string ((rd_T25 l0_4 x3_1).f2), .slice none 0 0, .slice none 0 0]) ?_ 3 _ rfl; (with_reducible repeat (first | refine blk_drewN ?_ _ | refine blk_drew ?_ | refine blk_alloc ?_ _)); refine blk_put (cs := #[.int .i64 ((rd_T25 l0_4 x3_1).f0), .int .i64 ((rd_T25 l0_4 x3_1).f1), .string (⟨#[]⟩ : ByteArray), .slice none 0 0, .slice none 0 0]) ?_ 2 _ rfl; (with_reducible repeat (first | refine blk_drewN ?_ _ | refine blk_drew ?_ | refine blk_alloc ?_ _)); refine blk_put (cs := #[.int .i64 ((rd_T25 l0_4 x3_1).f0), .int .i64 0, .string (⟨#[]⟩ : ByteArray), .slice none 0 0, .slice none 0 0]) ?_ 1 _ rfl; (with_reducible repeat (first | refine blk_drewN ?_ _ | refine blk_drew ?_ | refine blk_alloc ?_ _)); refine blk_put (cs := #[.int .i64 0, .int .i64 0, .string (⟨#[]⟩ : ByteArray), .slice none 0 0, .slice none 0 0]) ?_ 0 _ rfl; (with_reducible repeat (first | refine blk_drewN ?_ _ | refine blk_drew ?_ | refine blk_alloc ?_ _)); exact BK497.out⟩, ⟨by repeat (first | (with_reducible first | exact HB.out | apply below_alloc | apply pw_below_drewN | apply below_drew1 | refine below_set ?_ GE495.out | refine below_set ?_ GE497.out) | exact HB.out)⟩⟩
         ·rw [if_neg c14] at H
          have c14b0 : (((rd_T25 l0_4 x3_1).f0) == 3) = false := beq_eq_false_iff_ne.mpr c14
          have c14b1 : (((rd_T25 l0_4 x3_1).f0) != 3) = true := bne_iff_ne.mpr c14
          by_cases c18 : ((rd_T25 l0_4 x3_1).f0) = 2
          ·rw [if_pos c18] at H
           have c18b0 : (((rd_T25 l0_4 x3_1).f0) == 2) = true := beq_iff_eq.mpr c18
           have c18b1 : (((rd_T25 l0_4 x3_1).f0) != 2) = false := bne_eq_false_iff_eq.mpr c18
           clear c18
           have H' := aM H
           clear H
           have hnb19 := NB495_497.out
           have hnc19 := NB497_495.out
           have hcz20_0 : w7.cell? ⟨gb495, 0, none⟩ = some (.int .i64 a0_0) := (blk_cell BK495.out 0).trans rfl
           have hcz20_1 : w7.cell? ⟨gb495, 1, none⟩ = some (.int .i64 a0_1) := (blk_cell BK495.out 1).trans rfl
           have hcz20_2 : w7.cell? ⟨gb495, 2, none⟩ = some (.string a0_2) := (blk_cell BK495.out 2).trans rfl
           have hcz20_3 : w7.cell? ⟨gb495, 3, none⟩ = some (.slice A0_3 l0_3.length c0_3) := (blk_cell BK495.out 3).trans rfl
           have hcz20_4 : w7.cell? ⟨gb495, 4, none⟩ = some (.slice (some ad496) l0_4.length c0_4) := (blk_cell BK495.out 4).trans rfl
           have hfz20_0 := blk_frozen BK495.out 0
           have hfz20_1 := blk_frozen BK495.out 1
           have hfz20_2 := blk_frozen BK495.out 2
           have hfz20_3 := blk_frozen BK495.out 3
           have hfz20_4 := blk_frozen BK495.out 4
           have p498 : 0 ≤ (x3_1 : Int) := of_decide_eq_true (by first | (with_reducible assumption) | assumption)
           have q498 : x3_1 < (l0_3.length : Int) := of_decide_eq_true (by first | (with_reducible assumption) | assumption)
           obtain ⟨ad498, e498, hx498_0⟩ := Kd.at_string HR0_3.out x3_1 p498 q498
           cases e498
           have hn498_0 : ad498.block ≠ gb497 := Nat.ne_of_lt (Nat.lt_of_lt_of_le (by have := World.block_lt_of_cell? _ _ hx498_0; first | rwa [add_block] at this | exact this) GW497.out)
           have hn498_1 : ad498.block ≠ gb497 := Nat.ne_of_lt (Nat.lt_of_lt_of_le (by have := World.block_lt_of_cell? _ _ hx498_0; first | rwa [add_block] at this | exact this) GW497.out)
           have hn498_2 : ad498.block ≠ gb497 := Nat.ne_of_lt (Nat.lt_of_lt_of_le (by have := World.block_lt_of_cell? _ _ hx498_0; first | rwa [add_block] at this | exact this) GW497.out)
           have hn498_3 : ad498.block ≠ gb497 := Nat.ne_of_lt (Nat.lt_of_lt_of_le (by have := World.block_lt_of_cell? _ _ hx498_0; first | rwa [add_block] at this | exact this) GW497.out)
           have hn498_4 : ad498.block ≠ gb497 := Nat.ne_of_lt (Nat.lt_of_lt_of_le (by have := World.block_lt_of_cell? _ _ hx498_0; first | rwa [add_block] at this | exact this) GW497.out)
           replace hx498_0 := (HB.out.cell (World.block_lt_of_cell? w _ hx498_0)).trans hx498_0
           replace hx498_0 := (cell_far (p := ⟨gb497, 0, none⟩) (by first | (rw [add_block]; exact hn498_0) | (show (Addr.add _ _).block ≠ _; rw [add_block]; exact hn498_0) | exact hn498_0) (.int .i64 ((rd_T25 l0_4 x3_1).f0))).trans hx498_0
           replace hx498_0 := (cell_far (p := ⟨gb497, 1, none⟩) (by first | (rw [add_block]; exact hn498_1) | (show (Addr.add _ _).block ≠ _; rw [add_block]; exact hn498_1) | exact hn498_1) (.int .i64 ((rd_T25 l0_4 x3_1).f1))).trans hx498_0
           replace hx498_0 := (cell_far (p := ⟨gb497, 2, none⟩) (by first | (rw [add_block]; exact hn498_2) | (show (Addr.add _ _).block ≠ _; rw [add_block]; exact hn498_2) | exact hn498_2) (.string ((rd_T25 l0_4 x3_1).f2))).trans hx498_0
           replace hx498_0 := (cell_far (p := ⟨gb497, 3, none⟩) (by first | (rw [add_block]; exact hn498_3) | (show (Addr.add _ _).block ≠ _; rw [add_block]; exact hn498_3) | exact hn498_3) (.slice A496_3 ((rd_T25 l0_4 x3_1).f3).length c496_3)).trans hx498_0
           replace hx498_0 := (cell_far (p := ⟨gb497, 4, none⟩) (by first | (rw [add_block]; exact hn498_4) | (show (Addr.add _ _).block ≠ _; rw [add_block]; exact hn498_4) | exact hn498_4) (.slice A496_4 ((rd_T25 l0_4 x3_1).f4).length c496_4)).trans hx498_0
           clear hn498_0 hn498_1 hn498_2 hn498_3 hn498_4
           replace p498 := eq_true p498
           replace q498 := eq_true q498
           go_wp2_with (first | (go_at_call 40; (with_reducible refine (spec_sayName.calls k1 (rdOf ByteArray.empty l0_3 x3_1) true _ A12.out).mono ?_); rintro e w' ⟨rfl, ⟨nd, rfl⟩⟩; have hcz21_0 : w7.cell? ⟨gb497, 0, none⟩ = some (.int .i64 0) := (blk_cell BK497.out 0).trans rfl; have hcz21_1 : w7.cell? ⟨gb497, 1, none⟩ = some (.int .i64 0) := (blk_cell BK497.out 1).trans rfl; have hcz21_2 : w7.cell? ⟨gb497, 2, none⟩ = some (.string (⟨#[]⟩ : ByteArray)) := (blk_cell BK497.out 2).trans rfl; have hcz21_3 : w7.cell? ⟨gb497, 3, none⟩ = some (.slice none 0 0) := (blk_cell BK497.out 3).trans rfl; have hcz21_4 : w7.cell? ⟨gb497, 4, none⟩ = some (.slice none 0 0) := (blk_cell BK497.out 4).trans rfl; have hfz21_0 := blk_frozen BK497.out 0; have hfz21_1 := blk_frozen BK497.out 1; have hfz21_2 := blk_frozen BK497.out 2; have hfz21_3 := blk_frozen BK497.out 3; have hfz21_4 := blk_frozen BK497.out 4))
           go_meet
           case rel => exact ⟨_, (false), (by first | rfl | (simp; done) | (simp [*]; done)), H', ⟨by have := HK1.out; first | omega | exact Nat.le_refl _⟩, ⟨by (with_reducible repeat (first | refine blk_drewN ?_ _ | refine blk_drew ?_ | refine blk_alloc ?_ _)); refine blk_far ?_ NB495_497.out _; (with_reducible repeat (first | refine blk_drewN ?_ _ | refine blk_drew ?_ | refine blk_alloc ?_ _)); refine blk_far ?_ NB495_497.out _; (with_reducible repeat (first | refine blk_drewN ?_ _ | refine blk_drew ?_ | refine blk_alloc ?_ _)); refine blk_far ?_ NB495_497.out _; (with_reducible repeat (first | refine blk_drewN ?_ _ | refine blk_drew ?_ | refine blk_alloc ?_ _)); refine blk_far ?_ NB495_497.out _; (with_reducible repeat (first | refine blk_drewN ?_ _ | refine blk_drew ?_ | refine blk_alloc ?_ _)); refine blk_far ?_ NB495_497.out _; (with_reducible repeat (first | refine blk_drewN ?_ _ | refine blk_drew ?_ | refine blk_alloc ?_ _)); exact BK495.out⟩, ⟨by (with_reducible repeat (first | refine blk_drewN ?_ _ | refine blk_drew ?_ | refine blk_alloc ?_ _)); refine blk_put (cs := #[.int .i64 ((rd_T25 l0_4 x3_1).f0), .int .i64 ((rd_T25 l0_4 x3_1).f1), .string ((rd_T25 l0_4 x3_1).f2), .slice A496_3 ((rd_T25 l0_4 x3_1).f3).length c496_3, .slice none 0 0]) ?_ 4 _ rfl; (with_reducible repeat (first | refine blk_drewN ?_ _ | refine blk_drew ?_ | refine blk_alloc ?_ _)); refine blk_put (cs := #[.int .i64 ((rd_T25 l0_4 x3_1).f0), .int .i64 ((rd_T25 l0_4 x3_1).f1), .string ((rd_T25 l0_4 x3_1).f2), .slice none 0 0, .slice none 0 0]) ?_ 3 _ rfl; (with_reducible repeat (first | refine blk_drewN ?_ _ | refine blk_drew ?_ | refine blk_alloc ?_ _)); refine blk_put (cs := #[.int .i64 ((rd_T25 l0_4 x3_1).f0), .int .i64 ((rd_T25 l0_4 x3_1).f1), .string (⟨#[]⟩ : ByteArray), .slice none 0 0, .slice none 0 0]) ?_ 2 _ rfl; (with_reducible repeat (first | refine blk_drewN ?_ _ | refine blk_drew ?_ | refine blk_alloc ?_ _)); refine blk_put (cs := #[.int .i64 ((rd_T25 l0_4 x3_1).f0), .int .i64 0, .string (⟨#[]⟩ : ByteArray), .slice none 0 0, .slice none 0 0]) ?_ 1 _ rfl; (with_reducible repeat (first | refine blk_drewN ?_ _ | refine blk_drew ?_ | refine blk_alloc ?_ _)); refine blk_put (cs := #[.int .i64 0, .int .i64 0, .string (⟨#[]⟩ : ByteArray), .slice none 0 0, .slice none 0 0]) ?_ 0 _ rfl; (with_reducible repeat (first | refine blk_drewN ?_ _ | refine blk_drew ?_ | refine blk_alloc ?_ _)); exact BK497.out⟩, ⟨by repeat (first | (with_reducible first | exact HB.out | apply below_alloc | apply pw_below_drewN | apply below_drew1 | refine below_set ?_ GE495.out | refine below_set ?_ GE497.out) | exact HB.out)⟩⟩
          ·rw [if_neg c18] at H
           have c18b0 : (((rd_T25 l0_4 x3_1).f0) == 2) = false := beq_eq_false_iff_ne.mpr c18
           have c18b1 : (((rd_T25 l0_4 x3_1).f0) != 2) = true := bne_iff_ne.mpr c18
           have H' := aM H
           clear H
           have hnb22 := NB495_497.out
           have hnc22 := NB497_495.out
           have hcz23_0 : w7.cell? ⟨gb495, 0, none⟩ = some (.int .i64 a0_0) := (blk_cell BK495.out 0).trans rfl
           have hcz23_1 : w7.cell? ⟨gb495, 1, none⟩ = some (.int .i64 a0_1) := (blk_cell BK495.out 1).trans rfl
           have hcz23_2 : w7.cell? ⟨gb495, 2, none⟩ = some (.string a0_2) := (blk_cell BK495.out 2).trans rfl
           have hcz23_3 : w7.cell? ⟨gb495, 3, none⟩ = some (.slice A0_3 l0_3.length c0_3) := (blk_cell BK495.out 3).trans rfl
           have hcz23_4 : w7.cell? ⟨gb495, 4, none⟩ = some (.slice (some ad496) l0_4.length c0_4) := (blk_cell BK495.out 4).trans rfl
           have hfz23_0 := blk_frozen BK495.out 0
           have hfz23_1 := blk_frozen BK495.out 1
           have hfz23_2 := blk_frozen BK495.out 2
           have hfz23_3 := blk_frozen BK495.out 3
           have hfz23_4 := blk_frozen BK495.out 4
           have p498 : 0 ≤ (x3_1 : Int) := of_decide_eq_true (by first | (with_reducible assumption) | assumption)
           have q498 : x3_1 < (l0_3.length : Int) := of_decide_eq_true (by first | (with_reducible assumption) | assumption)
           obtain ⟨ad498, e498, hx498_0⟩ := Kd.at_string HR0_3.out x3_1 p498 q498
           cases e498
           have hn498_0 : ad498.block ≠ gb497 := Nat.ne_of_lt (Nat.lt_of_lt_of_le (by have := World.block_lt_of_cell? _ _ hx498_0; first | rwa [add_block] at this | exact this) GW497.out)
           have hn498_1 : ad498.block ≠ gb497 := Nat.ne_of_lt (Nat.lt_of_lt_of_le (by have := World.block_lt_of_cell? _ _ hx498_0; first | rwa [add_block] at this | exact this) GW497.out)
           have hn498_2 : ad498.block ≠ gb497 := Nat.ne_of_lt (Nat.lt_of_lt_of_le (by have := World.block_lt_of_cell? _ _ hx498_0; first | rwa [add_block] at this | exact this) GW497.out)
           have hn498_3 : ad498.block ≠ gb497 := Nat.ne_of_lt (Nat.lt_of_lt_of_le (by have := World.block_lt_of_cell? _ _ hx498_0; first | rwa [add_block] at this | exact this) GW497.out)
           have hn498_4 : ad498.block ≠ gb497 := Nat.ne_of_lt (Nat.lt_of_lt_of_le (by have := World.block_lt_of_cell? _ _ hx498_0; first | rwa [add_block] at this | exact this) GW497.out)
           replace hx498_0 := (HB.out.cell (World.block_lt_of_cell? w _ hx498_0)).trans hx498_0
           replace hx498_0 := (cell_far (p := ⟨gb497, 0, none⟩) (by first | (rw [add_block]; exact hn498_0) | (show (Addr.add _ _).block ≠ _; rw [add_block]; exact hn498_0) | exact hn498_0) (.int .i64 ((rd_T25 l0_4 x3_1).f0))).trans hx498_0
           replace hx498_0 := (cell_far (p := ⟨gb497, 1, none⟩) (by first | (rw [add_block]; exact hn498_1) | (show (Addr.add _ _).block ≠ _; rw [add_block]; exact hn498_1) | exact hn498_1) (.int .i64 ((rd_T25 l0_4 x3_1).f1))).trans hx498_0
           replace hx498_0 := (cell_far (p := ⟨gb497, 2, none⟩) (by first | (rw [add_block]; exact hn498_2) | (show (Addr.add _ _).block ≠ _; rw [add_block]; exact hn498_2) | exact hn498_2) (.string ((rd_T25 l0_4 x3_1).f2))).trans hx498_0
           replace hx498_0 := (cell_far (p := ⟨gb497, 3, none⟩) (by first | (rw [add_block]; exact hn498_3) | (show (Addr.add _ _).block ≠ _; rw [add_block]; exact hn498_3) | exact hn498_3) (.slice A496_3 ((rd_T25 l0_4 x3_1).f3).length c496_3)).trans hx498_0
           replace hx498_0 := (cell_far (p := ⟨gb497, 4, none⟩) (by first | (rw [add_block]; exact hn498_4) | (show (Addr.add _ _).block ≠ _; rw [add_block]; exact hn498_4) | exact hn498_4) (.slice A496_4 ((rd_T25 l0_4 x3_1).f4).length c496_4)).trans hx498_0
           clear hn498_0 hn498_1 hn498_2 hn498_3 hn498_4
           replace p498 := eq_true p498
           replace q498 := eq_true q498
           go_wp2_with (first | (go_at_call 40; (with_reducible refine (spec_sayName.calls k1 (rdOf ByteArray.empty l0_3 x3_1) true _ A12.out).mono ?_); rintro e w' ⟨rfl, ⟨nd, rfl⟩⟩; have hcz24_0 : w7.cell? ⟨gb497, 0, none⟩ = some (.int .i64 0) := (blk_cell BK497.out 0).trans rfl; have hcz24_1 : w7.cell? ⟨gb497, 1, none⟩ = some (.int .i64 0) := (blk_cell BK497.out 1).trans rfl; have hcz24_2 : w7.cell? ⟨gb497, 2, none⟩ = some (.string (⟨#[]⟩ : ByteArray)) := (blk_cell BK497.out 2).trans rfl; have hcz24_3 : w7.cell? ⟨gb497, 3, none⟩ = some (.slice none 0 0) := (blk_cell BK497.out 3).trans rfl; have hcz24_4 : w7.cell? ⟨gb497, 4, none⟩ = some (.slice none 0 0) := (blk_cell BK497.out 4).trans rfl; have hfz24_0 := blk_frozen BK497.out 0; have hfz24_1 := blk_frozen BK497.out 1; have hfz24_2 := blk_frozen BK497.out 2; have hfz24_3 := blk_frozen BK497.out 3; have hfz24_4 := blk_frozen BK497.out 4))
           go_meet
           case rel => exact ⟨_, ((((rd_T25 l0_4 x3_1).f0) != 1)), (by first | rfl | (simp; done) | (simp [*]; done)), H', ⟨by have := HK1.out; first | omega | exact Nat.le_refl _⟩, ⟨by (with_reducible repeat (first | refine blk_drewN ?_ _ | refine blk_drew ?_ | refine blk_alloc ?_ _)); refine blk_far ?_ NB495_497.out _; (with_reducible repeat (first | refine blk_drewN ?_ _ | refine blk_drew ?_ | refine blk_alloc ?_ _)); refine blk_far ?_ NB495_497.out _; (with_reducible repeat (first | refine blk_drewN ?_ _ | refine blk_drew ?_ | refine blk_alloc ?_ _)); refine blk_far ?_ NB495_497.out _; (with_reducible repeat (first | refine blk_drewN ?_ _ | refine blk_drew ?_ | refine blk_alloc ?_ _)); refine blk_far ?_ NB495_497.out _; (with_reducible repeat (first | refine blk_drewN ?_ _ | refine blk_drew ?_ | refine blk_alloc ?_ _)); refine blk_far ?_ NB495_497.out _; (with_reducible repeat (first | refine blk_drewN ?_ _ | refine blk_drew ?_ | refine blk_alloc ?_ _)); exact BK495.out⟩, ⟨by (with_reducible repeat (first | refine blk_drewN ?_ _ | refine blk_drew ?_ | refine blk_alloc ?_ _)); refine blk_put (cs := #[.int .i64 ((rd_T25 l0_4 x3_1).f0), .int .i64 ((rd_T25 l0_4 x3_1).f1), .string ((rd_T25 l0_4 x3_1).f2), .slice A496_3 ((rd_T25 l0_4 x3_1).f3).length c496_3, .slice none 0 0]) ?_ 4 _ rfl; (with_reducible repeat (first | refine blk_drewN ?_ _ | refine blk_drew ?_ | refine blk_alloc ?_ _)); refine blk_put (cs := #[.int .i64 ((rd_T25 l0_4 x3_1).f0), .int .i64 ((rd_T25 l0_4 x3_1).f1), .string ((rd_T25 l0_4 x3_1).f2), .slice none 0 0, .slice none 0 0]) ?_ 3 _ rfl; (with_reducible repeat (first | refine blk_drewN ?_ _ | refine blk_drew ?_ | refine blk_alloc ?_ _)); refine blk_put (cs := #[.int .i64 ((rd_T25 l0_4 x3_1).f0), .int .i64 ((rd_T25 l0_4 x3_1).f1), .string (⟨#[]⟩ : ByteArray), .slice none 0 0, .slice none 0 0]) ?_ 2 _ rfl; (with_reducible repeat (first | refine blk_drewN ?_ _ | refine blk_drew ?_ | refine blk_alloc ?_ _)); refine blk_put (cs := #[.int .i64 ((rd_T25 l0_4 x3_1).f0), .int .i64 0, .string (⟨#[]⟩ : ByteArray), .slice none 0 0, .slice none 0 0]) ?_ 1 _ rfl; (with_reducible repeat (first | refine blk_drewN ?_ _ | refine blk_drew ?_ | refine blk_alloc ?_ _)); refine blk_put (cs := #[.int .i64 0, .int .i64 0, .string (⟨#[]⟩ : ByteArray), .slice none 0 0, .slice none 0 0]) ?_ 0 _ rfl; (with_reducible repeat (first | refine blk_drewN ?_ _ | refine blk_drew ?_ | refine blk_alloc ?_ _)); exact BK497.out⟩, ⟨by repeat (first | (with_reducible first | exact HB.out | apply below_alloc | apply pw_below_drewN | apply below_drew1 | refine below_set ?_ GE495.out | refine below_set ?_ GE497.out) | exact HB.out)⟩⟩
        ·replace c13 := Bool.eq_false_iff.mpr c13
         subst c13
         have H1 : (spec_sayPairs.j1 k1 x3_1 true a0_0 a0_1 a0_2 l0_3 l0_4 ((rd_T25 l0_4 x3_1).f0) ((rd_T25 l0_4 x3_1).f1) ((rd_T25 l0_4 x3_1).f2) ((rd_T25 l0_4 x3_1).f3) ((rd_T25 l0_4 x3_1).f4)) = some r := by rw [if_neg (show ¬ (false = true) by decide)] at H; exact H
         clear H
         have H := H1
         clear H1
         have H' := aM H
         clear H
         have hnb25 := NB495_497.out
         have hnc25 := NB497_495.out
         have hcz26_0 : w7.cell? ⟨gb495, 0, none⟩ = some (.int .i64 a0_0) := (blk_cell BK495.out 0).trans rfl
         have hcz26_1 : w7.cell? ⟨gb495, 1, none⟩ = some (.int .i64 a0_1) := (blk_cell BK495.out 1).trans rfl
         have hcz26_2 : w7.cell? ⟨gb495, 2, none⟩ = some (.string a0_2) := (blk_cell BK495.out 2).trans rfl
         have hcz26_3 : w7.cell? ⟨gb495, 3, none⟩ = some (.slice A0_3 l0_3.length c0_3) := (blk_cell BK495.out 3).trans rfl
         have hcz26_4 : w7.cell? ⟨gb495, 4, none⟩ = some (.slice (some ad496) l0_4.length c0_4) := (blk_cell BK495.out 4).trans rfl
         have hfz26_0 := blk_frozen BK495.out 0
         have hfz26_1 := blk_frozen BK495.out 1
         have hfz26_2 := blk_frozen BK495.out 2
         have hfz26_3 := blk_frozen BK495.out 3
         have hfz26_4 := blk_frozen BK495.out 4
         have p498 : 0 ≤ (x3_1 : Int) := of_decide_eq_true (by first | (with_reducible assumption) | assumption)
         have q498 : x3_1 < (l0_3.length : Int) := of_decide_eq_true (by first | (with_reducible assumption) | assumption)
         obtain ⟨ad498, e498, hx498_0⟩ := Kd.at_string HR0_3.out x3_1 p498 q498
         cases e498
         have hn498_0 : ad498.block ≠ gb497 := Nat.ne_of_lt (Nat.lt_of_lt_of_le (by have := World.block_lt_of_cell? _ _ hx498_0; first | rwa [add_block] at this | exact this) GW497.out)
         have hn498_1 : ad498.block ≠ gb497 := Nat.ne_of_lt (Nat.lt_of_lt_of_le (by have := World.block_lt_of_cell? _ _ hx498_0; first | rwa [add_block] at this | exact this) GW497.out)
         have hn498_2 : ad498.block ≠ gb497 := Nat.ne_of_lt (Nat.lt_of_lt_of_le (by have := World.block_lt_of_cell? _ _ hx498_0; first | rwa [add_block] at this | exact this) GW497.out)
         have hn498_3 : ad498.block ≠ gb497 := Nat.ne_of_lt (Nat.lt_of_lt_of_le (by have := World.block_lt_of_cell? _ _ hx498_0; first | rwa [add_block] at this | exact this) GW497.out)
         have hn498_4 : ad498.block ≠ gb497 := Nat.ne_of_lt (Nat.lt_of_lt_of_le (by have := World.block_lt_of_cell? _ _ hx498_0; first | rwa [add_block] at this | exact this) GW497.out)
         replace hx498_0 := (HB.out.cell (World.block_lt_of_cell? w _ hx498_0)).trans hx498_0
         replace hx498_0 := (cell_far (p := ⟨gb497, 0, none⟩) (by first | (rw [add_block]; exact hn498_0) | (show (Addr.add _ _).block ≠ _; rw [add_block]; exact hn498_0) | exact hn498_0) (.int .i64 ((rd_T25 l0_4 x3_1).f0))).trans hx498_0
         replace hx498_0 := (cell_far (p := ⟨gb497, 1, none⟩) (by first | (rw [add_block]; exact hn498_1) | (show (Addr.add _ _).block ≠ _; rw [add_block]; exact hn498_1) | exact hn498_1) (.int .i64 ((rd_T25 l0_4 x3_1).f1))).trans hx498_0
         replace hx498_0 := (cell_far (p := ⟨gb497, 2, none⟩) (by first | (rw [add_block]; exact hn498_2) | (show (Addr.add _ _).block ≠ _; rw [add_block]; exact hn498_2) | exact hn498_2) (.string ((rd_T25 l0_4 x3_1).f2))).trans hx498_0
         replace hx498_0 := (cell_far (p := ⟨gb497, 3, none⟩) (by first | (rw [add_block]; exact hn498_3) | (show (Addr.add _ _).block ≠ _; rw [add_block]; exact hn498_3) | exact hn498_3) (.slice A496_3 ((rd_T25 l0_4 x3_1).f3).length c496_3)).trans hx498_0
         replace hx498_0 := (cell_far (p := ⟨gb497, 4, none⟩) (by first | (rw [add_block]; exact hn498_4) | (show (Addr.add _ _).block ≠ _; rw [add_block]; exact hn498_4) | exact hn498_4) (.slice A496_4 ((rd_T25 l0_4 x3_1).f4).length c496_4)).trans hx498_0
         clear hn498_0 hn498_1 hn498_2 hn498_3 hn498_4
         replace p498 := eq_true p498
         replace q498 := eq_true q498
         go_wp2_with (first | (go_at_call 40; (with_reducible refine (spec_sayName.calls k1 (rdOf ByteArray.empty l0_3 x3_1) false _ A12.out).mono ?_); rintro e w' ⟨rfl, ⟨nd, rfl⟩⟩))
         go_meet
         case rel => exact ⟨_, (true), (by first | rfl | (simp; done) | (simp [*]; done)), H', ⟨by have := HK1.out; first | omega | exact Nat.le_refl _⟩, ⟨by (with_reducible repeat (first | refine blk_drewN ?_ _ | refine blk_drew ?_ | refine blk_alloc ?_ _)); refine blk_far ?_ NB495_497.out _; (with_reducible repeat (first | refine blk_drewN ?_ _ | refine blk_drew ?_ | refine blk_alloc ?_ _)); refine blk_far ?_ NB495_497.out _; (with_reducible repeat (first | refine blk_drewN ?_ _ | refine blk_drew ?_ | refine blk_alloc ?_ _)); refine blk_far ?_ NB495_497.out _; (with_reducible repeat (first | refine blk_drewN ?_ _ | refine blk_drew ?_ | refine blk_alloc ?_ _)); refine blk_far ?_ NB495_497.out _; (with_reducible repeat (first | refine blk_drewN ?_ _ | refine blk_drew ?_ | refine blk_alloc ?_ _)); refine blk_far ?_ NB495_497.out _; (with_reducible repeat (first | refine blk_drewN ?_ _ | refine blk_drew ?_ | refine blk_alloc ?_ _)); exact BK495.out⟩, ⟨by (with_reducible repeat (first | refine blk_drewN ?_ _ | refine blk_drew ?_ | refine blk_alloc ?_ _)); refine blk_put (cs := #[.int .i64 ((rd_T25 l0_4 x3_1).f0), .int .i64 ((rd_T25 l0_4 x3_1).f1), .string ((rd_T25 l0_4 x3_1).f2), .slice A496_3 ((rd_T25 l0_4 x3_1).f3).length c496_3, .slice none 0 0]) ?_ 4 _ rfl; (with_reducible repeat (first | refine blk_drewN ?_ _ | refine blk_drew ?_ | refine blk_alloc ?_ _)); refine blk_put (cs := #[.int .i64 ((rd_T25 l0_4 x3_1).f0), .int .i64 ((rd_T25 l0_4 x3_1).f1), .string ((rd_T25 l0_4 x3_1).f2), .slice none 0 0, .slice none 0 0]) ?_ 3 _ rfl; (with_reducible repeat (first | refine blk_drewN ?_ _ | refine blk_drew ?_ | refine blk_alloc ?_ _)); refine blk_put (cs := #[.int .i64 ((rd_T25 l0_4 x3_1).f0), .int .i64 ((rd_T25 l0_4 x3_1).f1), .string (⟨#[]⟩ : ByteArray), .slice none 0 0, .slice none 0 0]) ?_ 2 _ rfl; (with_reducible repeat (first | refine blk_drewN ?_ _ | refine blk_drew ?_ | refine blk_alloc ?_ _)); refine blk_put (cs := #[.int .i64 ((rd_T25 l0_4 x3_1).f0), .int .i64 0, .string (⟨#[]⟩ : ByteArray), .slice none 0 0, .slice none 0 0]) ?_ 1 _ rfl; (with_reducible repeat (first | refine blk_drewN ?_ _ | refine blk_drew ?_ | refine blk_alloc ?_ _)); refine blk_put (cs := #[.int .i64 0, .int .i64 0, .string (⟨#[]⟩ : ByteArray), .slice none 0 0, .slice none 0 0]) ?_ 0 _ rfl; (with_reducible repeat (first | refine blk_drewN ?_ _ | refine blk_drew ?_ | refine blk_alloc ?_ _)); exact BK497.out⟩, ⟨by repeat (first | (with_reducible first | exact HB.out | apply below_alloc | apply pw_below_drewN | apply below_drew1 | refine below_set ?_ GE495.out | refine below_set ?_ GE497.out) | exact HB.out)⟩⟩
       ·rw [if_neg c11] at H
        exact absurd H (by simp)
      ·rw [if_neg c10] at H
       have c10b0 : (a0_0 == 5) = false := beq_eq_false_iff_ne.mpr c10
       have c10b1 : (a0_0 != 5) = true := bne_iff_ne.mpr c10
       (first | rw [c10b0] | (simp only [i64_w, i32_w]; rw [c10b0]) | skip)
       have H' := aM H
       clear H
       have hnb27 := NB495_497.out
       have hnc27 := NB497_495.out
       have hcz28_0 : w7.cell? ⟨gb495, 0, none⟩ = some (.int .i64 a0_0) := (blk_cell BK495.out 0).trans rfl
       have hcz28_1 : w7.cell? ⟨gb495, 1, none⟩ = some (.int .i64 a0_1) := (blk_cell BK495.out 1).trans rfl
       have hcz28_2 : w7.cell? ⟨gb495, 2, none⟩ = some (.string a0_2) := (blk_cell BK495.out 2).trans rfl
       have hcz28_3 : w7.cell? ⟨gb495, 3, none⟩ = some (.slice A0_3 l0_3.length c0_3) := (blk_cell BK495.out 3).trans rfl
       have hcz28_4 : w7.cell? ⟨gb495, 4, none⟩ = some (.slice (some ad496) l0_4.length c0_4) := (blk_cell BK495.out 4).trans rfl
       have hfz28_0 := blk_frozen BK495.out 0
       have hfz28_1 := blk_frozen BK495.out 1
       have hfz28_2 := blk_frozen BK495.out 2
       have hfz28_3 := blk_frozen BK495.out 3
       have hfz28_4 := blk_frozen BK495.out 4
       go_wp2
       go_meet
       case rel => exact ⟨_, (false), (by first | rfl | (simp; done) | (simp [*]; done)), H', ⟨by have := HK1.out; first | omega | exact Nat.le_refl _⟩, ⟨by (with_reducible repeat (first | refine blk_drewN ?_ _ | refine blk_drew ?_ | refine blk_alloc ?_ _)); refine blk_far ?_ NB495_497.out _; (with_reducible repeat (first | refine blk_drewN ?_ _ | refine blk_drew ?_ | refine blk_alloc ?_ _)); refine blk_far ?_ NB495_497.out _; (with_reducible repeat (first | refine blk_drewN ?_ _ | refine blk_drew ?_ | refine blk_alloc ?_ _)); refine blk_far ?_ NB495_497.out _; (with_reducible repeat (first | refine blk_drewN ?_ _ | refine blk_drew ?_ | refine blk_alloc ?_ _)); refine blk_far ?_ NB495_497.out _; (with_reducible repeat (first | refine blk_drewN ?_ _ | refine blk_drew ?_ | refine blk_alloc ?_ _)); refine blk_far ?_ NB495_497.out _; (with_reducible repeat (first | refine blk_drewN ?_ _ | refine blk_drew ?_ | refine blk_alloc ?_ _)); exact BK495.out⟩, ⟨by (with_reducible repeat (first | refine blk_drewN ?_ _ | refine blk_drew ?_ | refine blk_alloc ?_ _)); refine blk_put (cs := #[.int .i64 ((rd_T25 l0_4 x3_1).f0), .int .i64 ((rd_T25 l0_4 x3_1).f1), .string ((rd_T25 l0_4 x3_1).f2), .slice A496_3 ((rd_T25 l0_4 x3_1).f3).length c496_3, .slice none 0 0]) ?_ 4 _ rfl; (with_reducible repeat (first | refine blk_drewN ?_ _ | refine blk_drew ?_ | refine blk_alloc ?_ _)); refine blk_put (cs := #[.int .i64 ((rd_T25 l0_4 x3_1).f0), .int .i64 ((rd_T25 l0_4 x3_1).f1), .string ((rd_T25 l0_4 x3_1).f2), .slice none 0 0, .slice none 0 0]) ?_ 3 _ rfl; (with_reducible repeat (first | refine blk_drewN ?_ _ | refine blk_drew ?_ | refine blk_alloc ?_ _)); refine blk_put (cs := #[.int .i64 ((rd_T25 l0_4 x3_1).f0), .int .i64 ((rd_T25 l0_4 x3_1).f1), .string (⟨#[]⟩ : ByteArray), .slice none 0 0, .slice none 0 0]) ?_ 2 _ rfl; (with_reducible repeat (first | refine blk_drewN ?_ _ | refine blk_drew ?_ | refine blk_alloc ?_ _)); refine blk_put (cs := #[.int .i64 ((rd_T25 l0_4 x3_1).f0), .int .i64 0, .string (⟨#[]⟩ : ByteArray), .slice none 0 0, .slice none 0 0]) ?_ 1 _ rfl; (with_reducible repeat (first | refine blk_drewN ?_ _ | refine blk_drew ?_ | refine blk_alloc ?_ _)); refine blk_put (cs := #[.int .i64 0, .int .i64 0, .string (⟨#[]⟩ : ByteArray), .slice none 0 0, .slice none 0 0]) ?_ 0 _ rfl; (with_reducible repeat (first | refine blk_drewN ?_ _ | refine blk_drew ?_ | refine blk_alloc ?_ _)); exact BK497.out⟩, ⟨by repeat (first | (with_reducible first | exact HB.out | apply below_alloc | apply pw_below_drewN | apply below_drew1 | refine below_set ?_ GE495.out | refine below_set ?_ GE497.out) | exact HB.out)⟩⟩
     case rest =>
      clear HC5
      try clear c1
      try clear c2
      try clear p2
      try clear c3
      try clear c3b0
      try clear c4
      try clear c4b0
      try clear p4
      try clear q4
      try clear hx4
      try clear c8
      try clear c10
      try clear c10b0
      try clear c10b1
      try clear c11
      try clear c11b0
      try clear c13
      try clear c14
      try clear c14b0
      try clear c14b1
      try clear c15
      try clear c18
      try clear c18b0
      try clear c18b1
      try clear c19
      try clear c22
      try clear c25
      try clear c27
      try clear hcz16_0
      try clear hcz16_1
      try clear hcz16_2
      try clear hcz16_3
      try clear hcz16_4
      try clear hcz17_0
      try clear hcz17_1
      try clear hcz17_2
      try clear hcz17_3
      try clear hcz17_4
      try clear hcz20_0
      try clear hcz20_1
      try clear hcz20_2
      try clear hcz20_3
      try clear hcz20_4
      try clear hcz21_0
      try clear hcz21_1
      try clear hcz21_2
      try clear hcz21_3
      try clear hcz21_4
      try clear hcz23_0
      try clear hcz23_1
      try clear hcz23_2
      try clear hcz23_3
      try clear hcz23_4
      try clear hcz24_0
      try clear hcz24_1
      try clear hcz24_2
      try clear hcz24_3
      try clear hcz24_4
      try clear hcz26_0
      try clear hcz26_1
      try clear hcz26_2
      try clear hcz26_3
      try clear hcz26_4
      try clear hcz28_0
      try clear hcz28_1
      try clear hcz28_2
      try clear hcz28_3
      try clear hcz28_4
      try clear hcz6_0
      try clear hcz6_1
      try clear hcz6_2
      try clear hcz6_3
      try clear hcz6_4
      try clear hcz9_0
      try clear hcz9_1
      try clear hcz9_2
      try clear hcz9_3
      try clear hcz9_4
      try clear hfz16_0
      try clear hfz16_1
      try clear hfz16_2
      try clear hfz16_3
      try clear hfz16_4
      try clear hfz17_0
      try clear hfz17_1
      try clear hfz17_2
      try clear hfz17_3
      try clear hfz17_4
      try clear hfz20_0
      try clear hfz20_1
      try clear hfz20_2
      try clear hfz20_3
      try clear hfz20_4
      try clear hfz21_0
      try clear hfz21_1
      try clear hfz21_2
      try clear hfz21_3
      try clear hfz21_4
      try clear hfz23_0
      try clear hfz23_1
      try clear hfz23_2
      try clear hfz23_3
      try clear hfz23_4
      try clear hfz24_0
      try clear hfz24_1
      try clear hfz24_2
      try clear hfz24_3
      try clear hfz24_4
      try clear hfz26_0
      try clear hfz26_1
      try clear hfz26_2
      try clear hfz26_3
      try clear hfz26_4
      try clear hfz28_0
      try clear hfz28_1
      try clear hfz28_2
      try clear hfz28_3
      try clear hfz28_4
      try clear hfz6_0
      try clear hfz6_1
      try clear hfz6_2
      try clear hfz6_3
      try clear hfz6_4
      try clear hfz9_0
      try clear hfz9_1
      try clear hfz9_2
      try clear hfz9_3
      try clear hfz9_4
      try clear hx496_0
      try clear hx496_1
      try clear hx496_2
      try clear hx496_3
      try clear hx496_4
      try clear hx498_0
      try clear p2
      try clear p496
      try clear p498
      try clear q496
      try clear q498
      obtain ⟨kq, x45_4, rfl, HA, HJ4, BK495, BK497, HB⟩ := hcut
      cases kq with
      | zero => exact absurd HA.out (by simp [spec_sayPairs.j1])
      | succ kj4 =>
       have H := HA.out
       clear HA
       simp only [spec_sayPairs.j1] at H
       by_cases c29 : x45_4 = true
       ·subst c29
        have H1 : (some false) = some r := by rw [if_pos rfl] at H; exact H
        clear H
        have H := H1
        clear H1
        obtain rfl := Option.some.inj H
        go_wp2
        go_ret
        exact ⟨by first | rfl | (simp [errW_none, errW_some] <;> rfl) | (simp [*, errW_none, errW_some] <;> rfl), by repeat (first | (with_reducible first | exact HB.out | apply below_alloc | apply pw_below_drewN | apply below_drew1 | refine below_set ?_ GE495.out | refine below_set ?_ GE497.out) | exact HB.out)⟩
       ·replace c29 := Bool.eq_false_iff.mpr c29
        subst c29
        have H1 : (if a0_0 = 4 then ((spec_mergeSplit.f kj4 ((rd_T25 l0_4 x3_1).f2)).bind fun bt500 => (if ((rd_T25 l0_4 x3_1).f0) = 3 then ((spec_sayName.f kj4 bt500.1).bind fun t511 => (if t511 = true then (spec_sayPairs.l0 kj4 (wrap64 (x3_1 + 1)) a0_0 a0_1 a0_2 l0_3 l0_4) else (some false))) else (some false))) else (spec_sayPairs.l0 kj4 (wrap64 (x3_1 + 1)) a0_0 a0_1 a0_2 l0_3 l0_4)) = some r := by rw [if_neg (show ¬ (false = true) by decide)] at H; exact H
        clear H
        have H := H1
        clear H1
        by_cases c30 : a0_0 = 4
        ·rw [if_pos c30] at H
         have c30b0 : (a0_0 == 4) = true := beq_iff_eq.mpr c30
         have c30b1 : (a0_0 != 4) = false := bne_eq_false_iff_eq.mpr c30
         clear c30
         replace H := Option.bind_eq_some_iff.mp H
         obtain ⟨⟨t500, t501, t502, t503, t504, t507⟩, A310, H⟩ := H
         replace H : (if ((rd_T25 l0_4 x3_1).f0) = 3 then ((spec_sayName.f kj4 t500).bind fun t511 => (if t511 = true then (spec_sayPairs.l0 kj4 (wrap64 (x3_1 + 1)) a0_0 a0_1 a0_2 l0_3 l0_4) else (some false))) else (some false)) = some r := H
         have A31 := aM A310
         clear A310
         by_cases c32 : ((rd_T25 l0_4 x3_1).f0) = 3
         ·rw [if_pos c32] at H
          have c32b0 : (((rd_T25 l0_4 x3_1).f0) == 3) = true := beq_iff_eq.mpr c32
          have c32b1 : (((rd_T25 l0_4 x3_1).f0) != 3) = false := bne_eq_false_iff_eq.mpr c32
          clear c32
          replace H := Option.bind_eq_some_iff.mp H
          obtain ⟨t511, A330, H⟩ := H
          replace H : (if t511 = true then (spec_sayPairs.l0 kj4 (wrap64 (x3_1 + 1)) a0_0 a0_1 a0_2 l0_3 l0_4) else (some false)) = some r := H
          have A33 := aM A330
          clear A330
          by_cases c34 : t511 = true
          ·subst c34
           have H1 : (spec_sayPairs.l0 kj4 (wrap64 (x3_1 + 1)) a0_0 a0_1 a0_2 l0_3 l0_4) = some r := by rw [if_pos rfl] at H; exact H
           clear H
           have H := H1
           clear H1
           have H' := aM H
           clear H
           have hnb35 := NB495_497.out
           have hnc35 := NB497_495.out
           have hcz36_0 : wc.cell? ⟨gb495, 0, none⟩ = some (.int .i64 a0_0) := (blk_cell BK495.out 0).trans rfl
           have hcz36_1 : wc.cell? ⟨gb495, 1, none⟩ = some (.int .i64 a0_1) := (blk_cell BK495.out 1).trans rfl
           have hcz36_2 : wc.cell? ⟨gb495, 2, none⟩ = some (.string a0_2) := (blk_cell BK495.out 2).trans rfl
           have hcz36_3 : wc.cell? ⟨gb495, 3, none⟩ = some (.slice A0_3 l0_3.length c0_3) := (blk_cell BK495.out 3).trans rfl
           have hcz36_4 : wc.cell? ⟨gb495, 4, none⟩ = some (.slice (some ad496) l0_4.length c0_4) := (blk_cell BK495.out 4).trans rfl
           have hfz36_0 := blk_frozen BK495.out 0
           have hfz36_1 := blk_frozen BK495.out 1
           have hfz36_2 := blk_frozen BK495.out 2
           have hfz36_3 := blk_frozen BK495.out 3
           have hfz36_4 := blk_frozen BK495.out 4
           have hcz37_0 : wc.cell? ⟨gb497, 0, none⟩ = some (.int .i64 ((rd_T25 l0_4 x3_1).f0)) := (blk_cell BK497.out 0).trans rfl
           have hcz37_1 : wc.cell? ⟨gb497, 1, none⟩ = some (.int .i64 ((rd_T25 l0_4 x3_1).f1)) := (blk_cell BK497.out 1).trans rfl
           have hcz37_2 : wc.cell? ⟨gb497, 2, none⟩ = some (.string ((rd_T25 l0_4 x3_1).f2)) := (blk_cell BK497.out 2).trans rfl
           have hcz37_3 : wc.cell? ⟨gb497, 3, none⟩ = some (.slice A496_3 ((rd_T25 l0_4 x3_1).f3).length c496_3) := (blk_cell BK497.out 3).trans rfl
           have hcz37_4 : wc.cell? ⟨gb497, 4, none⟩ = some (.slice A496_4 ((rd_T25 l0_4 x3_1).f4).length c496_4) := (blk_cell BK497.out 4).trans rfl
           have hfz37_0 := blk_frozen BK497.out 0
           have hfz37_1 := blk_frozen BK497.out 1
           have hfz37_2 := blk_frozen BK497.out 2
           have hfz37_3 := blk_frozen BK497.out 3
           have hfz37_4 := blk_frozen BK497.out 4
           go_wp2_with (first | ((with_reducible refine gate_callee (f := 34) rfl ?_); refine goesL_ (some 52) rfl rfl Try.func34 (by kernel_rfl) rfl #[.string ((rd_T25 l0_4 x3_1).f2)] rfl (by (try simp only [List.map_toArray, List.map_cons, List.map_nil]); first | done | rfl | (simp only [List.length_drop, List.length_take]; rfl)) ?_; (with_reducible refine (spec_mergeSplit.calls kj4 ((rd_T25 l0_4 x3_1).f2) t500 t501 t502 t503 t504 t507 _ A31.out).mono ?_); rintro e w38 ⟨v505, v508, rfl, ho0, ho1, hb⟩; refine ⟨_, rfl, ?_⟩; have n0_ := aM (Kd.R_lower ho0 (below_size (by repeat (first | (with_reducible first | exact HB.out | apply below_alloc | apply pw_below_drewN | apply below_drew1 | refine below_set ?_ GE495.out | refine below_set ?_ GE497.out) | exact HB.out)))); have n1_ := aM (Kd.R_lower (Kd.R_newB (Kd.R_newB ho1 (g := gb495) (o := .cells #[.int .i64 a0_0, .int .i64 a0_1, .string a0_2, .slice A0_3 l0_3.length c0_3, .slice (some ad496) l0_4.length c0_4] 25 (0, 0)) (by (with_reducible repeat (first | refine blk_drewN ?_ _ | refine blk_drew ?_ | refine blk_alloc ?_ _)); exact BK495.out)) (g := gb497) (o := .cells #[.int .i64 ((rd_T25 l0_4 x3_1).f0), .int .i64 ((rd_T25 l0_4 x3_1).f1), .string ((rd_T25 l0_4 x3_1).f2), .slice A496_3 ((rd_T25 l0_4 x3_1).f3).length c496_3, .slice A496_4 ((rd_T25 l0_4 x3_1).f4).length c496_4] 25 (0, 0)) (by (with_reducible repeat (first | refine blk_drewN ?_ _ | refine blk_drew ?_ | refine blk_alloc ?_ _)); exact BK497.out)) (below_size (by repeat (first | (with_reducible first | exact HB.out | apply below_alloc | apply pw_below_drewN | apply below_drew1 | refine below_set ?_ GE495.out | refine below_set ?_ GE497.out) | exact HB.out)))); have n2_ := aM (blk_below (g := gb495) (o := .cells #[.int .i64 a0_0, .int .i64 a0_1, .string a0_2, .slice A0_3 l0_3.length c0_3, .slice (some ad496) l0_4.length c0_4] 25 (0, 0)) (by (with_reducible repeat (first | refine blk_drewN ?_ _ | refine blk_drew ?_ | refine blk_alloc ?_ _)); exact BK495.out) hb); have n3_ := aM (blk_below (g := gb497) (o := .cells #[.int .i64 ((rd_T25 l0_4 x3_1).f0), .int .i64 ((rd_T25 l0_4 x3_1).f1), .string ((rd_T25 l0_4 x3_1).f2), .slice A496_3 ((rd_T25 l0_4 x3_1).f3).length c496_3, .slice A496_4 ((rd_T25 l0_4 x3_1).f4).length c496_4] 25 (0, 0)) (by (with_reducible repeat (first | refine blk_drewN ?_ _ | refine blk_drew ?_ | refine blk_alloc ?_ _)); exact BK497.out) hb); have n4_ := aM (below_step (by repeat (first | (with_reducible first | exact HB.out | apply below_alloc | apply pw_below_drewN | apply below_drew1 | refine below_set ?_ GE495.out | refine below_set ?_ GE497.out) | exact HB.out)) hb); clear BK495; clear BK497; clear HB; have HO506 := n0_; have HO509 := n1_; have BK495 := n2_; have BK497 := n3_; have HB := n4_; clear n0_ n1_ n2_ n3_ n4_; (try clear hb); (try clear hb2); (try clear hk); (try clear hi); (try clear ho0); (try clear ho1)) | ((with_reducible refine gate_dst (N := 6) rfl ?_); (try (refine gate_guard (by rfl) ?_; dsimp only)); refine box_event ?hg (N := 6) ?hd (cs := #[.int .i64 0, .int .i64 0, .string (⟨#[]⟩ : ByteArray), .slice none 0 0, .slice none 0 0]) (t := 25) ?hr ?_; (case hd => rfl); (case hg => rfl); (case hr => first | (go_simp; done) | (go_simp; rfl)); intro gb510 hg w39 hbox hb; have n0_ := aM (Kd.R_below (by (with_reducible repeat (first | apply Kd.R_alloc | apply Kd.R_drewN | apply Kd.R_drew)); exact HO506.out) hb); have n1_ := aM (Kd.R_below (Kd.R_elderB (by (with_reducible repeat (first | apply Kd.R_alloc | apply Kd.R_drewN | apply Kd.R_drew)); exact HO509.out) gb510 (Nat.le_of_eq hg.symm)) hb); have n2_ := aM (blk_below (g := gb495) (o := .cells #[.int .i64 a0_0, .int .i64 a0_1, .string a0_2, .slice A0_3 l0_3.length c0_3, .slice (some ad496) l0_4.length c0_4] 25 (0, 0)) (by (with_reducible repeat (first | refine blk_drewN ?_ _ | refine blk_drew ?_ | refine blk_alloc ?_ _)); exact BK495.out) hb); have n3_ := aM (blk_below (g := gb497) (o := .cells #[.int .i64 ((rd_T25 l0_4 x3_1).f0), .int .i64 ((rd_T25 l0_4 x3_1).f1), .string ((rd_T25 l0_4 x3_1).f2), .slice A496_3 ((rd_T25 l0_4 x3_1).f3).length c496_3, .slice A496_4 ((rd_T25 l0_4 x3_1).f4).length c496_4] 25 (0, 0)) (by (with_reducible repeat (first | refine blk_drewN ?_ _ | refine blk_drew ?_ | refine blk_alloc ?_ _)); exact BK497.out) hb); have n4_ := aM (below_step (by repeat (first | (with_reducible first | exact HB.out | apply below_alloc | apply pw_below_drewN | apply below_drew1 | refine below_set ?_ GE495.out | refine below_set ?_ GE497.out) | exact HB.out)) hb); have n5_ := aM (hbox); have n6_ := aM ((by rw [hg]; exact (below_size (by repeat (first | (with_reducible first | exact HB.out | apply below_alloc | apply pw_below_drewN | apply below_drew1 | refine below_set ?_ GE495.out | refine below_set ?_ GE497.out) | exact HB.out))) : w.heap.size ≤ gb510)); have n7_ := aM ((by rw [hg]; exact (below_size (by repeat (first | (with_reducible first | exact HB.out | apply below_alloc | apply pw_below_drewN | apply below_drew1 | refine below_set ?_ GE495.out | refine below_set ?_ GE497.out) | exact HB.out))) : w.heap.size ≤ gb510)); have n8_ := aM ((by rw [hg]; exact Nat.ne_of_lt (blk_lt (g := gb495) (o := .cells #[.int .i64 a0_0, .int .i64 a0_1, .string a0_2, .slice A0_3 l0_3.length c0_3, .slice (some ad496) l0_4.length c0_4] 25 (0, 0)) (by (with_reducible repeat (first | refine blk_drewN ?_ _ | refine blk_drew ?_ | refine blk_alloc ?_ _)); exact BK495.out)) : gb495 ≠ gb510)); have n9_ := aM ((by rw [hg]; exact Nat.ne_of_gt (blk_lt (g := gb495) (o := .cells #[.int .i64 a0_0, .int .i64 a0_1, .string a0_2, .slice A0_3 l0_3.length c0_3, .slice (some ad496) l0_4.length c0_4] 25 (0, 0)) (by (with_reducible repeat (first | refine blk_drewN ?_ _ | refine blk_drew ?_ | refine blk_alloc ?_ _)); exact BK495.out)) : gb510 ≠ gb495)); have n10_ := aM ((by rw [hg]; exact Nat.ne_of_lt (blk_lt (g := gb497) (o := .cells #[.int .i64 ((rd_T25 l0_4 x3_1).f0), .int .i64 ((rd_T25 l0_4 x3_1).f1), .string ((rd_T25 l0_4 x3_1).f2), .slice A496_3 ((rd_T25 l0_4 x3_1).f3).length c496_3, .slice A496_4 ((rd_T25 l0_4 x3_1).f4).length c496_4] 25 (0, 0)) (by (with_reducible repeat (first | refine blk_drewN ?_ _ | refine blk_drew ?_ | refine blk_alloc ?_ _)); exact BK497.out)) : gb497 ≠ gb510)); have n11_ := aM ((by rw [hg]; exact Nat.ne_of_gt (blk_lt (g := gb497) (o := .cells #[.int .i64 ((rd_T25 l0_4 x3_1).f0), .int .i64 ((rd_T25 l0_4 x3_1).f1), .string ((rd_T25 l0_4 x3_1).f2), .slice A496_3 ((rd_T25 l0_4 x3_1).f3).length c496_3, .slice A496_4 ((rd_T25 l0_4 x3_1).f4).length c496_4] 25 (0, 0)) (by (with_reducible repeat (first | refine blk_drewN ?_ _ | refine blk_drew ?_ | refine blk_alloc ?_ _)); exact BK497.out)) : gb510 ≠ gb497)); clear HO506; clear HO509; clear BK495; clear BK497; clear HB; have HO506 := n0_; have HO509 := n1_; have BK495 := n2_; have BK497 := n3_; have HB := n4_; have BK510 := n5_; have GW510 := n6_; have GE510 := n7_; have NB495_510 := n8_; have NB510_495 := n9_; have NB497_510 := n10_; have NB510_497 := n11_; clear n0_ n1_ n2_ n3_ n4_ n5_ n6_ n7_ n8_ n9_ n10_ n11_; clear hb hbox hg; have hnb40 := NB510_495.out; have hnc40 := NB495_510.out; have hnb41 := NB510_497.out; have hnc41 := NB497_510.out; have hcz42_0 : w39.cell? ⟨gb510, 0, none⟩ = some (.int .i64 0) := (blk_cell BK510.out 0).trans rfl; have hcz42_1 : w39.cell? ⟨gb510, 1, none⟩ = some (.int .i64 0) := (blk_cell BK510.out 1).trans rfl; have hcz42_2 : w39.cell? ⟨gb510, 2, none⟩ = some (.string (⟨#[]⟩ : ByteArray)) := (blk_cell BK510.out 2).trans rfl; have hcz42_3 : w39.cell? ⟨gb510, 3, none⟩ = some (.slice none 0 0) := (blk_cell BK510.out 3).trans rfl; have hcz42_4 : w39.cell? ⟨gb510, 4, none⟩ = some (.slice none 0 0) := (blk_cell BK510.out 4).trans rfl; have hfz42_0 := blk_frozen BK510.out 0; have hfz42_1 := blk_frozen BK510.out 1; have hfz42_2 := blk_frozen BK510.out 2; have hfz42_3 := blk_frozen BK510.out 3; have hfz42_4 := blk_frozen BK510.out 4; obtain ⟨Ao43, co43, eo43⟩ := Kd.R_slice HO506.out; subst eo43; obtain ⟨Ao44, co44, eo44⟩ := Kd.R_slice HO509.out; subst eo44; have hcz45_0 : w39.cell? ⟨gb497, 0, none⟩ = some (.int .i64 ((rd_T25 l0_4 x3_1).f0)) := (blk_cell BK497.out 0).trans rfl; have hcz45_1 : w39.cell? ⟨gb497, 1, none⟩ = some (.int .i64 ((rd_T25 l0_4 x3_1).f1)) := (blk_cell BK497.out 1).trans rfl; have hcz45_2 : w39.cell? ⟨gb497, 2, none⟩ = some (.string ((rd_T25 l0_4 x3_1).f2)) := (blk_cell BK497.out 2).trans rfl; have hcz45_3 : w39.cell? ⟨gb497, 3, none⟩ = some (.slice A496_3 ((rd_T25 l0_4 x3_1).f3).length c496_3) := (blk_cell BK497.out 3).trans rfl; have hcz45_4 : w39.cell? ⟨gb497, 4, none⟩ = some (.slice A496_4 ((rd_T25 l0_4 x3_1).f4).length c496_4) := (blk_cell BK497.out 4).trans rfl; have hfz45_0 := blk_frozen BK497.out 0; have hfz45_1 := blk_frozen BK497.out 1; have hfz45_2 := blk_frozen BK497.out 2; have hfz45_3 := blk_frozen BK497.out 3; have hfz45_4 := blk_frozen BK497.out 4) | (go_at_call 40; (with_reducible refine (spec_sayName.calls kj4 t500 true _ A33.out).mono ?_); rintro e w' ⟨rfl, ⟨nd, rfl⟩⟩))
           go_roundg kj4
           case measure => have := HK1.out; have := HJ4.out; omega
           case rel => exact ⟨(wrap64 (x3_1 + 1)), (by first | rfl | (simp; done) | (simp [*]; done)), H', ⟨by have := HK1.out; have := HJ4.out; omega⟩, ⟨by (with_reducible repeat (first | refine blk_drewN ?_ _ | refine blk_drew ?_ | refine blk_alloc ?_ _)); refine blk_far ?_ NB495_510.out _; (with_reducible repeat (first | refine blk_drewN ?_ _ | refine blk_drew ?_ | refine blk_alloc ?_ _)); refine blk_far ?_ NB495_510.out _; (with_reducible repeat (first | refine blk_drewN ?_ _ | refine blk_drew ?_ | refine blk_alloc ?_ _)); refine blk_far ?_ NB495_510.out _; (with_reducible repeat (first | refine blk_drewN ?_ _ | refine blk_drew ?_ | refine blk_alloc ?_ _)); refine blk_far ?_ NB495_510.out _; (with_reducible repeat (first | refine blk_drewN ?_ _ | refine blk_drew ?_ | refine blk_alloc ?_ _)); refine blk_far ?_ NB495_510.out _; (with_reducible repeat (first | refine blk_drewN ?_ _ | refine blk_drew ?_ | refine blk_alloc ?_ _)); exact BK495.out⟩, ⟨by repeat (first | (with_reducible first | exact HB.out | apply below_alloc | apply pw_below_drewN | apply below_drew1 | refine below_set ?_ GE495.out | refine below_set ?_ GE497.out | refine below_set ?_ GE510.out) | exact HB.out)⟩⟩
          ·replace c34 := Bool.eq_false_iff.mpr c34
           subst c34
           have H1 : (some false) = some r := by rw [if_neg (show ¬ (false = true) by decide)] at H; exact H
           clear H
           have H := H1
           clear H1
           obtain rfl := Option.some.inj H
           have hnb46 := NB495_497.out
           have hnc46 := NB497_495.out
           have hcz47_0 : wc.cell? ⟨gb495, 0, none⟩ = some (.int .i64 a0_0) := (blk_cell BK495.out 0).trans rfl
           have hcz47_1 : wc.cell? ⟨gb495, 1, none⟩ = some (.int .i64 a0_1) := (blk_cell BK495.out 1).trans rfl
           have hcz47_2 : wc.cell? ⟨gb495, 2, none⟩ = some (.string a0_2) := (blk_cell BK495.out 2).trans rfl
           have hcz47_3 : wc.cell? ⟨gb495, 3, none⟩ = some (.slice A0_3 l0_3.length c0_3) := (blk_cell BK495.out 3).trans rfl
           have hcz47_4 : wc.cell? ⟨gb495, 4, none⟩ = some (.slice (some ad496) l0_4.length c0_4) := (blk_cell BK495.out 4).trans rfl
           have hfz47_0 := blk_frozen BK495.out 0
           have hfz47_1 := blk_frozen BK495.out 1
           have hfz47_2 := blk_frozen BK495.out 2
           have hfz47_3 := blk_frozen BK495.out 3
           have hfz47_4 := blk_frozen BK495.out 4
           have hcz48_0 : wc.cell? ⟨gb497, 0, none⟩ = some (.int .i64 ((rd_T25 l0_4 x3_1).f0)) := (blk_cell BK497.out 0).trans rfl
           have hcz48_1 : wc.cell? ⟨gb497, 1, none⟩ = some (.int .i64 ((rd_T25 l0_4 x3_1).f1)) := (blk_cell BK497.out 1).trans rfl
           have hcz48_2 : wc.cell? ⟨gb497, 2, none⟩ = some (.string ((rd_T25 l0_4 x3_1).f2)) := (blk_cell BK497.out 2).trans rfl
           have hcz48_3 : wc.cell? ⟨gb497, 3, none⟩ = some (.slice A496_3 ((rd_T25 l0_4 x3_1).f3).length c496_3) := (blk_cell BK497.out 3).trans rfl
           have hcz48_4 : wc.cell? ⟨gb497, 4, none⟩ = some (.slice A496_4 ((rd_T25 l0_4 x3_1).f4).length c496_4) := (blk_cell BK497.out 4).trans rfl
           have hfz48_0 := blk_frozen BK497.out 0
           have hfz48_1 := blk_frozen BK497.out 1
           have hfz48_2 := blk_frozen BK497.out 2
           have hfz48_3 := blk_frozen BK497.out 3
           have hfz48_4 := blk_frozen BK497.out 4
           go_wp2_with (first | ((with_reducible refine gate_callee (f := 34) rfl ?_); refine goesL_ (some 52) rfl rfl Try.func34 (by kernel_rfl) rfl #[.string ((rd_T25 l0_4 x3_1).f2)] rfl (by (try simp only [List.map_toArray, List.map_cons, List.map_nil]); first | done | rfl | (simp only [List.length_drop, List.length_take]; rfl)) ?_; (with_reducible refine (spec_mergeSplit.calls kj4 ((rd_T25 l0_4 x3_1).f2) t500 t501 t502 t503 t504 t507 _ A31.out).mono ?_); rintro e w49 ⟨v505, v508, rfl, ho0, ho1, hb⟩; refine ⟨_, rfl, ?_⟩; have n0_ := aM (Kd.R_lower ho0 (below_size (by repeat (first | (with_reducible first | exact HB.out | apply below_alloc | apply pw_below_drewN | apply below_drew1 | refine below_set ?_ GE495.out | refine below_set ?_ GE497.out) | exact HB.out)))); have n1_ := aM (Kd.R_lower (Kd.R_newB (Kd.R_newB ho1 (g := gb495) (o := .cells #[.int .i64 a0_0, .int .i64 a0_1, .string a0_2, .slice A0_3 l0_3.length c0_3, .slice (some ad496) l0_4.length c0_4] 25 (0, 0)) (by (with_reducible repeat (first | refine blk_drewN ?_ _ | refine blk_drew ?_ | refine blk_alloc ?_ _)); exact BK495.out)) (g := gb497) (o := .cells #[.int .i64 ((rd_T25 l0_4 x3_1).f0), .int .i64 ((rd_T25 l0_4 x3_1).f1), .string ((rd_T25 l0_4 x3_1).f2), .slice A496_3 ((rd_T25 l0_4 x3_1).f3).length c496_3, .slice A496_4 ((rd_T25 l0_4 x3_1).f4).length c496_4] 25 (0, 0)) (by (with_reducible repeat (first | refine blk_drewN ?_ _ | refine blk_drew ?_ | refine blk_alloc ?_ _)); exact BK497.out)) (below_size (by repeat (first | (with_reducible first | exact HB.out | apply below_alloc | apply pw_below_drewN | apply below_drew1 | refine below_set ?_ GE495.out | refine below_set ?_ GE497.out) | exact HB.out)))); have n2_ := aM (blk_below (g := gb495) (o := .cells #[.int .i64 a0_0, .int .i64 a0_1, .string a0_2, .slice A0_3 l0_3.length c0_3, .slice (some ad496) l0_4.length c0_4] 25 (0, 0)) (by (with_reducible repeat (first | refine blk_drewN ?_ _ | refine blk_drew ?_ | refine blk_alloc ?_ _)); exact BK495.out) hb); have n3_ := aM (blk_below (g := gb497) (o := .cells #[.int .i64 ((rd_T25 l0_4 x3_1).f0), .int .i64 ((rd_T25 l0_4 x3_1).f1), .string ((rd_T25 l0_4 x3_1).f2), .slice A496_3 ((rd_T25 l0_4 x3_1).f3).length c496_3, .slice A496_4 ((rd_T25 l0_4 x3_1).f4).length c496_4] 25 (0, 0)) (by (with_reducible repeat (first | refine blk_drewN ?_ _ | refine blk_drew ?_ | refine blk_alloc ?_ _)); exact BK497.out) hb); have n4_ := aM (below_step (by repeat (first | (with_reducible first | exact HB.out | apply below_alloc | apply pw_below_drewN | apply below_drew1 | refine below_set ?_ GE495.out | refine below_set ?_ GE497.out) | exact HB.out)) hb); clear BK495; clear BK497; clear HB; have HO506 := n0_; have HO509 := n1_; have BK495 := n2_; have BK497 := n3_; have HB := n4_; clear n0_ n1_ n2_ n3_ n4_; (try clear hb); (try clear hb2); (try clear hk); (try clear hi); (try clear ho0); (try clear ho1)) | ((with_reducible refine gate_dst (N := 6) rfl ?_); (try (refine gate_guard (by rfl) ?_; dsimp only)); refine box_event ?hg (N := 6) ?hd (cs := #[.int .i64 0, .int .i64 0, .string (⟨#[]⟩ : ByteArray), .slice none 0 0, .slice none 0 0]) (t := 25) ?hr ?_; (case hd => rfl); (case hg => rfl); (case hr => first | (go_simp; done) | (go_simp; rfl)); intro gb510 hg w50 hbox hb; have n0_ := aM (Kd.R_below (by (with_reducible repeat (first | apply Kd.R_alloc | apply Kd.R_drewN | apply Kd.R_drew)); exact HO506.out) hb); have n1_ := aM (Kd.R_below (Kd.R_elderB (by (with_reducible repeat (first | apply Kd.R_alloc | apply Kd.R_drewN | apply Kd.R_drew)); exact HO509.out) gb510 (Nat.le_of_eq hg.symm)) hb); have n2_ := aM (blk_below (g := gb495) (o := .cells #[.int .i64 a0_0, .int .i64 a0_1, .string a0_2, .slice A0_3 l0_3.length c0_3, .slice (some ad496) l0_4.length c0_4] 25 (0, 0)) (by (with_reducible repeat (first | refine blk_drewN ?_ _ | refine blk_drew ?_ | refine blk_alloc ?_ _)); exact BK495.out) hb); have n3_ := aM (blk_below (g := gb497) (o := .cells #[.int .i64 ((rd_T25 l0_4 x3_1).f0), .int .i64 ((rd_T25 l0_4 x3_1).f1), .string ((rd_T25 l0_4 x3_1).f2), .slice A496_3 ((rd_T25 l0_4 x3_1).f3).length c496_3, .slice A496_4 ((rd_T25 l0_4 x3_1).f4).length c496_4] 25 (0, 0)) (by (with_reducible repeat (first | refine blk_drewN ?_ _ | refine blk_drew ?_ | refine blk_alloc ?_ _)); exact BK497.out) hb); have n4_ := aM (below_step (by repeat (first | (with_reducible first | exact HB.out | apply below_alloc | apply pw_below_drewN | apply below_drew1 | refine below_set ?_ GE495.out | refine below_set ?_ GE497.out) | exact HB.out)) hb); have n5_ := aM (hbox); have n6_ := aM ((by rw [hg]; exact (below_size (by repeat (first | (with_reducible first | exact HB.out | apply below_alloc | apply pw_below_drewN | apply below_drew1 | refine below_set ?_ GE495.out | refine below_set ?_ GE497.out) | exact HB.out))) : w.heap.size ≤ gb510)); have n7_ := aM ((by rw [hg]; exact (below_size (by repeat (first | (with_reducible first | exact HB.out | apply below_alloc | apply pw_below_drewN | apply below_drew1 | refine below_set ?_ GE495.out | refine below_set ?_ GE497.out) | exact HB.out))) : w.heap.size ≤ gb510)); have n8_ := aM ((by rw [hg]; exact Nat.ne_of_lt (blk_lt (g := gb495) (o := .cells #[.int .i64 a0_0, .int .i64 a0_1, .string a0_2, .slice A0_3 l0_3.length c0_3, .slice (some ad496) l0_4.length c0_4] 25 (0, 0)) (by (with_reducible repeat (first | refine blk_drewN ?_ _ | refine blk_drew ?_ | refine blk_alloc ?_ _)); exact BK495.out)) : gb495 ≠ gb510)); have n9_ := aM ((by rw [hg]; exact Nat.ne_of_gt (blk_lt (g := gb495) (o := .cells #[.int .i64 a0_0, .int .i64 a0_1, .string a0_2, .slice A0_3 l0_3.length c0_3, .slice (some ad496) l0_4.length c0_4] 25 (0, 0)) (by (with_reducible repeat (first | refine blk_drewN ?_ _ | refine blk_drew ?_ | refine blk_alloc ?_ _)); exact BK495.out)) : gb510 ≠ gb495)); have n10_ := aM ((by rw [hg]; exact Nat.ne_of_lt (blk_lt (g := gb497) (o := .cells #[.int .i64 ((rd_T25 l0_4 x3_1).f0), .int .i64 ((rd_T25 l0_4 x3_1).f1), .string ((rd_T25 l0_4 x3_1).f2), .slice A496_3 ((rd_T25 l0_4 x3_1).f3).length c496_3, .slice A496_4 ((rd_T25 l0_4 x3_1).f4).length c496_4] 25 (0, 0)) (by (with_reducible repeat (first | refine blk_drewN ?_ _ | refine blk_drew ?_ | refine blk_alloc ?_ _)); exact BK497.out)) : gb497 ≠ gb510)); have n11_ := aM ((by rw [hg]; exact Nat.ne_of_gt (blk_lt (g := gb497) (o := .cells #[.int .i64 ((rd_T25 l0_4 x3_1).f0), .int .i64 ((rd_T25 l0_4 x3_1).f1), .string ((rd_T25 l0_4 x3_1).f2), .slice A496_3 ((rd_T25 l0_4 x3_1).f3).length c496_3, .slice A496_4 ((rd_T25 l0_4 x3_1).f4).length c496_4] 25 (0, 0)) (by (with_reducible repeat (first | refine blk_drewN ?_ _ | refine blk_drew ?_ | refine blk_alloc ?_ _)); exact BK497.out)) : gb510 ≠ gb497)); clear HO506; clear HO509; clear BK495; clear BK497; clear HB; have HO506 := n0_; have HO509 := n1_; have BK495 := n2_; have BK497 := n3_; have HB := n4_; have BK510 := n5_; have GW510 := n6_; have GE510 := n7_; have NB495_510 := n8_; have NB510_495 := n9_; have NB497_510 := n10_; have NB510_497 := n11_; clear n0_ n1_ n2_ n3_ n4_ n5_ n6_ n7_ n8_ n9_ n10_ n11_; clear hb hbox hg; have hnb51 := NB510_495.out; have hnc51 := NB495_510.out; have hnb52 := NB510_497.out; have hnc52 := NB497_510.out; have hcz53_0 : w50.cell? ⟨gb510, 0, none⟩ = some (.int .i64 0) := (blk_cell BK510.out 0).trans rfl; have hcz53_1 : w50.cell? ⟨gb510, 1, none⟩ = some (.int .i64 0) := (blk_cell BK510.out 1).trans rfl; have hcz53_2 : w50.cell? ⟨gb510, 2, none⟩ = some (.string (⟨#[]⟩ : ByteArray)) := (blk_cell BK510.out 2).trans rfl; have hcz53_3 : w50.cell? ⟨gb510, 3, none⟩ = some (.slice none 0 0) := (blk_cell BK510.out 3).trans rfl; have hcz53_4 : w50.cell? ⟨gb510, 4, none⟩ = some (.slice none 0 0) := (blk_cell BK510.out 4).trans rfl; have hfz53_0 := blk_frozen BK510.out 0; have hfz53_1 := blk_frozen BK510.out 1; have hfz53_2 := blk_frozen BK510.out 2; have hfz53_3 := blk_frozen BK510.out 3; have hfz53_4 := blk_frozen BK510.out 4; obtain ⟨Ao54, co54, eo54⟩ := Kd.R_slice HO506.out; subst eo54; obtain ⟨Ao55, co55, eo55⟩ := Kd.R_slice HO509.out; subst eo55; have hcz56_0 : w50.cell? ⟨gb497, 0, none⟩ = some (.int .i64 ((rd_T25 l0_4 x3_1).f0)) := (blk_cell BK497.out 0).trans rfl; have hcz56_1 : w50.cell? ⟨gb497, 1, none⟩ = some (.int .i64 ((rd_T25 l0_4 x3_1).f1)) := (blk_cell BK497.out 1).trans rfl; have hcz56_2 : w50.cell? ⟨gb497, 2, none⟩ = some (.string ((rd_T25 l0_4 x3_1).f2)) := (blk_cell BK497.out 2).trans rfl; have hcz56_3 : w50.cell? ⟨gb497, 3, none⟩ = some (.slice A496_3 ((rd_T25 l0_4 x3_1).f3).length c496_3) := (blk_cell BK497.out 3).trans rfl; have hcz56_4 : w50.cell? ⟨gb497, 4, none⟩ = some (.slice A496_4 ((rd_T25 l0_4 x3_1).f4).length c496_4) := (blk_cell BK497.out 4).trans rfl; have hfz56_0 := blk_frozen BK497.out 0; have hfz56_1 := blk_frozen BK497.out 1; have hfz56_2 := blk_frozen BK497.out 2; have hfz56_3 := blk_frozen BK497.out 3; have hfz56_4 := blk_frozen BK497.out 4) | (go_at_call 40; (with_reducible refine (spec_sayName.calls kj4 t500 false _ A33.out).mono ?_); rintro e w' ⟨rfl, ⟨nd, rfl⟩⟩))
           go_ret
           exact ⟨by first | rfl | (simp [errW_none, errW_some] <;> rfl) | (simp [*, errW_none, errW_some] <;> rfl), by repeat (first | (with_reducible first | exact HB.out | apply below_alloc | apply pw_below_drewN | apply below_drew1 | refine below_set ?_ GE495.out | refine below_set ?_ GE497.out | refine below_set ?_ GE510.out) | exact HB.out)⟩
         ·rw [if_neg c32] at H
          have c32b0 : (((rd_T25 l0_4 x3_1).f0) == 3) = false := beq_eq_false_iff_ne.mpr c32
          have c32b1 : (((rd_T25 l0_4 x3_1).f0) != 3) = true := bne_iff_ne.mpr c32
          obtain rfl := Option.some.inj H
          have hnb57 := NB495_497.out
          have hnc57 := NB497_495.out
          have hcz58_0 : wc.cell? ⟨gb495, 0, none⟩ = some (.int .i64 a0_0) := (blk_cell BK495.out 0).trans rfl
          have hcz58_1 : wc.cell? ⟨gb495, 1, none⟩ = some (.int .i64 a0_1) := (blk_cell BK495.out 1).trans rfl
          have hcz58_2 : wc.cell? ⟨gb495, 2, none⟩ = some (.string a0_2) := (blk_cell BK495.out 2).trans rfl
          have hcz58_3 : wc.cell? ⟨gb495, 3, none⟩ = some (.slice A0_3 l0_3.length c0_3) := (blk_cell BK495.out 3).trans rfl
          have hcz58_4 : wc.cell? ⟨gb495, 4, none⟩ = some (.slice (some ad496) l0_4.length c0_4) := (blk_cell BK495.out 4).trans rfl
          have hfz58_0 := blk_frozen BK495.out 0
          have hfz58_1 := blk_frozen BK495.out 1
          have hfz58_2 := blk_frozen BK495.out 2
          have hfz58_3 := blk_frozen BK495.out 3
          have hfz58_4 := blk_frozen BK495.out 4
          have hcz59_0 : wc.cell? ⟨gb497, 0, none⟩ = some (.int .i64 ((rd_T25 l0_4 x3_1).f0)) := (blk_cell BK497.out 0).trans rfl
          have hcz59_1 : wc.cell? ⟨gb497, 1, none⟩ = some (.int .i64 ((rd_T25 l0_4 x3_1).f1)) := (blk_cell BK497.out 1).trans rfl
          have hcz59_2 : wc.cell? ⟨gb497, 2, none⟩ = some (.string ((rd_T25 l0_4 x3_1).f2)) := (blk_cell BK497.out 2).trans rfl
          have hcz59_3 : wc.cell? ⟨gb497, 3, none⟩ = some (.slice A496_3 ((rd_T25 l0_4 x3_1).f3).length c496_3) := (blk_cell BK497.out 3).trans rfl
          have hcz59_4 : wc.cell? ⟨gb497, 4, none⟩ = some (.slice A496_4 ((rd_T25 l0_4 x3_1).f4).length c496_4) := (blk_cell BK497.out 4).trans rfl
          have hfz59_0 := blk_frozen BK497.out 0
          have hfz59_1 := blk_frozen BK497.out 1
          have hfz59_2 := blk_frozen BK497.out 2
          have hfz59_3 := blk_frozen BK497.out 3
          have hfz59_4 := blk_frozen BK497.out 4
          go_wp2_with (first | ((with_reducible refine gate_callee (f := 34) rfl ?_); refine goesL_ (some 52) rfl rfl Try.func34 (by kernel_rfl) rfl #[.string ((rd_T25 l0_4 x3_1).f2)] rfl (by (try simp only [List.map_toArray, List.map_cons, List.map_nil]); first | done | rfl | (simp only [List.length_drop, List.length_take]; rfl)) ?_; (with_reducible refine (spec_mergeSplit.calls kj4 ((rd_T25 l0_4 x3_1).f2) t500 t501 t502 t503 t504 t507 _ A31.out).mono ?_); rintro e w60 ⟨v505, v508, rfl, ho0, ho1, hb⟩; refine ⟨_, rfl, ?_⟩; have n0_ := aM (Kd.R_lower ho0 (below_size (by repeat (first | (with_reducible first | exact HB.out | apply below_alloc | apply pw_below_drewN | apply below_drew1 | refine below_set ?_ GE495.out | refine below_set ?_ GE497.out) | exact HB.out)))); have n1_ := aM (Kd.R_lower (Kd.R_newB (Kd.R_newB ho1 (g := gb495) (o := .cells #[.int .i64 a0_0, .int .i64 a0_1, .string a0_2, .slice A0_3 l0_3.length c0_3, .slice (some ad496) l0_4.length c0_4] 25 (0, 0)) (by (with_reducible repeat (first | refine blk_drewN ?_ _ | refine blk_drew ?_ | refine blk_alloc ?_ _)); exact BK495.out)) (g := gb497) (o := .cells #[.int .i64 ((rd_T25 l0_4 x3_1).f0), .int .i64 ((rd_T25 l0_4 x3_1).f1), .string ((rd_T25 l0_4 x3_1).f2), .slice A496_3 ((rd_T25 l0_4 x3_1).f3).length c496_3, .slice A496_4 ((rd_T25 l0_4 x3_1).f4).length c496_4] 25 (0, 0)) (by (with_reducible repeat (first | refine blk_drewN ?_ _ | refine blk_drew ?_ | refine blk_alloc ?_ _)); exact BK497.out)) (below_size (by repeat (first | (with_reducible first | exact HB.out | apply below_alloc | apply pw_below_drewN | apply below_drew1 | refine below_set ?_ GE495.out | refine below_set ?_ GE497.out) | exact HB.out)))); have n2_ := aM (blk_below (g := gb495) (o := .cells #[.int .i64 a0_0, .int .i64 a0_1, .string a0_2, .slice A0_3 l0_3.length c0_3, .slice (some ad496) l0_4.length c0_4] 25 (0, 0)) (by (with_reducible repeat (first | refine blk_drewN ?_ _ | refine blk_drew ?_ | refine blk_alloc ?_ _)); exact BK495.out) hb); have n3_ := aM (blk_below (g := gb497) (o := .cells #[.int .i64 ((rd_T25 l0_4 x3_1).f0), .int .i64 ((rd_T25 l0_4 x3_1).f1), .string ((rd_T25 l0_4 x3_1).f2), .slice A496_3 ((rd_T25 l0_4 x3_1).f3).length c496_3, .slice A496_4 ((rd_T25 l0_4 x3_1).f4).length c496_4] 25 (0, 0)) (by (with_reducible repeat (first | refine blk_drewN ?_ _ | refine blk_drew ?_ | refine blk_alloc ?_ _)); exact BK497.out) hb); have n4_ := aM (below_step (by repeat (first | (with_reducible first | exact HB.out | apply below_alloc | apply pw_below_drewN | apply below_drew1 | refine below_set ?_ GE495.out | refine below_set ?_ GE497.out) | exact HB.out)) hb); clear BK495; clear BK497; clear HB; have HO506 := n0_; have HO509 := n1_; have BK495 := n2_; have BK497 := n3_; have HB := n4_; clear n0_ n1_ n2_ n3_ n4_; (try clear hb); (try clear hb2); (try clear hk); (try clear hi); (try clear ho0); (try clear ho1)) | ((with_reducible refine gate_dst (N := 6) rfl ?_); (try (refine gate_guard (by rfl) ?_; dsimp only)); refine box_event ?hg (N := 6) ?hd (cs := #[.int .i64 0, .int .i64 0, .string (⟨#[]⟩ : ByteArray), .slice none 0 0, .slice none 0 0]) (t := 25) ?hr ?_; (case hd => rfl); (case hg => rfl); (case hr => first | (go_simp; done) | (go_simp; rfl)); intro gb510 hg w61 hbox hb; have n0_ := aM (Kd.R_below (by (with_reducible repeat (first | apply Kd.R_alloc | apply Kd.R_drewN | apply Kd.R_drew)); exact HO506.out) hb); have n1_ := aM (Kd.R_below (Kd.R_elderB (by (with_reducible repeat (first | apply Kd.R_alloc | apply Kd.R_drewN | apply Kd.R_drew)); exact HO509.out) gb510 (Nat.le_of_eq hg.symm)) hb); have n2_ := aM (blk_below (g := gb495) (o := .cells #[.int .i64 a0_0, .int .i64 a0_1, .string a0_2, .slice A0_3 l0_3.length c0_3, .slice (some ad496) l0_4.length c0_4] 25 (0, 0)) (by (with_reducible repeat (first | refine blk_drewN ?_ _ | refine blk_drew ?_ | refine blk_alloc ?_ _)); exact BK495.out) hb); have n3_ := aM (blk_below (g := gb497) (o := .cells #[.int .i64 ((rd_T25 l0_4 x3_1).f0), .int .i64 ((rd_T25 l0_4 x3_1).f1), .string ((rd_T25 l0_4 x3_1).f2), .slice A496_3 ((rd_T25 l0_4 x3_1).f3).length c496_3, .slice A496_4 ((rd_T25 l0_4 x3_1).f4).length c496_4] 25 (0, 0)) (by (with_reducible repeat (first | refine blk_drewN ?_ _ | refine blk_drew ?_ | refine blk_alloc ?_ _)); exact BK497.out) hb); have n4_ := aM (below_step (by repeat (first | (with_reducible first | exact HB.out | apply below_alloc | apply pw_below_drewN | apply below_drew1 | refine below_set ?_ GE495.out | refine below_set ?_ GE497.out) | exact HB.out)) hb); have n5_ := aM (hbox); have n6_ := aM ((by rw [hg]; exact (below_size (by repeat (first | (with_reducible first | exact HB.out | apply below_alloc | apply pw_below_drewN | apply below_drew1 | refine below_set ?_ GE495.out | refine below_set ?_ GE497.out) | exact HB.out))) : w.heap.size ≤ gb510)); have n7_ := aM ((by rw [hg]; exact (below_size (by repeat (first | (with_reducible first | exact HB.out | apply below_alloc | apply pw_below_drewN | apply below_drew1 | refine below_set ?_ GE495.out | refine below_set ?_ GE497.out) | exact HB.out))) : w.heap.size ≤ gb510)); have n8_ := aM ((by rw [hg]; exact Nat.ne_of_lt (blk_lt (g := gb495) (o := .cells #[.int .i64 a0_0, .int .i64 a0_1, .string a0_2, .slice A0_3 l0_3.length c0_3, .slice (some ad496) l0_4.length c0_4] 25 (0, 0)) (by (with_reducible repeat (first | refine blk_drewN ?_ _ | refine blk_drew ?_ | refine blk_alloc ?_ _)); exact BK495.out)) : gb495 ≠ gb510)); have n9_ := aM ((by rw [hg]; exact Nat.ne_of_gt (blk_lt (g := gb495) (o := .cells #[.int .i64 a0_0, .int .i64 a0_1, .string a0_2, .slice A0_3 l0_3.length c0_3, .slice (some ad496) l0_4.length c0_4] 25 (0, 0)) (by (with_reducible repeat (first | refine blk_drewN ?_ _ | refine blk_drew ?_ | refine blk_alloc ?_ _)); exact BK495.out)) : gb510 ≠ gb495)); have n10_ := aM ((by rw [hg]; exact Nat.ne_of_lt (blk_lt (g := gb497) (o := .cells #[.int .i64 ((rd_T25 l0_4 x3_1).f0), .int .i64 ((rd_T25 l0_4 x3_1).f1), .string ((rd_T25 l0_4 x3_1).f2), .slice A496_3 ((rd_T25 l0_4 x3_1).f3).length c496_3, .slice A496_4 ((rd_T25 l0_4 x3_1).f4).length c496_4] 25 (0, 0)) (by (with_reducible repeat (first | refine blk_drewN ?_ _ | refine blk_drew ?_ | refine blk_alloc ?_ _)); exact BK497.out)) : gb497 ≠ gb510)); have n11_ := aM ((by rw [hg]; exact Nat.ne_of_gt (blk_lt (g := gb497) (o := .cells #[.int .i64 ((rd_T25 l0_4 x3_1).f0), .int .i64 ((rd_T25 l0_4 x3_1).f1), .string ((rd_T25 l0_4 x3_1).f2), .slice A496_3 ((rd_T25 l0_4 x3_1).f3).length c496_3, .slice A496_4 ((rd_T25 l0_4 x3_1).f4).length c496_4] 25 (0, 0)) (by (with_reducible repeat (first | refine blk_drewN ?_ _ | refine blk_drew ?_ | refine blk_alloc ?_ _)); exact BK497.out)) : gb510 ≠ gb497)); clear HO506; clear HO509; clear BK495; clear BK497; clear HB; have HO506 := n0_; have HO509 := n1_; have BK495 := n2_; have BK497 := n3_; have HB := n4_; have BK510 := n5_; have GW510 := n6_; have GE510 := n7_; have NB495_510 := n8_; have NB510_495 := n9_; have NB497_510 := n10_; have NB510_497 := n11_; clear n0_ n1_ n2_ n3_ n4_ n5_ n6_ n7_ n8_ n9_ n10_ n11_; clear hb hbox hg; have hnb62 := NB510_495.out; have hnc62 := NB495_510.out; have hnb63 := NB510_497.out; have hnc63 := NB497_510.out; have hcz64_0 : w61.cell? ⟨gb510, 0, none⟩ = some (.int .i64 0) := (blk_cell BK510.out 0).trans rfl; have hcz64_1 : w61.cell? ⟨gb510, 1, none⟩ = some (.int .i64 0) := (blk_cell BK510.out 1).trans rfl; have hcz64_2 : w61.cell? ⟨gb510, 2, none⟩ = some (.string (⟨#[]⟩ : ByteArray)) := (blk_cell BK510.out 2).trans rfl; have hcz64_3 : w61.cell? ⟨gb510, 3, none⟩ = some (.slice none 0 0) := (blk_cell BK510.out 3).trans rfl; have hcz64_4 : w61.cell? ⟨gb510, 4, none⟩ = some (.slice none 0 0) := (blk_cell BK510.out 4).trans rfl; have hfz64_0 := blk_frozen BK510.out 0; have hfz64_1 := blk_frozen BK510.out 1; have hfz64_2 := blk_frozen BK510.out 2; have hfz64_3 := blk_frozen BK510.out 3; have hfz64_4 := blk_frozen BK510.out 4; obtain ⟨Ao65, co65, eo65⟩ := Kd.R_slice HO506.out; subst eo65; obtain ⟨Ao66, co66, eo66⟩ := Kd.R_slice HO509.out; subst eo66; have hcz67_0 : w61.cell? ⟨gb497, 0, none⟩ = some (.int .i64 ((rd_T25 l0_4 x3_1).f0)) := (blk_cell BK497.out 0).trans rfl; have hcz67_1 : w61.cell? ⟨gb497, 1, none⟩ = some (.int .i64 ((rd_T25 l0_4 x3_1).f1)) := (blk_cell BK497.out 1).trans rfl; have hcz67_2 : w61.cell? ⟨gb497, 2, none⟩ = some (.string ((rd_T25 l0_4 x3_1).f2)) := (blk_cell BK497.out 2).trans rfl; have hcz67_3 : w61.cell? ⟨gb497, 3, none⟩ = some (.slice A496_3 ((rd_T25 l0_4 x3_1).f3).length c496_3) := (blk_cell BK497.out 3).trans rfl; have hcz67_4 : w61.cell? ⟨gb497, 4, none⟩ = some (.slice A496_4 ((rd_T25 l0_4 x3_1).f4).length c496_4) := (blk_cell BK497.out 4).trans rfl; have hfz67_0 := blk_frozen BK497.out 0; have hfz67_1 := blk_frozen BK497.out 1; have hfz67_2 := blk_frozen BK497.out 2; have hfz67_3 := blk_frozen BK497.out 3; have hfz67_4 := blk_frozen BK497.out 4))
          go_ret
          exact ⟨by first | rfl | (simp [errW_none, errW_some] <;> rfl) | (simp [*, errW_none, errW_some] <;> rfl), by repeat (first | (with_reducible first | exact HB.out | apply below_alloc | apply pw_below_drewN | apply below_drew1 | refine below_set ?_ GE495.out | refine below_set ?_ GE497.out | refine below_set ?_ GE510.out) | exact HB.out)⟩
        ·rw [if_neg c30] at H
         have c30b0 : (a0_0 == 4) = false := beq_eq_false_iff_ne.mpr c30
         have c30b1 : (a0_0 != 4) = true := bne_iff_ne.mpr c30
         have H' := aM H
         clear H
         have hnb68 := NB495_497.out
         have hnc68 := NB497_495.out
         have hcz69_0 : wc.cell? ⟨gb495, 0, none⟩ = some (.int .i64 a0_0) := (blk_cell BK495.out 0).trans rfl
         have hcz69_1 : wc.cell? ⟨gb495, 1, none⟩ = some (.int .i64 a0_1) := (blk_cell BK495.out 1).trans rfl
         have hcz69_2 : wc.cell? ⟨gb495, 2, none⟩ = some (.string a0_2) := (blk_cell BK495.out 2).trans rfl
         have hcz69_3 : wc.cell? ⟨gb495, 3, none⟩ = some (.slice A0_3 l0_3.length c0_3) := (blk_cell BK495.out 3).trans rfl
         have hcz69_4 : wc.cell? ⟨gb495, 4, none⟩ = some (.slice (some ad496) l0_4.length c0_4) := (blk_cell BK495.out 4).trans rfl
         have hfz69_0 := blk_frozen BK495.out 0
         have hfz69_1 := blk_frozen BK495.out 1
         have hfz69_2 := blk_frozen BK495.out 2
         have hfz69_3 := blk_frozen BK495.out 3
         have hfz69_4 := blk_frozen BK495.out 4
         go_wp2
         go_roundg kj4
         case measure => have := HK1.out; have := HJ4.out; omega
         case rel => exact ⟨(wrap64 (x3_1 + 1)), (by first | rfl | (simp; done) | (simp [*]; done)), H', ⟨by have := HK1.out; have := HJ4.out; omega⟩, ⟨by (with_reducible repeat (first | refine blk_drewN ?_ _ | refine blk_drew ?_ | refine blk_alloc ?_ _)); exact BK495.out⟩, ⟨by repeat (first | (with_reducible first | exact HB.out | apply below_alloc | apply pw_below_drewN | apply below_drew1 | refine below_set ?_ GE495.out | refine below_set ?_ GE497.out) | exact HB.out)⟩⟩
    ·rw [if_neg c4] at H
     exact absurd H (by simp)
   ·rw [if_neg c3] at H
    have c3b0 : decide (x3_1 < (l0_4.length : Int)) = false := decide_eq_false c3
    clear c3
    by_cases c70 : a0_0 = 5
    ·rw [if_pos c70] at H
     have c70b0 : (a0_0 == 5) = true := beq_iff_eq.mpr c70
     have c70b1 : (a0_0 != 5) = false := bne_eq_false_iff_eq.mpr c70
     clear c70
     obtain rfl := Option.some.inj H
     have hcz71_0 : wr.cell? ⟨gb495, 0, none⟩ = some (.int .i64 a0_0) := (blk_cell BK495.out 0).trans rfl
     have hcz71_1 : wr.cell? ⟨gb495, 1, none⟩ = some (.int .i64 a0_1) := (blk_cell BK495.out 1).trans rfl
     have hcz71_2 : wr.cell? ⟨gb495, 2, none⟩ = some (.string a0_2) := (blk_cell BK495.out 2).trans rfl
     have hcz71_3 : wr.cell? ⟨gb495, 3, none⟩ = some (.slice A0_3 l0_3.length c0_3) := (blk_cell BK495.out 3).trans rfl
     have hcz71_4 : wr.cell? ⟨gb495, 4, none⟩ = some (.slice A0_4 l0_4.length c0_4) := (blk_cell BK495.out 4).trans rfl
     have hfz71_0 := blk_frozen BK495.out 0
     have hfz71_1 := blk_frozen BK495.out 1
     have hfz71_2 := blk_frozen BK495.out 2
     have hfz71_3 := blk_frozen BK495.out 3
     have hfz71_4 := blk_frozen BK495.out 4
     go_wp2
     go_ret
     exact ⟨by first | rfl | (simp [errW_none, errW_some] <;> rfl) | (simp [*, errW_none, errW_some] <;> rfl), by repeat (first | (with_reducible first | exact HB.out | apply below_alloc | apply pw_below_drewN | apply below_drew1 | refine below_set ?_ GE495.out) | exact HB.out)⟩
    ·rw [if_neg c70] at H
     have c70b0 : (a0_0 == 5) = false := beq_eq_false_iff_ne.mpr c70
     have c70b1 : (a0_0 != 5) = true := bne_iff_ne.mpr c70
     by_cases c72 : a0_0 = 4
     ·rw [if_pos c72] at H
      have c72b0 : (a0_0 == 4) = true := beq_iff_eq.mpr c72
      have c72b1 : (a0_0 != 4) = false := bne_eq_false_iff_eq.mpr c72
      clear c72
      obtain rfl := Option.some.inj H
      have hcz73_0 : wr.cell? ⟨gb495, 0, none⟩ = some (.int .i64 a0_0) := (blk_cell BK495.out 0).trans rfl
      have hcz73_1 : wr.cell? ⟨gb495, 1, none⟩ = some (.int .i64 a0_1) := (blk_cell BK495.out 1).trans rfl
      have hcz73_2 : wr.cell? ⟨gb495, 2, none⟩ = some (.string a0_2) := (blk_cell BK495.out 2).trans rfl
      have hcz73_3 : wr.cell? ⟨gb495, 3, none⟩ = some (.slice A0_3 l0_3.length c0_3) := (blk_cell BK495.out 3).trans rfl
      have hcz73_4 : wr.cell? ⟨gb495, 4, none⟩ = some (.slice A0_4 l0_4.length c0_4) := (blk_cell BK495.out 4).trans rfl
      have hfz73_0 := blk_frozen BK495.out 0
      have hfz73_1 := blk_frozen BK495.out 1
      have hfz73_2 := blk_frozen BK495.out 2
      have hfz73_3 := blk_frozen BK495.out 3
      have hfz73_4 := blk_frozen BK495.out 4
      go_wp2
      go_ret
      exact ⟨by first | rfl | (simp [errW_none, errW_some] <;> rfl) | (simp [*, errW_none, errW_some] <;> rfl), by repeat (first | (with_reducible first | exact HB.out | apply below_alloc | apply pw_below_drewN | apply below_drew1 | refine below_set ?_ GE495.out) | exact HB.out)⟩
     ·rw [if_neg c72] at H
      have c72b0 : (a0_0 == 4) = false := beq_eq_false_iff_ne.mpr c72
      have c72b1 : (a0_0 != 4) = true := bne_iff_ne.mpr c72
      obtain rfl := Option.some.inj H
      have hcz74_0 : wr.cell? ⟨gb495, 0, none⟩ = some (.int .i64 a0_0) := (blk_cell BK495.out 0).trans rfl
      have hcz74_1 : wr.cell? ⟨gb495, 1, none⟩ = some (.int .i64 a0_1) := (blk_cell BK495.out 1).trans rfl
      have hcz74_2 : wr.cell? ⟨gb495, 2, none⟩ = some (.string a0_2) := (blk_cell BK495.out 2).trans rfl
      have hcz74_3 : wr.cell? ⟨gb495, 3, none⟩ = some (.slice A0_3 l0_3.length c0_3) := (blk_cell BK495.out 3).trans rfl
      have hcz74_4 : wr.cell? ⟨gb495, 4, none⟩ = some (.slice A0_4 l0_4.length c0_4) := (blk_cell BK495.out 4).trans rfl
      have hfz74_0 := blk_frozen BK495.out 0
      have hfz74_1 := blk_frozen BK495.out 1
      have hfz74_2 := blk_frozen BK495.out 2
      have hfz74_3 := blk_frozen BK495.out 3
      have hfz74_4 := blk_frozen BK495.out 4
      go_wp2
      go_ret
      exact ⟨by first | rfl | (simp [errW_none, errW_some] <;> rfl) | (simp [*, errW_none, errW_some] <;> rfl), by repeat (first | (with_reducible first | exact HB.out | apply below_alloc | apply pw_below_drewN | apply below_drew1 | refine below_set ?_ GE495.out) | exact HB.out)⟩
end Go.Proofs.Ytaembebbaejfiaa.PS
